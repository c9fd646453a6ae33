/-
  PLAIN MATHEMATICS of seat b1820a: one part of the unique table (linear probing).
-/
namespace Go.Proofs.Ybulkakra

/-! ### one part of the unique table: slots of (hash, id), linear probing -/
abbrev Slot := Nat × Nat
def fillc (s : Nat → Slot) : Nat → Nat
  | 0 => 0
  | n + 1 => fillc s n + if (s n).2 = 0 then 0 else 1
def upS (s : Nat → Slot) (i : Nat) (x : Slot) : Nat → Slot := fun j => if j = i then x else s j
theorem upS_same (s : Nat → Slot) (i : Nat) (x : Slot) : upS s i x i = x := if_pos rfl
theorem upS_other (s : Nat → Slot) {i j : Nat} (x : Slot) (h : j ≠ i) : upS s i x j = s j := if_neg h
theorem fillc_le (s : Nat → Slot) : ∀ n, fillc s n ≤ n
  | 0 => Nat.le_refl _
  | n + 1 => by have := fillc_le s n; simp only [fillc]; split <;> omega
theorem fillc_mono (s : Nat → Slot) {k : Nat} : ∀ {n}, k ≤ n → fillc s k ≤ fillc s n
  | 0, h => by have : k = 0 := by omega
               subst this; exact Nat.le_refl _
  | n + 1, h => by
    rcases Nat.lt_or_ge k (n + 1) with h0 | h0
    · have := fillc_mono s (n := n) (by omega : k ≤ n)
      simp only [fillc]
      omega
    · have : k = n + 1 := by omega
      subst this; exact Nat.le_refl _
theorem fillc_up_ge (s : Nat → Slot) (i : Nat) (x : Slot) : ∀ n, n ≤ i → fillc (upS s i x) n = fillc s n
  | 0, _ => rfl
  | n + 1, h => by simp only [fillc]; rw [fillc_up_ge s i x n (by omega), upS_other _ _ (by omega)]
theorem fillc_up (s : Nat → Slot) (i : Nat) (x : Slot) (h0 : (s i).2 = 0) (hx : x.2 ≠ 0) : ∀ n, i < n → fillc (upS s i x) n = fillc s n + 1
  | 0, h => by omega
  | n + 1, h => by
    simp only [fillc]
    rcases Nat.lt_or_ge i n with h1 | h1
    · rw [fillc_up s i x h0 hx n h1, upS_other _ _ (by omega)]; omega
    · have : i = n := by omega
      subst this
      rw [fillc_up_ge s i x i (Nat.le_refl _), upS_same, h0, if_neg hx, if_pos rfl]
theorem fillc_empty (s : Nat → Slot) : ∀ n, fillc s n < n → ∃ j, j < n ∧ (s j).2 = 0
  | 0, h => by omega
  | n + 1, h => by
    by_cases h0 : (s n).2 = 0
    · exact ⟨n, by omega, h0⟩
    · simp only [fillc] at h
      rw [if_neg h0] at h
      obtain ⟨j, h1, h2⟩ := fillc_empty s n (by omega)
      exact ⟨j, by omega, h2⟩
theorem fillc_zero (s : Nat → Slot) : ∀ n, (∀ j, j < n → (s j).2 = 0) → fillc s n = 0
  | 0, _ => rfl
  | n + 1, h => by simp only [fillc]; rw [fillc_zero s n (fun j hj => h j (by omega)), if_pos (h n (by omega))]
/-- The slot of the probe's step T. -/
def prb (L h T : Nat) : Nat := (h / 256 + T) % L
theorem prb_lt {L h T : Nat} (hL : 0 < L) : prb L h T < L := Nat.mod_lt _ hL
theorem prb_succ (L h T : Nat) : prb L h (T + 1) = (prb L h T + 1) % L := by
  unfold prb
  rw [Nat.mod_add_mod]
  congr 1
theorem prb_onto {L h j : Nat} (hj : j < L) : ∃ T, T < L ∧ prb L h T = j := by
  have hL : 0 < L := by omega
  have hm := Nat.mod_lt (h / 256) hL
  refine ⟨(j + L - (h / 256) % L) % L, Nat.mod_lt _ hL, ?_⟩
  unfold prb
  rw [Nat.add_mod_mod, ← Nat.mod_add_mod, show h / 256 % L + (j + L - h / 256 % L) = j + L by omega, Nat.add_mod_right, Nat.mod_eq_of_lt hj]
structure Tab (L : Nat) (s : Nat → Slot) (c : Nat) : Prop where
  pow : ∃ p, L = 2 ^ p
  four : 4 ≤ L
  cnt : fillc s L = c
  probe : ∀ j, j < L → (s j).2 ≠ 0 → ∃ T, prb L (s j).1 T = j ∧ ∀ t, t < T → (s (prb L (s j).1 t)).2 ≠ 0
  lt : ∀ j, j < L → (s j).1 < 4294967296 ∧ (s j).2 < 4294967296
def Holds (L : Nat) (s : Nat → Slot) (h id : Nat) : Prop := ∃ j, j < L ∧ s j = (h, id)
/-- The probe ends. -/
theorem Tab.ends {L c : Nat} {s : Nat → Slot} (h : Tab L s c) (hc : c < L) (x : Nat) : ∃ T, T < L ∧ (s (prb L x T)).2 = 0 := by
  obtain ⟨j, h1, h2⟩ := fillc_empty s L (by rw [h.cnt]; exact hc)
  obtain ⟨T, h3, h4⟩ := prb_onto (h := x) h1
  exact ⟨T, h3, by rw [h4]; exact h2⟩
theorem Tab.in_time {L c : Nat} {s : Nat → Slot} (h : Tab L s c) (hc : c < L) (x : Nat) {T : Nat} (hT : ∀ t, t < T → (s (prb L x t)).2 ≠ 0) : T < L := by
  obtain ⟨T', h1, h2⟩ := h.ends hc x
  rcases Nat.lt_or_ge T L with h0 | h0
  · exact h0
  · exact absurd h2 (hT T' (by omega))
/-- What the probe did not find is not there. -/
theorem Tab.none {L c : Nat} {s : Nat → Slot} (h : Tab L s c) {x T : Nat} (h0 : (s (prb L x T)).2 = 0) {id : Nat} (hid : id ≠ 0) (hn : ∀ t, t < T → s (prb L x t) ≠ (x, id)) : ¬ Holds L s x id := by
  rintro ⟨j, hj, e⟩
  obtain ⟨T', h1, h2⟩ := h.probe j hj (by rw [e]; exact hid)
  rw [e] at h1 h2
  simp only at h1 h2
  rcases Nat.lt_or_ge T' T with h3 | h3
  · exact hn T' h3 (by rw [h1]; exact e)
  · rcases Nat.lt_or_ge T T' with h4 | h4
    · exact h2 T h4 h0
    · have : T = T' := by omega
      subst this
      rw [h1, e] at h0
      exact hid h0
theorem Tab.put {L c : Nat} {s : Nat → Slot} (h : Tab L s c) {x T id : Nat} (h0 : (s (prb L x T)).2 = 0) (hf : ∀ t, t < T → (s (prb L x t)).2 ≠ 0) (hid : id ≠ 0) (hx : x < 4294967296) (hi : id < 4294967296) : Tab L (upS s (prb L x T) (x, id)) (c + 1) := by
  have hL : 0 < L := by have := h.four; omega
  have keep : ∀ j, (s j).2 ≠ 0 → (upS s (prb L x T) (x, id) j).2 ≠ 0 := by
    intro j hj
    by_cases e : j = prb L x T
    · subst e; exact absurd h0 hj
    · rw [upS_other _ _ e]; exact hj
  refine ⟨h.pow, h.four, by rw [fillc_up _ _ _ h0 hid _ (prb_lt hL), h.cnt], ?_, ?_⟩
  · intro j hj hne
    by_cases e : j = prb L x T
    · subst e
      rw [upS_same]
      exact ⟨T, rfl, fun t ht => keep _ (hf t ht)⟩
    · rw [upS_other _ _ e] at hne ⊢
      obtain ⟨T', h1, h2⟩ := h.probe j hj hne
      exact ⟨T', h1, fun t ht => keep _ (h2 t ht)⟩
  · intro j hj
    by_cases e : j = prb L x T
    · subst e
      rw [upS_same]
      exact ⟨hx, hi⟩
    · rw [upS_other _ _ e]
      exact h.lt j hj
theorem holds_put {L : Nat} {s : Nat → Slot} {i x id : Nat} (hi : i < L) (h0 : (s i).2 = 0) (y k : Nat) (hk : k ≠ 0) : Holds L (upS s i (x, id)) y k ↔ Holds L s y k ∨ (y = x ∧ k = id) := by
  constructor
  · rintro ⟨j, hj, e⟩
    by_cases e1 : j = i
    · subst e1
      rw [upS_same] at e
      simp at e
      exact .inr ⟨e.1.symm, e.2.symm⟩
    · rw [upS_other _ _ e1] at e
      exact .inl ⟨j, hj, e⟩
  · rintro (⟨j, hj, e⟩ | ⟨rfl, rfl⟩)
    · by_cases e1 : j = i
      · subst e1
        rw [e] at h0
        exact absurd h0 hk
      · exact ⟨j, hj, by rw [upS_other _ _ e1]; exact e⟩
    · exact ⟨i, hi, upS_same ..⟩
theorem Tab.new (p : Nat) (hp : 2 ≤ p) : Tab (2 ^ p) (fun _ => (0, 0)) 0 := by
  refine ⟨⟨p, rfl⟩, ?_, fillc_zero _ _ (fun _ _ => rfl), fun j _ h => absurd rfl h, fun _ _ => by simp⟩
  calc 4 = 2 ^ 2 := rfl
    _ ≤ 2 ^ p := Nat.pow_le_pow_right (by omega) hp
theorem Tab.double {L c : Nat} {s : Nat → Slot} (h : Tab L s c) : Tab (2 * L) (fun _ => (0, 0)) 0 := by
  obtain ⟨p, rfl⟩ := h.pow
  have h4 := h.four
  have hp : 2 ≤ p := by
    rcases Nat.lt_or_ge p 2 with h0 | h0
    · have : 2 ^ p ≤ 2 ^ 1 := Nat.pow_le_pow_right (by omega) (by omega)
      omega
    · exact h0
  have := Tab.new (p + 1) (by omega)
  rwa [Nat.pow_succ, Nat.mul_comm] at this
theorem Tab.mask {L c : Nat} {s : Nat → Slot} (h : Tab L s c) (x : Nat) : x &&& (L - 1) = x % L := by
  obtain ⟨p, rfl⟩ := h.pow
  exact Nat.and_two_pow_sub_one_eq_mod x p
end Go.Proofs.Ybulkakra

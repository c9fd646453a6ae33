/-
  PLAIN MATHEMATICS of seat b1820a: what All comes by, in its order.
-/
import Derived.Test.YbulkakraMath
namespace Go.Proofs.Ybulkakra

/-- How many of the numbers below k are wanted. -/
def cnt (W : Nat → Bool) : Nat → Nat
  | 0 => 0
  | k + 1 => cnt W k + if W k then 1 else 0
theorem cnt_le (W : Nat → Bool) : ∀ k, cnt W k ≤ k
  | 0 => Nat.le_refl _
  | k + 1 => by have := cnt_le W k; simp only [cnt]; split <;> omega
/-- All numbers below k are dealt with. -/
def JJ (W : Nat → Bool) (k : Nat) (p : Int) (g : Nat) : Prop := p < (k : Int) ∧ g = cnt W k
theorem cnt_skip (W : Nat → Bool) (k : Nat) : ∀ n, (∀ i, k ≤ i → i < k + n → W i = false) → cnt W (k + n) = cnt W k
  | 0, _ => rfl
  | n + 1, h => by
    rw [show k + (n + 1) = (k + n) + 1 by omega]
    simp only [cnt]
    rw [cnt_skip W k n (fun i h1 h2 => h i h1 (by omega)), h (k + n) (by omega) (by omega)]
    simp
theorem JJ.skip {W : Nat → Bool} {k m : Nat} {p : Int} {g : Nat} (h : JJ W k p g) (hm : k ≤ m) (hn : ∀ i, k ≤ i → i < m → W i = false) : JJ W m p g := by
  refine ⟨by have := h.1; omega, ?_⟩
  have := cnt_skip W k (m - k) (fun i h1 h2 => hn i h1 (by omega))
  rw [show k + (m - k) = m by omega] at this
  rw [h.2, this]
theorem JJ.take {W : Nat → Bool} {k : Nat} {p : Int} {g : Nat} (h : JJ W k p g) (hk : W k = true) : JJ W (k + 1) (k : Int) (g + 1) := by
  refine ⟨by omega, ?_⟩
  simp only [cnt]
  rw [if_pos hk, h.2]
/-- The number of the values from level l on. -/
def cod : List Nat → Nat
  | [] => 0
  | x :: v => x * 4 ^ v.length + cod v
theorem cod_lt : ∀ (v : List Nat), (∀ x ∈ v, x < 4) → cod v < 4 ^ v.length
  | [], _ => by simp [cod]
  | x :: v, h => by
    have h1 := cod_lt v (fun y hy => h y (by simp [hy]))
    have h2 := h x (by simp)
    simp only [cod, List.length_cons, Nat.pow_succ]
    have : x * 4 ^ v.length + 4 ^ v.length ≤ 4 ^ v.length * 4 := by
      have := Nat.mul_le_mul_right (4 ^ v.length) (show x + 1 ≤ 4 by omega)
      rw [Nat.add_mul, Nat.one_mul, Nat.mul_comm 4] at this
      exact this
    omega
/-- Every number below 4 ^ n is one of values. -/
theorem cod_onto : ∀ (n i : Nat), i < 4 ^ n → ∃ v : List Nat, v.length = n ∧ (∀ x ∈ v, x < 4) ∧ cod v = i
  | 0, i, h => ⟨[], rfl, by simp, by simp at h; simp [cod, h]⟩
  | n + 1, i, h => by
    have hp : 0 < 4 ^ n := Nat.pow_pos (by omega)
    obtain ⟨v, h1, h2, h3⟩ := cod_onto n (i % 4 ^ n) (Nat.mod_lt _ hp)
    refine ⟨i / 4 ^ n :: v, by simp [h1], ?_, ?_⟩
    · intro x hx
      rcases List.mem_cons.1 hx with rfl | hx
      · rw [Nat.pow_succ] at h
        exact Nat.div_lt_of_lt_mul h
      · exact h2 x hx
    · simp only [cod]
      rw [h1, h3, Nat.mul_comm]
      exact Nat.div_add_mod i (4 ^ n)
/-- Set a, at level l, says which numbers from B on are wanted. -/
def Says (N : List Nd) (W : Nat → Bool) (l a B : Nat) : Prop := ∀ v, v.length + l = 3 → (∀ x ∈ v, x < 4) → (has N v l a ↔ W (B + cod v) = true)
theorem Says.none {N : List Nd} {W : Nat → Bool} {l a B i : Nat} (h : Says N W l a B) (hl : l ≤ 3) (h1 : B ≤ i) (h2 : i < B + 4 ^ (3 - l)) (hn : ∀ v, v.length + l = 3 → (∀ x ∈ v, x < 4) → cod v = i - B → ¬ has N v l a) : W i = false := by
  obtain ⟨v, v1, v2, v3⟩ := cod_onto (3 - l) (i - B) (by omega)
  have := h v (by omega) v2
  rw [v3, show B + (i - B) = i by omega] at this
  cases hw : W i with
  | false => rfl
  | true => exact absurd (this.2 hw) (hn v (by omega) v2 v3)
/-- A set whose root lies lower. -/
theorem Says.down {N : List Nd} {W : Nat → Bool} {l a B : Nat} (h : Says N W l a B) (hl : l < lev N a) : Says N W (l + 1) a B := by
  intro v hv hx
  have := h (0 :: v) (by simp; omega) (by simpa using hx)
  rw [has_skip hl] at this
  simpa [cod] using this
/-- .. and nothing else is wanted. -/
theorem Says.rest {N : List Nd} {W : Nat → Bool} {l a B : Nat} (h : Says N W l a B) (hl : l < lev N a) (hl3 : l < 3) : ∀ i, B + 4 ^ (3 - (l + 1)) ≤ i → i < B + 4 ^ (3 - l) → W i = false := by
  intro i h1 h2
  have hp : 0 < 4 ^ (3 - (l + 1)) := Nat.pow_pos (by omega)
  refine h.none (by omega) (by omega) h2 (fun v hv hx hc hh => ?_)
  cases v with
  | nil => simp at hv; omega
  | cons x v =>
    rw [has_skip hl] at hh
    simp only [cod] at hc
    rw [hh.1, Nat.zero_mul, Nat.zero_add] at hc
    have hvl : v.length = 3 - (l + 1) := by simp at hv; omega
    have := cod_lt v (fun y hy => hx y (by simp [hy]))
    rw [hvl] at this
    omega
theorem Says.downTo {N : List Nd} {W : Nat → Bool} {a B L : Nat} (hL : L ≤ lev N a) (hL3 : L ≤ 3) : ∀ (n l : Nat), l + n = L → Says N W l a B → Says N W L a B ∧ ∀ i, B + 4 ^ (3 - L) ≤ i → i < B + 4 ^ (3 - l) → W i = false
  | 0, l, e, h => by
    have : l = L := by omega
    subst this
    exact ⟨h, fun i h1 h2 => by omega⟩
  | n + 1, l, e, h => by
    obtain ⟨h1, h2⟩ := Says.downTo hL hL3 n (l + 1) (by omega) (h.down (by omega))
    refine ⟨h1, fun i a1 a2 => ?_⟩
    rcases Nat.lt_or_ge i (B + 4 ^ (3 - (l + 1))) with a3 | a3
    · exact h2 i a1 a3
    · exact h.rest (by omega) (by omega) i a3 a2
theorem inc_unique : ∀ {E : List Ed}, Inc E → ∀ {x t t' : Nat}, (x, t) ∈ E → (x, t') ∈ E → t = t'
  | [], _, _, _, _, h, _ => by simp at h
  | e :: E, hi, x, t, t', h, h' => by
    obtain ⟨h1, h2⟩ := List.pairwise_cons.1 hi
    rcases List.mem_cons.1 h with e1 | e1 <;> rcases List.mem_cons.1 h' with e2 | e2
    · rw [← e1] at e2
      simp at e2
      exact e2.symm
    · have := h1 _ e2
      rw [← e1] at this
      simp at this
    · have := h1 _ e1
      rw [← e2] at this
      simp at this
    · exact inc_unique h2 e1 e2
theorem Says.edge {N : List Nd} {W : Nat → Bool} {l a B x t : Nat} (hw : Wf N) (ha : a < N.length) (h : Says N W l a B) (hl : lev N a = l) (he : (x, t) ∈ edg N a) : Says N W (l + 1) t (B + x * 4 ^ (2 - l)) := by
  intro v hv hx
  obtain ⟨h2a, h4, _⟩ := hw.to_lt ha he
  have := h (x :: v) (by simp; omega) (by simpa using ⟨h4, hx⟩)
  rw [has_at hl] at this
  simp only [cod] at this
  rw [show v.length = 2 - l by omega] at this
  rw [Nat.add_assoc, ← this]
  constructor
  · intro hh
    exact ⟨t, he, hh⟩
  · rintro ⟨t', h1, h2⟩
    rw [inc_unique (hw.ok a h2a ha).inc he h1]
    exact h2
theorem Says.gap {N : List Nd} {W : Nat → Bool} {l a B lo hi : Nat} (h : Says N W l a B) (hl : lev N a = l) (hl2 : l ≤ 2) (hhi : hi ≤ 4) (hg : ∀ x t, (x, t) ∈ edg N a → ¬ (lo ≤ x ∧ x < hi)) : ∀ i, B + lo * 4 ^ (2 - l) ≤ i → i < B + hi * 4 ^ (2 - l) → W i = false := by
  intro i h1 h2
  have hp : 0 < 4 ^ (2 - l) := Nat.pow_pos (by omega)
  have hs : 4 ^ (3 - l) = 4 * 4 ^ (2 - l) := by rw [show 3 - l = (2 - l) + 1 by omega, Nat.pow_succ, Nat.mul_comm]
  have hm : hi * 4 ^ (2 - l) ≤ 4 * 4 ^ (2 - l) := Nat.mul_le_mul_right _ hhi
  refine h.none (by omega) (by omega) (by omega) (fun v hv hx hc hh => ?_)
  cases v with
  | nil => simp at hv; omega
  | cons x v =>
    rw [has_at hl] at hh
    obtain ⟨t, ht, _⟩ := hh
    have hvl : v.length = 2 - l := by simp at hv; omega
    have hlt := cod_lt v (fun y hy => hx y (by simp [hy]))
    simp only [cod] at hc
    rw [hvl] at hc hlt
    refine hg x t ht ⟨?_, ?_⟩
    · have : lo * 4 ^ (2 - l) < (x + 1) * 4 ^ (2 - l) := by rw [Nat.add_mul, Nat.one_mul]; omega
      have := Nat.lt_of_mul_lt_mul_right this
      omega
    · exact Nat.lt_of_mul_lt_mul_right (a := 4 ^ (2 - l)) (by omega)
/-- The nonzero values of q, with their levels. -/
def nzp (q : Nat → Nat) : Nat → List (Nat × Nat)
  | 0 => []
  | l + 1 => nzp q l ++ if q l = 0 then [] else [(l, q l)]
/-- What an array holds behind k entries. -/
def vk (P : List (Nat × Nat)) : Nat → Nat → Nat
  | 0, _ => 0
  | k + 1, i => if i = (P.getD k (0, 0)).1 then (P.getD k (0, 0)).2 else vk P k i
theorem vk_app (A B : List (Nat × Nat)) (i : Nat) : ∀ k, k ≤ A.length → vk (A ++ B) k i = vk A k i
  | 0, _ => rfl
  | k + 1, h => by
    simp only [vk]
    rw [vk_app A B i k (by omega)]
    simp [List.getElem?_append_left (show k < A.length by omega)]
theorem vk_nzp (q : Nat → Nat) : ∀ (l i : Nat), vk (nzp q l) (nzp q l).length i = if i < l then q i else 0
  | 0, i => by simp [nzp, vk]
  | l + 1, i => by
    by_cases h : q l = 0
    · simp only [nzp, if_pos h, List.append_nil]
      rw [vk_nzp q l i]
      by_cases h1 : i < l
      · rw [if_pos h1, if_pos (by omega)]
      · rw [if_neg h1]
        by_cases h2 : i = l
        · subst h2; rw [if_pos (by omega), h]
        · rw [if_neg (by omega)]
    · simp only [nzp, if_neg h, List.length_append, List.length_singleton, vk]
      rw [vk_app _ _ _ _ (Nat.le_refl _), vk_nzp q l i]
      have hg : (nzp q l ++ [(l, q l)]).getD (nzp q l).length (0, 0) = (l, q l) := by simp
      rw [hg]
      by_cases h2 : i = l
      · subst h2; rw [if_pos rfl, if_pos (by omega)]
      · rw [if_neg h2]
        by_cases h1 : i < l
        · rw [if_pos h1, if_pos (by omega)]
        · rw [if_neg h1, if_neg (by omega)]
theorem nzp_mem (q : Nat → Nat) (hq : ∀ i, q i < 4) : ∀ l, ∀ e ∈ nzp q l, e.1 < l ∧ e.2 < 4
  | 0 => by simp [nzp]
  | l + 1 => by
    intro e he
    simp only [nzp] at he
    rcases List.mem_append.1 he with he | he
    · have := nzp_mem q hq l e he
      exact ⟨by omega, this.2⟩
    · by_cases h : q l = 0
      · rw [if_pos h] at he; simp at he
      · rw [if_neg h] at he
        simp at he
        subst he
        exact ⟨by simp, hq l⟩
theorem nzp_len (q : Nat → Nat) : ∀ l, (nzp q l).length ≤ l
  | 0 => Nat.le_refl _
  | l + 1 => by
    have := nzp_len q l
    simp only [nzp]
    split <;> simp <;> omega
theorem nzp_congr (q q' : Nat → Nat) : ∀ l, (∀ i, i < l → q i = q' i) → nzp q l = nzp q' l
  | 0, _ => rfl
  | l + 1, h => by simp only [nzp]; rw [nzp_congr q q' l (fun i hi => h i (by omega)), h l (by omega)]
/-- No value at or below level l. -/
theorem nzp_top (q : Nat → Nat) (l : Nat) : ∀ n, (∀ i, l ≤ i → q i = 0) → nzp q (l + n) = nzp q l
  | 0, _ => rfl
  | n + 1, h => by
    rw [show l + (n + 1) = (l + n) + 1 by omega]
    simp only [nzp]
    rw [nzp_top q l n h, h (l + n) (by omega)]
    simp
end Go.Proofs.Ybulkakra

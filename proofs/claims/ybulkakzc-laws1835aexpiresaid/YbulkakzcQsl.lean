/-
  THE LAW's LIST OF KEYS (seat b1835a): a slice of keys, told by its cells: grown at its end, cut at its head.
-/
import Derived.Test.YbulkakzcKeys
import Derived.Deep.Upon
namespace Go.Proofs.Ybulkakzc
open Go.RowKit
set_option linter.unusedSimpArgs false

/-- The cells of a list of keys. -/
def flat : List K → List Value
  | [] => []
  | k :: l => kc k ++ flat l
theorem kc_length (k : K) : (kc k).length = 9 := rfl
theorem flat_length : ∀ l : List K, (flat l).length = l.length * 9
  | [] => rfl
  | k :: l => by rw [flat, List.length_append, flat_length l, kc_length, List.length_cons]; omega
theorem flat_app : ∀ l l' : List K, flat (l ++ l') = flat l ++ flat l'
  | [], _ => rfl
  | k :: l, l' => by rw [List.cons_append, flat, flat, flat_app l l', List.append_assoc]
theorem flat_get : ∀ (l : List K) (i : Nat) (k : K), l[i]? = some k → ∀ j, j < 9 → (flat l)[i * 9 + j]? = (kc k)[j]?
  | [], i, k, h, _, _ => by simp at h
  | x :: l, 0, k, h, j, hj => by
    simp at h
    subst h
    rw [flat, Nat.zero_mul, Nat.zero_add, List.getElem?_append_left (by rw [kc_length]; exact hj)]
  | x :: l, i + 1, k, h, j, hj => by
    simp at h
    rw [flat, List.getElem?_append_right (by rw [kc_length]; omega), kc_length, show (i + 1) * 9 + j - 9 = i * 9 + j by omega]
    exact flat_get l i k h j hj

/-- The list of keys l lies in the slice v, in the block b. -/
structure Qs (w : World) (v : Value) (b : Nat) (l : List K) : Prop where
  came : ∃ ao off cap, v = .slice ao l.length cap ∧ cap ≤ maxLen ∧ Came w 9 ao b off l.length cap (flat l) ∧ (0 < cap → b < w.heap.size)

theorem came_block {w w' : World} {ao : Option Addr} {b off len cap : Nat} {olds : List Value} (h : Came w 9 ao b off len cap olds) (hz : w.heap.size ≤ w'.heap.size) (hb : 0 < cap → w'.heap[b]? = w.heap[b]?) : Came w' 9 ao b off len cap olds := by
  rcases Nat.eq_zero_or_pos cap with h0 | h0
  · subst h0
    refine ⟨h.le, h.addr, fun h1 => by omega, h.oldsLen, fun j u hu => ?_, fun j hj => by omega⟩
    have h1 := h.oldsLen
    have h2 := h.le
    have : len = 0 := by omega
    subst this
    have : olds = [] := List.eq_nil_of_length_eq_zero (by simpa using h1)
    subst this
    simp at hu
  · have e := hb h0
    exact ⟨h.le, h.addr, fun h1 => Nat.lt_of_lt_of_le (h.lt h1) hz, h.oldsLen, fun j u hu => (World.cell?_of_block (a := ⟨b, off + j, none⟩) e).trans (h.olds j u hu),
      fun j hj => ⟨by rw [World.cell?_of_block (a := ⟨b, off + len * 9 + j, none⟩) e]; exact (h.spare j hj).1, (World.frozen?_of_block (a := ⟨b, off + len * 9 + j, none⟩) e).trans (h.spare j hj).2⟩⟩

theorem Qs.of_block {w w' : World} {v : Value} {b : Nat} {l : List K} (h : Qs w v b l) (hz : w.heap.size ≤ w'.heap.size) (hb : b < w.heap.size → w'.heap[b]? = w.heap[b]?) : Qs w' v b l := by
  obtain ⟨ao, off, cap, hv, hm, hc, hlt⟩ := h.came
  exact ⟨ao, off, cap, hv, hm, came_block hc hz (fun h0 => hb (hlt h0)), fun h0 => Nat.lt_of_lt_of_le (hlt h0) hz⟩

theorem Qs.empty (w : World) (b : Nat) : Qs w (.slice none 0 0) b [] :=
  ⟨none, 0, 0, rfl, Nat.zero_le _, ⟨Nat.le_refl _, fun h => by omega, fun h => by omega, rfl, fun j u hu => by simp [flat] at hu, fun j hj => by omega⟩, fun h => by omega⟩

/-- One key more. -/
theorem Qs.push {w : World} {v : Value} {b : Nat} {l : List K} (h : Qs w v b l) (k : K) (tx ty e' : TypeId) (hk : Yba.prog.underlying tx = some (.slice e')) (x : Addr) (c : Nat) (hx : ∀ j u, (kc k)[j]? = some u → w.cell? (x.add j) = some u) (hl : l.length + 1 ≤ 1000000) :
    ∃ v' w' b', (Builtin.append_ #[96, tx] ty #[v, .slice (some x) 1 c]).run Yba.prog w = .ok v' w' ∧ Qs w' v' b' (l ++ [k]) ∧ (b' = b ∨ w.heap.size ≤ b') ∧ w'.os = w.os ∧ w'.output = w.output ∧ w.heap.size ≤ w'.heap.size ∧ ∀ j, j < w.heap.size → j ≠ b → w'.heap[j]? = w.heap[j]? := by
  obtain ⟨ao, off, cap, rfl, hm, hc, hlt⟩ := h.came
  obtain ⟨i, hi, hz, hs, hby⟩ : ∃ i : TypeInfo, Yba.prog.info? 60 = some i ∧ i.zero = some (kv ⟨0, 0, 0⟩) ∧ i.size = 9 ∧ i.bytes ≤ 1000 := by
    have : ((Yba.prog.info? 60).any fun i => decide (i.size = 9 ∧ i.bytes ≤ 1000)) = true := by kernel_rfl
    have h2 : (Yba.prog.info? 60).bind (·.zero) = some (kv ⟨0, 0, 0⟩) := by kernel_rfl
    cases hq : Yba.prog.info? 60 with
    | none => rw [hq] at this; simp at this
    | some i =>
      rw [hq] at this h2
      simp at this h2
      exact ⟨i, rfl, h2, this.1, this.2⟩
  have hu : Yba.prog.underlying 96 = some (.slice 60) := Yba.underlying96
  have hsrc : Src Yba.prog 9 tx (.slice (some x) 1 c) 1 (kc k) w := Src.ofSlice w hk x 1 c (kc k) rfl hx (by
    intro u hu
    simp only [kc, List.mem_cons, List.not_mem_nil, or_false] at hu
    rcases hu with rfl | rfl | rfl | rfl | rfl | rfl | rfl | rfl | rfl <;> rfl)
  have hb2 : (l.length + 0 + 1) * i.bytes ≤ 140737488355328 := by
    have : (l.length + 0 + 1) * i.bytes ≤ 1000000 * 1000 := Nat.mul_le_mul (by omega) hby
    omega
  obtain ⟨v', w', hrun, hU⟩ := run_append_upon (P := Yba.prog) hc 96 tx ty i (kv ⟨0, 0, 0⟩) i.bytes hu hi hz hs rfl rfl (Upon.start hc) (.slice (some x) 1 c) 1 (kc k) hsrc (by unfold maxLen; omega) hb2
  have hLen : (l ++ [k]).length = l.length + 1 := by simp
  have hFl : flat (l ++ [k]) = flat l ++ kc k := by rw [flat_app]; simp [flat]
  have hsz := hU.kept.size
  have hblk : ∀ j, j < w.heap.size → j ≠ b → w'.heap[j]? = w.heap[j]? := fun j hj hne => hU.kept.block hj (by
    rintro p ⟨t, _, rfl⟩ e
    exact hne e.symm)
  rw [Nat.zero_add, List.nil_append] at hU
  rcases hU.val with ⟨hle, rfl, hr⟩ | ⟨hgt, g, c', rfl, hO⟩
  · have hcap : 0 < cap := by omega
    refine ⟨_, w', b, hrun, ⟨ao, off, cap, by rw [hLen], hm, ?_, fun h0 => Nat.lt_of_lt_of_le (hlt h0) hsz⟩, Or.inl rfl, hU.kept.1, hU.kept.2.1, hsz, hblk⟩
    rw [hLen, hFl]
    refine ⟨hle, hc.addr, fun h0 => Nat.lt_of_lt_of_le (hc.lt h0) hsz, by rw [List.length_append, flat_length, kc_length]; omega, ?_, ?_⟩
    · intro j u hu'
      have hj : j < (l.length + 1) * 9 := by
        have := (List.getElem?_eq_some_iff.1 hu').1
        rw [List.length_append, flat_length, kc_length] at this
        omega
      exact (hU.inArray hc hcap hr j hj).trans hu'
    · intro j hj
      have hj2 : 9 + j < (cap - l.length) * 9 := by omega
      have hs2 := hc.spare (9 + j) hj2
      rw [show off + l.length * 9 + (9 + j) = off + (l.length + 1) * 9 + j by omega] at hs2
      refine ⟨?_, (hU.frozen _ (hc.lt hcap)).trans hs2.2⟩
      rw [hU.old (hc.lt hcap) (by
        rintro t ht ⟨_, e2⟩
        have := hU.rLe
        rw [kc_length] at this
        omega)]
      exact hs2.1
  · refine ⟨_, w', g, hrun, ⟨some ⟨g, 0, none⟩, 0, c', by rw [hLen], hO.max, ?_, fun h0 => ?_⟩, Or.inr hO.new, hU.kept.1, hU.kept.2.1, hsz, hblk⟩
    · rw [hLen, hFl]
      refine ⟨hO.le, fun _ => rfl, fun h0 => ?_, by rw [List.length_append, flat_length, kc_length]; omega, ?_, ?_⟩
      · exact World.block_lt_of_cell? _ _ (Option.isSome_iff_exists.1 (hO.there 0 (by omega)).1).choose_spec
      · intro j u hu'
        have hj : j < (l.length + 1) * 9 := by
          have := (List.getElem?_eq_some_iff.1 hu').1
          rw [List.length_append, flat_length, kc_length] at this
          omega
        rw [Nat.zero_add]
        exact (hO.holds j hj).trans hu'
      · intro j hj
        have := hO.there ((l.length + 1) * 9 + j) (by omega)
        rw [Nat.zero_add]
        exact this
    · exact World.block_lt_of_cell? _ _ (Option.isSome_iff_exists.1 (hO.there 0 (by omega)).1).choose_spec

/-- The head cut off. -/
theorem Qs.pop {w : World} {b off cap : Nat} {k : K} {l : List K} {ao : Option Addr} (hm : cap ≤ maxLen) (hc : Came w 9 ao b off (l.length + 1) cap (flat (k :: l))) (ao' : Option Addr) (ha : 0 < cap - 1 → ao' = some ⟨b, off + 9, none⟩) : Qs w (.slice ao' l.length (cap - 1)) b l := by
  have hle := hc.le
  refine ⟨ao', off + 9, cap - 1, rfl, by omega, ⟨by omega, ha, fun h0 => hc.lt (by omega), flat_length l, fun j u hu => ?_, fun j hj => ?_⟩, fun h0 => hc.lt (by omega)⟩
  · have := hc.olds (9 + j) u (by rw [flat, List.getElem?_append_right (by rw [kc_length]; omega), kc_length, Nat.add_sub_cancel_left]; exact hu)
    rw [Nat.add_assoc]
    exact this
  · have := hc.spare j (by omega)
    rw [show off + (l.length + 1) * 9 + j = off + 9 + l.length * 9 + j by omega] at this
    exact this

/-- A key's cells. -/
def KeyAt (w : World) (b o : Nat) (k : K) : Prop := w.cell? ⟨b, o, none⟩ = some (.int .u64 0) ∧ w.cell? ⟨b, o + 1, none⟩ = some (.int .u64 0) ∧ w.cell? ⟨b, o + 2, none⟩ = some (.pointer none) ∧ w.cell? ⟨b, o + 3, none⟩ = some (.int .u16 k.s) ∧ w.cell? ⟨b, o + 4, none⟩ = some (.int .u64 0) ∧ w.cell? ⟨b, o + 5, none⟩ = some (.int .u64 0) ∧ w.cell? ⟨b, o + 6, none⟩ = some (.pointer none) ∧ w.cell? ⟨b, o + 7, none⟩ = some (.int .u16 k.d) ∧ w.cell? ⟨b, o + 8, none⟩ = some (.int .u32 k.i)

/-- The i-th key's cells. -/
theorem Qs.at {w : World} {ao : Option Addr} {b off n cap : Nat} {l : List K} (hc : Came w 9 ao b off n cap (flat l)) (i : Nat) (k : K) (h : l[i]? = some k) : KeyAt w b (off + i * 9) k := by
  have hat : ∀ j u, (kc k)[j]? = some u → w.cell? ⟨b, off + i * 9 + j, none⟩ = some u := by
    intro j u hu
    have hj : j < 9 := by have := (List.getElem?_eq_some_iff.1 hu).1; rwa [kc_length] at this
    have := hc.olds (i * 9 + j) u ((flat_get l i k h j hj).trans hu)
    rw [← Nat.add_assoc] at this
    exact this
  exact ⟨hat 0 _ rfl, hat 1 _ rfl, hat 2 _ rfl, hat 3 _ rfl, hat 4 _ rfl, hat 5 _ rfl, hat 6 _ rfl, hat 7 _ rfl, hat 8 _ rfl⟩

theorem KeyAt.of_block {w w' : World} {b o : Nat} {k : K} (h : KeyAt w b o k) (e : w'.heap[b]? = w.heap[b]?) : KeyAt w' b o k := by
  have c : ∀ j, w'.cell? ⟨b, j, none⟩ = w.cell? ⟨b, j, none⟩ := fun j => World.cell?_of_block (a := ⟨b, j, none⟩) e
  obtain ⟨h0, h1, h2, h3, h4, h5, h6, h7, h8⟩ := h
  exact ⟨(c _).trans h0, (c _).trans h1, (c _).trans h2, (c _).trans h3, (c _).trans h4, (c _).trans h5, (c _).trans h6, (c _).trans h7, (c _).trans h8⟩
end Go.Proofs.Ybulkakzc

/-
  LINES: a slice of datagrams (seat b1835a), told by its cells: grown at its end.
-/
import Derived.Test.YbulkakzcListok
import Derived.Deep.Upon
namespace Go.Proofs.Ybulkakzc
open Go.RowKit
set_option linter.unusedSimpArgs false

/-- A line. -/
structure Dg where
  k : K
  ver : ByteArray
  rs : ByteArray
  frag : Int
def Dg.cells (d : Dg) : List Value := (dg d.k d.ver d.rs d.frag).toList
theorem Dg.cells_length (d : Dg) : d.cells.length = 35 := rfl

/-- The cells of a list of lines. -/
def flatD : List Dg → List Value
  | [] => []
  | d :: l => d.cells ++ flatD l
theorem flatD_length : ∀ l : List Dg, (flatD l).length = l.length * 35
  | [] => rfl
  | d :: l => by rw [flatD, List.length_append, flatD_length l, Dg.cells_length, List.length_cons]; omega
theorem flatD_app : ∀ l l' : List Dg, flatD (l ++ l') = flatD l ++ flatD l'
  | [], _ => rfl
  | d :: l, l' => by rw [List.cons_append, flatD, flatD, flatD_app l l', List.append_assoc]
theorem flatD_get : ∀ (l : List Dg) (i : Nat) (d : Dg), l[i]? = some d → ∀ j, j < 35 → (flatD l)[i * 35 + j]? = d.cells[j]?
  | [], i, d, h, _, _ => by simp at h
  | x :: l, 0, d, h, j, hj => by
    simp at h
    subst h
    rw [flatD, Nat.zero_mul, Nat.zero_add, List.getElem?_append_left (by rw [Dg.cells_length]; exact hj)]
  | x :: l, i + 1, d, h, j, hj => by
    simp at h
    rw [flatD, List.getElem?_append_right (by rw [Dg.cells_length]; omega), Dg.cells_length, show (i + 1) * 35 + j - 35 = i * 35 + j by omega]
    exact flatD_get l i d h j hj

/-- The lines l lie in the slice v, in the block b. -/
structure Ds (w : World) (v : Value) (b : Nat) (l : List Dg) : Prop where
  came : ∃ ao off cap, v = .slice ao l.length cap ∧ cap ≤ maxLen ∧ Came w 35 ao b off l.length cap (flatD l) ∧ (0 < cap → b < w.heap.size)

theorem came35_block {w w' : World} {ao : Option Addr} {b off len cap : Nat} {olds : List Value} (h : Came w 35 ao b off len cap olds) (hz : w.heap.size ≤ w'.heap.size) (hb : 0 < cap → w'.heap[b]? = w.heap[b]?) : Came w' 35 ao b off len cap olds := by
  rcases Nat.eq_zero_or_pos cap with h0 | h0
  · subst h0
    refine ⟨h.le, h.addr, fun h1 => by omega, h.oldsLen, fun j u hu => ?_, fun j hj => by omega⟩
    have h1 := h.oldsLen
    have h2 := h.le
    have : len = 0 := by omega
    subst this
    have : olds = [] := List.eq_nil_of_length_eq_zero (by simpa using h1)
    subst this
    simp at hu
  · have e := hb h0
    exact ⟨h.le, h.addr, fun h1 => Nat.lt_of_lt_of_le (h.lt h1) hz, h.oldsLen, fun j u hu => (World.cell?_of_block (a := ⟨b, off + j, none⟩) e).trans (h.olds j u hu),
      fun j hj => ⟨by rw [World.cell?_of_block (a := ⟨b, off + len * 35 + j, none⟩) e]; exact (h.spare j hj).1, (World.frozen?_of_block (a := ⟨b, off + len * 35 + j, none⟩) e).trans (h.spare j hj).2⟩⟩

theorem Ds.of_block {w w' : World} {v : Value} {b : Nat} {l : List Dg} (h : Ds w v b l) (hz : w.heap.size ≤ w'.heap.size) (hb : b < w.heap.size → w'.heap[b]? = w.heap[b]?) : Ds w' v b l := by
  obtain ⟨ao, off, cap, hv, hm, hc, hlt⟩ := h.came
  exact ⟨ao, off, cap, hv, hm, came35_block hc hz (fun h0 => hb (hlt h0)), fun h0 => Nat.lt_of_lt_of_le (hlt h0) hz⟩

theorem Ds.empty (w : World) (b : Nat) : Ds w (.slice none 0 0) b [] :=
  ⟨none, 0, 0, rfl, Nat.zero_le _, ⟨Nat.le_refl _, fun h => by omega, fun h => by omega, rfl, fun j u hu => by simp [flatD] at hu, fun j hj => by omega⟩, fun h => by omega⟩

/-- One key more. -/
theorem Ds.push {w : World} {v : Value} {b : Nat} {l : List Dg} (h : Ds w v b l) (d : Dg) (tx ty e' : TypeId) (hk : Yba.prog.underlying tx = some (.slice e')) (x : Addr) (c : Nat) (hx : ∀ j u, (d.cells)[j]? = some u → w.cell? (x.add j) = some u) (hl : l.length + 1 ≤ 1000000) :
    ∃ v' w' b', (Builtin.append_ #[72, tx] ty #[v, .slice (some x) 1 c]).run Yba.prog w = .ok v' w' ∧ Ds w' v' b' (l ++ [d]) ∧ (b' = b ∨ w.heap.size ≤ b') ∧ w'.os = w.os ∧ w'.output = w.output ∧ w.heap.size ≤ w'.heap.size ∧ ∀ j, j < w.heap.size → j ≠ b → w'.heap[j]? = w.heap[j]? := by
  obtain ⟨ao, off, cap, rfl, hm, hc, hlt⟩ := h.came
  obtain ⟨i, hi, hz, hs, hby⟩ : ∃ i : TypeInfo, Yba.prog.info? 88 = some i ∧ i.zero = some (.agg dz) ∧ i.size = 35 ∧ i.bytes ≤ 100000 := by
    have : ((Yba.prog.info? 88).any fun i => decide (i.size = 35 ∧ i.bytes ≤ 100000)) = true := by kernel_rfl
    have h2 : (Yba.prog.info? 88).bind (·.zero) = some (.agg dz) := by kernel_rfl
    cases hq : Yba.prog.info? 88 with
    | none => rw [hq] at this; simp at this
    | some i =>
      rw [hq] at this h2
      simp at this h2
      exact ⟨i, rfl, h2, this.1, this.2⟩
  have hu : Yba.prog.underlying 72 = some (.slice 88) := Yba.underlying72
  have hsrc : Src Yba.prog 35 tx (.slice (some x) 1 c) 1 (d.cells) w := Src.ofSlice w hk x 1 c (d.cells) rfl hx (by
    intro u hu
    have h1 := dg_one d.k d.ver d.rs d.frag
    rw [Array.all_eq_true] at h1
    obtain ⟨j, hj, rfl⟩ := List.getElem_of_mem hu
    exact h1 j (by simpa [Dg.cells] using hj))
  have hb2 : (l.length + 0 + 1) * i.bytes ≤ 140737488355328 := by
    have : (l.length + 0 + 1) * i.bytes ≤ 1000000 * 100000 := Nat.mul_le_mul (by omega) hby
    omega
  obtain ⟨v', w', hrun, hU⟩ := run_append_upon (P := Yba.prog) hc 72 tx ty i (.agg dz) i.bytes hu hi hz hs rfl rfl (Upon.start hc) (.slice (some x) 1 c) 1 (d.cells) hsrc (by unfold maxLen; omega) hb2
  have hLen : (l ++ [d]).length = l.length + 1 := by simp
  have hFl : flatD (l ++ [d]) = flatD l ++ d.cells := by rw [flatD_app]; simp [flatD]
  have hsz := hU.kept.size
  have hblk : ∀ j, j < w.heap.size → j ≠ b → w'.heap[j]? = w.heap[j]? := fun j hj hne => hU.kept.block hj (by
    rintro p ⟨t, _, rfl⟩ e
    exact hne e.symm)
  rw [Nat.zero_add, List.nil_append] at hU
  rcases hU.val with ⟨hle, rfl, hr⟩ | ⟨hgt, g, c', rfl, hO⟩
  · have hcap : 0 < cap := by omega
    refine ⟨_, w', b, hrun, ⟨ao, off, cap, by rw [hLen], hm, ?_, fun h0 => Nat.lt_of_lt_of_le (hlt h0) hsz⟩, Or.inl rfl, hU.kept.1, hU.kept.2.1, hsz, hblk⟩
    rw [hLen, hFl]
    refine ⟨hle, hc.addr, fun h0 => Nat.lt_of_lt_of_le (hc.lt h0) hsz, by rw [List.length_append, flatD_length, Dg.cells_length]; omega, ?_, ?_⟩
    · intro j u hu'
      have hj : j < (l.length + 1) * 35 := by
        have := (List.getElem?_eq_some_iff.1 hu').1
        rw [List.length_append, flatD_length, Dg.cells_length] at this
        omega
      exact (hU.inArray hc hcap hr j hj).trans hu'
    · intro j hj
      have hj2 : 35 + j < (cap - l.length) * 35 := by omega
      have hs2 := hc.spare (35 + j) hj2
      rw [show off + l.length * 35 + (35 + j) = off + (l.length + 1) * 35 + j by omega] at hs2
      refine ⟨?_, (hU.frozen _ (hc.lt hcap)).trans hs2.2⟩
      rw [hU.old (hc.lt hcap) (by
        rintro t ht ⟨_, e2⟩
        have := hU.rLe
        rw [Dg.cells_length] at this
        omega)]
      exact hs2.1
  · refine ⟨_, w', g, hrun, ⟨some ⟨g, 0, none⟩, 0, c', by rw [hLen], hO.max, ?_, fun h0 => ?_⟩, Or.inr hO.new, hU.kept.1, hU.kept.2.1, hsz, hblk⟩
    · rw [hLen, hFl]
      refine ⟨hO.le, fun _ => rfl, fun h0 => ?_, by rw [List.length_append, flatD_length, Dg.cells_length]; omega, ?_, ?_⟩
      · exact World.block_lt_of_cell? _ _ (Option.isSome_iff_exists.1 (hO.there 0 (by omega)).1).choose_spec
      · intro j u hu'
        have hj : j < (l.length + 1) * 35 := by
          have := (List.getElem?_eq_some_iff.1 hu').1
          rw [List.length_append, flatD_length, Dg.cells_length] at this
          omega
        rw [Nat.zero_add]
        exact (hO.holds j hj).trans hu'
      · intro j hj
        have := hO.there ((l.length + 1) * 35 + j) (by omega)
        rw [Nat.zero_add]
        exact this
    · exact World.block_lt_of_cell? _ _ (Option.isSome_iff_exists.1 (hO.there 0 (by omega)).1).choose_spec


/-- The i-th line's cells. -/
theorem Ds.at {w : World} {ao : Option Addr} {b off n cap : Nat} {l : List Dg} (hc : Came w 35 ao b off n cap (flatD l)) (i : Nat) (d : Dg) (h : l[i]? = some d) : ∀ j u, d.cells[j]? = some u → w.cell? ⟨b, off + i * 35 + j, none⟩ = some u := by
  intro j u hu
  have hj : j < 35 := by have := (List.getElem?_eq_some_iff.1 hu).1; rwa [Dg.cells_length] at this
  have := hc.olds (i * 35 + j) u ((flatD_get l i d h j hj).trans hu)
  rw [← Nat.add_assoc] at this
  exact this
theorem Ds.lt {w : World} {v : Value} {b : Nat} {l : List Dg} (h : Ds w v b l) (hne : l ≠ []) : b < w.heap.size := by
  obtain ⟨ao, off, cap, hv, hm, hc, hlt⟩ := h.came
  have := hc.le
  have h0 : 0 < l.length := List.length_pos_iff.2 hne
  exact hlt (by omega)
end Go.Proofs.Ybulkakzc

/-
  THE LAW's LOOPS, of seat b1820a.
-/
import Derived.Test.YbulkakraLaw1
namespace Go.Proofs.Ybulkakra
open Go.RowKit
set_option linter.unusedSimpArgs false
set_option linter.unusedVariables false

/-- The input: n numbers X. -/
def InRow (w : World) (ao : Option Addr) (n : Nat) (X : Nat → Nat) : Prop := (n = 0) ∨ ∃ bb o, ao = some ⟨bb, o, none⟩ ∧ ∀ i, i < n → w.cell? ⟨bb, o + i, none⟩ = some (.int .u16 (X i : Int)) ∧ X i < 65536
theorem InRow.cell {w w' : World} {ao : Option Addr} {n : Nat} {X : Nat → Nat} (h : InRow w ao n X) (k : Jk w w') {i : Nat} (hi : i < n) : ∃ bb o, ao = some ⟨bb, o, none⟩ ∧ w'.cell? ⟨bb, o + i, none⟩ = some (.int .u16 (X i : Int)) ∧ X i < 65536 := by
  rcases h with h | ⟨bb, o, h1, h2⟩
  · omega
  · exact ⟨bb, o, h1, k.cell (h2 i hi).1, (h2 i hi).2⟩
/-- What loop i of an input has put in. -/
def inX (X : Nat → Nat) (i : Nat) (c : Nat) : Prop := ∃ j, j < i ∧ cx (X j) = c
theorem inX_zero (X : Nat → Nat) (c : Nat) : ¬ inX X 0 c := by rintro ⟨j, h, _⟩; omega
theorem inX_succ (X : Nat → Nat) (i c : Nat) : inX X (i + 1) c ↔ inX X i c ∨ c = cx (X i) := by
  constructor
  · rintro ⟨j, h, e⟩
    by_cases hj : j = i
    · subst hj; exact .inr e.symm
    · exact .inl ⟨j, by omega, e⟩
  · rintro (⟨j, h, e⟩ | e)
    · exact ⟨j, by omega, e⟩
    · exact ⟨i, by omega, e.symm⟩
theorem Sem3.iff {N : List Nd} {s : Nat} {A B : Nat → Prop} (h : Sem3 N s A) (e : ∀ c, A c ↔ B c) : Sem3 N s B := fun v h1 h2 => (h v h1 h2).trans (e _)
theorem li_start {w w1 : World} {d : Nat} {tg : Nat → Nat} (h : St tg w1 d N0 [] ∧ Jk w w1 ∧ (∀ b, b < w.heap.size → tg b = 0) ∧ w.heap.size ≤ d) (cs : Array Value) (t : TypeId) (hc : ∀ i, i < 64 → cs[i]? = some (.bool false)) :
    LI w d w1.heap.size (w1.alloc (.cells cs t)) (tagAt tg w1.heap.size 0) N0 (fun _ => false) 0 := by
  obtain ⟨⟨C, hC⟩, hJ, ht, hd⟩ := h
  refine ⟨⟨C, hC.fr ((Fr.refl (fun _ => False) tg w1).alloc _ 0) (fun _ _ h => h)⟩, N0_wf, Row.new w1 cs t 64 _ hc, ?_, fun b hb => ?_, hJ.alloc _, by simp [N0], by simp [N0, esum], hJ.size⟩
  · unfold tagAt; simp
  · have := hJ.size
    unfold tagAt
    rw [if_neg (by omega)]
    exact ht b hb
/-- Loop 1's books. -/
def L1 (w : World) (d bw : Nat) (wr : World) (X : Nat → Nat) (i s : Nat) : Prop := ∃ tg N W, LI w d bw wr tg N W i ∧ s < N.length ∧ Sem3 N s (inX X i) ∧ ∀ c, W c = true ↔ inX X i c
/-- One round of it. -/
theorem l1_step {w : World} {d bw : Nat} {wr : World} {X : Nat → Nat} {i s : Nat} (h : L1 w d bw wr X i s) (hi : i < 1024) (hx : X i < 65536) :
    Calls Yba.prog 7 #[.pointer (some ⟨d, 0, none⟩), .int .u16 (X i : Int)] wr fun e w2 => ∃ r, e = .returned (.int .u32 ((r : Nat) : Int)) ∧ Calls Yba.prog 6 #[.pointer (some ⟨d, 0, none⟩), .int .u32 (s : Int), .int .u32 (r : Int)] w2 fun e w3 => ∃ s', e = .returned (.int .u32 ((s' : Nat) : Int)) ∧ (∃ u, w3.cell? ⟨bw, cx (X i), none⟩ = some u) ∧ w3.frozen? ⟨bw, cx (X i), none⟩ = false ∧ L1 w d bw (w3.setCell ⟨bw, cx (X i), none⟩ (.bool true)) X (i + 1) s' := by
  obtain ⟨tg, N, W, h1, h2, h3, h4⟩ := h
  refine (law_step h1 (by omega) h2 h3 hx).mono ?_
  rintro e w2 ⟨r, rfl, hc⟩
  refine ⟨r, rfl, hc.mono ?_⟩
  rintro e w3 ⟨s', rfl, hu, hf, tg', N', q1, q2, q3, q4⟩
  refine ⟨s', rfl, hu, hf, tg', N', _, q1, q2, q4.iff fun c => (inX_succ X i c).symm, fun c => ?_⟩
  rw [inX_succ, ← h4]
  unfold upW
  split
  · next e => simp [e]
  · next e => simp [e]
/-- Loop 2's books. -/
def L2 (w : World) (d bw : Nat) (wr : World) (X Y : Nat → Nat) (l i a s : Nat) : Prop := ∃ tg N W, LI w d bw wr tg N W (l + i) ∧ s < N.length ∧ Sem3 N s (inX Y i) ∧ a < N.length ∧ Sem3 N a (inX X l) ∧ ∀ c, W c = true ↔ inX X l c ∨ inX Y i c
theorem L1.two {w : World} {d bw : Nat} {wr : World} {X : Nat → Nat} {l s : Nat} (h : L1 w d bw wr X l s) (Y : Nat → Nat) : L2 w d bw wr X Y l 0 s 0 := by
  obtain ⟨tg, N, W, h1, h2, h3, h4⟩ := h
  refine ⟨tg, N, W, h1, by omega, fun v _ _ => ⟨fun hh => absurd hh (has_zero h1.wf v 0), fun hh => absurd hh (inX_zero Y _)⟩, h2, h3, fun c => ?_⟩
  rw [h4]
  have := inX_zero Y c
  simp [this]
theorem l2_step {w : World} {d bw : Nat} {wr : World} {X Y : Nat → Nat} {l i a s : Nat} (h : L2 w d bw wr X Y l i a s) (hl : l ≤ 1024) (hi : i < 1024) (hx : Y i < 65536) :
    Calls Yba.prog 7 #[.pointer (some ⟨d, 0, none⟩), .int .u16 (Y i : Int)] wr fun e w2 => ∃ r, e = .returned (.int .u32 ((r : Nat) : Int)) ∧ Calls Yba.prog 6 #[.pointer (some ⟨d, 0, none⟩), .int .u32 (s : Int), .int .u32 (r : Int)] w2 fun e w3 => ∃ s', e = .returned (.int .u32 ((s' : Nat) : Int)) ∧ (∃ u, w3.cell? ⟨bw, cx (Y i), none⟩ = some u) ∧ w3.frozen? ⟨bw, cx (Y i), none⟩ = false ∧ L2 w d bw (w3.setCell ⟨bw, cx (Y i), none⟩ (.bool true)) X Y l (i + 1) a s' := by
  obtain ⟨tg, N, W, h1, h2, h3, ha, hsa, h4⟩ := h
  refine (law_step h1 (by omega) h2 h3 hx).mono ?_
  rintro e w2 ⟨r, rfl, hc⟩
  refine ⟨r, rfl, hc.mono ?_⟩
  rintro e w3 ⟨s', rfl, hu, hf, tg', N', q1, q2, q3, q4⟩
  refine ⟨s', rfl, hu, hf, tg', N', _, q1, q2, q4.iff fun c => (inX_succ Y i c).symm, Nat.lt_of_lt_of_le ha q3.length_le, hsa.ext h1.wf q3 ha, fun c => ?_⟩
  rw [inX_succ, ← or_assoc, ← h4]
  unfold upW
  split
  · next e => simp [e]
  · next e => simp [e]
/-- The last union's books. -/
def L3 (w : World) (d bw : Nat) (wr : World) (u : Nat) (W : Nat → Bool) : Prop := ∃ tg N m, LI w d bw wr tg N W m ∧ m ≤ 2100 ∧ u < N.length ∧ Says N W 0 u 0
theorem l2_end {w : World} {d bw : Nat} {wr : World} {X Y : Nat → Nat} {l i a s : Nat} (h : L2 w d bw wr X Y l i a s) (hl : l ≤ 1024) (hi : i ≤ 1024) :
    Calls Yba.prog 6 #[.pointer (some ⟨d, 0, none⟩), .int .u32 (a : Int), .int .u32 (s : Int)] wr fun e w3 => ∃ u W, e = .returned (.int .u32 ((u : Nat) : Int)) ∧ L3 w d bw w3 u W := by
  obtain ⟨tg, N, W, h1, h2, h3, ha, hsa, h4⟩ := h
  have hl := h1.len
  have he := h1.es
  have hc : cost 4 3 = 21 := rfl
  refine (union_all 4 (.inr rfl) 3 tg wr d N [] a s h1.st h1.wf ha h2 (by omega) (.inl rfl) (by omega) (by omega) (by simp)).mono ?_
  rintro e w3 ⟨u, rfl, tg3, N3, y1, y2, y3, y4, y5, y6, y7⟩
  refine ⟨u, W, rfl, tg3, N3, l + i + 6, h1.keep (m' := l + i + 6) y7 y1 y2 (by omega) (by omega), by omega, y4.r_lt, fun v hv hx => ?_⟩
  rw [y4.sem v 0 (by omega) (by omega) (by omega)]
  have e1 := (has_ext h1.wf y3 v 0 a ha).trans (hsa v (by omega) hx)
  have e2 := (has_ext h1.wf y3 v 0 s h2).trans (h3 v (by omega) hx)
  rw [e1, e2, Nat.zero_add, h4]
  unfold opS
  simp
end Go.Proofs.Ybulkakra

/-
  The proof of 'Rows.LawS1835CAbandonSaid': the frame after the guide's shells, for two bytes and a slice of structs; the walk out of YbulkakzcLaw.
-/
import Derived.Test.YbulkakzcRows
import Derived.WalkKit
import Derived.Test.YbulkakzcLaw
import Derived.ProofKit
import Derived.OpenShut
import Derived.ChangeOld
import Derived.Below
import Derived.Deep.SlicePairs
namespace Go.Proofs.Ybulkakzc.lawS1835CAbandon
open Go.ChangeShapes Go.WideShapes Go.ChangeAt Go.RowKit

theorem own : ownKnob Yba.prog.godebug = none := by kernel_rfl
theorem laidOut : laidOutB Yba.prog = true := by kernel_rfl

theorem same_frame {W w' : World} (h : Same W w') (may : MemPlace → Prop) : W.keptBut w' may := by
  refine ⟨h.os, h.output, fun i hi => ?_⟩
  rw [h.block i hi]
  split <;> simp_all
theorem same_trod {H : Type} {enc : TypeId × Value → H} {P : Program} {t : TypeId} (hl : laidOutB P = true) (hr : P.readableRec t = true) (hrow : t < P.types.size) {W W' : World} {v : Value} {d : DataW H} {ps : List MemPlace}
    (h : DataW.Trod enc P W 0 (fun _ => true) true t v d ps) (hb : Same W W') (hlt : ∀ x ∈ ps, x.block < W.heap.size) :
    DataW.Trod enc P W' 0 (fun b => decide (b < W.heap.size)) true t v d ps := by
  refine WideElems.Trod_stays hl hr hrow h (fun x hx => ?_) (fun x hx => by simpa using hlt x hx)
  have := hb.block x.block (hlt x hx)
  cases x with
  | cell b o => exact World.cell?_of_block (w := W) this
  | map b => exact this

theorem cells99 : Yba.prog.cellsOf 99 = 8 := by kernel_rfl
theorem cells49 : Yba.prog.cellsOf 49 = 1 := by kernel_rfl
theorem cells22 : Yba.prog.cellsOf 22 = 1 := by kernel_rfl
theorem cells4 : Yba.prog.cellsOf 4 = 1 := by kernel_rfl
theorem cells3 : Yba.prog.cellsOf 3 = 1 := by kernel_rfl
theorem cells5 : Yba.prog.cellsOf 5 = 1 := by kernel_rfl

theorem wf_u16 {n : Int} (h : (Lit.int .u16 n).wf = true) : 0 ≤ n ∧ n < 65536 := by
  simp [Lit.wf, IntKind.min, IntKind.max, IntKind.signed, IntKind.bits] at h
  omega
theorem wf_u8 {n : Int} (h : (Lit.int .u8 n).wf = true) : 0 ≤ n ∧ n < 256 := by
  simp [Lit.wf, IntKind.min, IntKind.max, IntKind.signed, IntKind.bits] at h
  omega

set_option maxRecDepth 100000 in
/-- A step, read out of its eight cells. -/
theorem step_read {H : Type} {enc : TypeId × Value → H} {w : World} {base : Nat} {spare : Nat → Bool} {held : Bool} {fuel : Nat} {b o : Nat} {cs : List Value} {x : DataW H × List MemPlace}
    (h1 : w.cells? base ⟨b, o, none⟩ 8 = some cs) (h : DataW.trod enc Yba.prog w base spare held fuel 99 cs = some x) : ∃ s : Stp, StepAt w b o s ∧ s.Ok := by
  obtain ⟨_, hlen, hcell⟩ := World.cells?_some h1
  obtain ⟨xs, k, _, _, _, hxl, hf⟩ := DataW.trod_struct Yba.underlying99 h
  match xs, hxl, cs, hlen with
  | [y0, y1, y2, y3, y4, y5, y6, y7], _, [v0, v1, v2, v3, v4, v5, v6, v7], _ =>
    have g0 := hf 0 _ rfl
    have g1 := hf 1 _ rfl
    have g2 := hf 2 _ rfl
    have g3 := hf 3 _ rfl
    have g4 := hf 4 _ rfl
    have g5 := hf 5 _ rfl
    have g6 := hf 6 _ rfl
    have g7 := hf 7 _ rfl
    simp [cells49, cells22, cells4, cells3, cells5] at g0 g1 g2 g3 g4 g5 g6 g7
    obtain ⟨n0, e0, _, _⟩ := DataW.trod_int Yba.underlying49 g0
    obtain ⟨n1, e1, _, _⟩ := DataW.trod_int Yba.underlying22 g1
    obtain ⟨n2, e2, _, _⟩ := DataW.trod_int Yba.underlying22 g2
    obtain ⟨b3, e3, _⟩ := DataW.trod_bool Yba.underlying4 g3
    obtain ⟨n4, e4, _, _⟩ := DataW.trod_int Yba.underlying3 g4
    obtain ⟨b5, e5, _⟩ := DataW.trod_bool Yba.underlying4 g5
    obtain ⟨n6, e6, _, q6⟩ := DataW.trod_int Yba.underlying22 g6
    obtain ⟨n7, e7, _, q7⟩ := DataW.trod_int Yba.underlying5 g7
    simp only [List.cons.injEq, and_true] at e0 e1 e2 e3 e4 e5 e6 e7
    subst e0 e1 e2 e3 e4 e5 e6 e7
    have q6' := wf_u16 q6
    have q7' := wf_u8 q7
    have c : ∀ j, j < 8 → w.cell? ⟨b, o + j, none⟩ = [Value.int .u32 n0, .int .u16 n1, .int .u16 n2, .bool b3, .int .i64 n4, .bool b5, .int .u16 n6, .int .u8 n7][j]? := fun j hj => by
      have := hcell j hj
      rwa [Addr.add_lit] at this
    exact ⟨⟨n0, n1, n2, b3, n4, b5, n6, n7⟩, ⟨c 0 (by omega), c 1 (by omega), c 2 (by omega), c 3 (by omega), c 4 (by omega), c 5 (by omega), c 6 (by omega), c 7 (by omega)⟩, ⟨q6'.1, q6'.2, q7'.1, q7'.2⟩⟩

/-! ### THE ROW's STEP -/
set_option maxRecDepth 100000 in
theorem lifted (os : Os) (started : os.Started) (H : Type) (enc : TypeId × Value → H) :
    ReturnsInHanded {} Yba.checked os 4 .any (Rows.lawS1835CAbandonSpec.pre6 enc Yba.prog Yba.f4 Rows.lawS1835CAbandonRow.domain false) (Rows.lawS1835CAbandonSpec.post enc Yba.prog Yba.f4 false true false false) := by
  refine returnsInHanded_of_change (C := Yba.checked) own started (by kernel_rfl) Yba.func4
    (ChangeSpec.witness6 (enc := enc) (C := Yba.checked) false ⟨#[], #[.int .u8 0, .int .u8 0, .slice none 0 0], []⟩ 8 (by kernel_rfl) (by kernel_rfl) (by kernel_rfl) (by kernel_rfl)) ?_
  intro W base args ds gs before hval0 hW hcnd _
  have hval : ∀ (j : Nat) t v, Yba.f4.params[j]? = some t → args[j]? = some v → Value.okWide Yba.prog W .any base t v := hval0
  have hW' := hW
  obtain ⟨p, q, hA0, hV, rfl, hfz, hnd⟩ := hW
  have hA : DataW.TrodAll enc Yba.prog W 0 (fun _ => true) true Yba.f4.params.toList args.toList ds p := hA0
  rw [Yba.params4] at hA hval
  obtain ⟨v0, vs0, d0, ds0, p0, q0, hargs, rfl, rfl, h0, r0⟩ := trodAll_cons hA
  obtain ⟨v1, vs1, d1, ds1, p1, q1, rfl, rfl, rfl, h1, r1⟩ := trodAll_cons r0
  obtain ⟨v2, vs2, d2, ds2, p2, q2, rfl, rfl, rfl, h2, r2⟩ := trodAll_cons r1
  obtain ⟨rfl, rfl, rfl⟩ := trodAll_nil r2
  obtain rfl : args = #[v0, v1, v2] := by cases args; simp_all
  obtain ⟨rfl, rfl⟩ := trodVars_none hV
  obtain ⟨a0, rfl, rfl, rfl, w0⟩ := open_int Yba.underlying5 (hval 0 5 v0 rfl rfl) h0
  obtain ⟨a1, rfl, rfl, rfl, w1⟩ := open_int Yba.underlying5 (hval 1 5 v1 rfl rfl) h1
  obtain ⟨a2, len2, cap2, rfl⟩ := okWide_slice Yba.underlying95 (hval 2 95 v2 rfl rfl)
  have k2 := h2
  have lt2 : ∀ x ∈ p2, x.block < W.heap.size := by obtain ⟨m, hm⟩ := k2; exact DataW.trod_lt m _ _ _ hm
  obtain ⟨hlen, b, off, S, hin⟩ : len2 ≤ 9223372036854775807 ∧ ∃ b off S, Inp W a2 len2 b off S := by
    obtain ⟨fuel, hf⟩ := h2
    rcases Deep.open_slice Yba.underlying95 hf with ⟨hcs, _⟩ | ⟨x, l, c, m, n, D, Pl, hcs, _, hl, hm, hmm, _, hx⟩
    · simp [Value.cells] at hcs
      obtain ⟨rfl, rfl, rfl⟩ := hcs
      exact ⟨by omega, 0, 0, fun _ => ⟨0, 0, 0, false, 0, false, 0, 0⟩, ⟨fun h => by omega, fun h => by omega, fun i h => by omega, fun i h => by omega⟩⟩
    · simp [Value.cells] at hcs
      obtain ⟨rfl, rfl, rfl⟩ := hcs
      refine ⟨by unfold maxLen at hm; omega, ?_⟩
      have hlm : len2 ≤ m := by rw [hmm]; simpa using hl
      by_cases hz : len2 = 0
      · subst hz
        exact ⟨0, 0, fun _ => ⟨0, 0, 0, false, 0, false, 0, 0⟩, ⟨fun h => by omega, fun h => by omega, fun i h => by omega, fun i h => by omega⟩⟩
      · obtain ⟨b, off, spot⟩ := x
        have hspot : spot = none := by
          obtain ⟨cs, g1, _⟩ := hx 0 (by omega)
          rw [cells99] at g1
          obtain ⟨_, hlen, hcell⟩ := World.cells?_some g1
          have h8 := hcell 0 (by omega)
          rw [List.getElem?_eq_getElem (by omega)] at h8
          simpa [Addr.add] using World.cell?_spot h8
        subst hspot
        have each : ∀ i, i < len2 → ∃ s : Stp, StepAt W b (off + i * 8) s ∧ s.Ok := by
          intro i hi
          obtain ⟨cs, g1, g2⟩ := hx i (by omega)
          rw [cells99, Addr.add_lit] at g1
          exact step_read g1 g2
        haveI : Inhabited Stp := ⟨⟨0, 0, 0, false, 0, false, 0, 0⟩⟩
        obtain ⟨S, hS⟩ := Deep.choose_lt each
        refine ⟨b, off, S, ⟨fun _ => rfl, fun _ => ?_, fun i hi => (hS i hi).1, fun i hi => (hS i hi).2⟩⟩
        have h0 := (hS 0 (by omega)).1.1
        exact World.block_lt_of_cell? _ _ h0
  clear hA0 hval0
  refine (law_any W a0 a1 a2 len2 cap2 b off S (wf_u8 w0).1 (wf_u8 w0).2 (wf_u8 w1).1 (wf_u8 w1).2 hlen hin).mono fun e W' ⟨he, bel⟩ => ?_
  subst he
  exact ⟨_, rfl, _, _, _, [], _, [], hW', trodAll_mk1 (shut_bool Yba.underlying4 _), (trodAll_cons_mk (shut_int Yba.underlying5 w0) (trodAll_cons_mk (shut_int Yba.underlying5 w1) (trodAll_cons_mk (same_trod laidOut (by kernel_rfl) (of_decide_eq_true (by kernel_rfl)) k2 bel lt2) trodAll_mk0))), rfl, same_frame bel _, fun h => by cases h⟩

theorem over : Rows.lawS1835CAbandonRow.holds Yba.pinned (OpenSpec.ofChange Rows.lawS1835CAbandonSpec) :=
  OpenClaim.holds_of_wide 4 Yba.f4 rfl rfl rfl rfl rfl rfl rfl ⟨rfl, rfl, rfl, rfl, rfl⟩ rfl rfl rfl rfl rfl (by kernel_rfl) Yba.func4 (by kernel_rfl)
    (of_decide_eq_true (by kernel_rfl)) (by unfold Func.isWrapper; first | (rw [if_pos (by decide +kernel)]; kernel_rfl) | (rw [if_neg (by decide +kernel)]; exact ⟨rfl, rfl⟩))
    (fun os started H enc _ => lifted os started H enc)

/-- ████ THE STATEMENT ████ -/
theorem proved : Rows.LawS1835CAbandonSaid := over
#print axioms proved
end Go.Proofs.Ybulkakzc.lawS1835CAbandon

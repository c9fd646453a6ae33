/-
  THE FRAME of the law Algebra of seat b1820a: what comes in, and that it reads as before.
-/
import Derived.Test.YbulkakraRows
import Derived.WalkKit
import Derived.Test.YbulkakraAlg2
import Derived.ProofKit
import Derived.OpenShut
import Derived.ShutString
import Derived.ChangeOld
import Derived.Below
import Derived.Deep.SlicePairs
namespace Go.Proofs.Ybulkakra
open Go.ChangeShapes Go.WideShapes Go.ChangeAt Go.RowKit

theorem own : ownKnob Yba.prog.godebug = none := by kernel_rfl
theorem laidOut : laidOutB Yba.prog = true := by kernel_rfl

theorem same_frame {W w' : World} (h : Jk W w') (may : MemPlace → Prop) : W.keptBut w' may := by
  refine ⟨h.os, h.output, fun i hi => ?_⟩
  rw [h.block i hi]
  split <;> simp_all
theorem same_trod {H : Type} {enc : TypeId × Value → H} {P : Program} {t : TypeId} (hl : laidOutB P = true) (hr : P.readableRec t = true) (hrow : t < P.types.size) {W W' : World} {v : Value} {d : DataW H} {ps : List MemPlace}
    (h : DataW.Trod enc P W 0 (fun _ => true) true t v d ps) (hb : Jk W W') (hlt : ∀ x ∈ ps, x.block < W.heap.size) :
    DataW.Trod enc P W' 0 (fun b => decide (b < W.heap.size)) true t v d ps := by
  refine WideElems.Trod_stays hl hr hrow h (fun x hx => ?_) (fun x hx => by simpa using hlt x hx)
  have := hb.block x.block (hlt x hx)
  cases x with
  | cell b o => exact World.cell?_of_block (w := W) this
  | map b => exact this

theorem wf_u16 {n : Int} (h : (Lit.int .u16 n).wf = true) : 0 ≤ n ∧ n < 65536 := by
  simp [Lit.wf, IntKind.min, IntKind.max, IntKind.signed, IntKind.bits] at h
  omega
/-- A slice of numbers that came in. -/
theorem row_in {W : World} {a : Option Addr} {len cap : Nat} {x : Addr} {zs : List Int} (ha : a = some x) (hl : len ≤ cap) (hz : zs.length = cap) (hcell : ∀ i, i < zs.length → W.cell? (x.add i) = some (.int .u16 (zs.getD i 0))) (hw : ∀ n ∈ zs, (Lit.int .u16 n).wf = true) : InRow W a len (fun i => (zs.getD i 0).toNat) := by
  by_cases h0 : len = 0
  · exact .inl h0
  · obtain ⟨bb, o, rfl, hc⟩ := ints_at hcell (by omega)
    refine .inr ⟨bb, o, ha, fun i hi => ?_⟩
    have hm : zs.getD i 0 ∈ zs := by
      rw [show zs.getD i 0 = zs[i]'(by omega) by simp [List.getD, show i < zs.length by omega]]
      exact List.getElem_mem _
    have hb := wf_u16 (hw _ hm)
    refine ⟨?_, by dsimp only; omega⟩
    rw [hc i (by omega), Int.toNat_of_nonneg hb.1]
end Go.Proofs.Ybulkakra

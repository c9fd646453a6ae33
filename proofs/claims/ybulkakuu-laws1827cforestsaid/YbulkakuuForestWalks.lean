/-
  THE WALKS of seat b1827a's forest: the plain walk to the root (14), find with path halving (13).
-/
import Derived.Test.YbulkakuuRows
import Derived.Test.YbulkakuuForestMath
import Derived.WalkKit
import Derived.Deep.OwnRows
namespace Go.Proofs.Ybulkakuu.Forest
open Go.RowKit

/-- The row of a forest's parents. -/
def Par (w : World) (b n : Nat) (f : Nat → Nat) : Prop := w.rowIs b 3 n (fun i => .int .i64 ((f i : Nat) : Int))

theorem ret_int {k : IntKind} {a b : Int} (h : a = b) : Ending.returned (.int k a) = .returned (.int k b) := by rw [h]

set_option maxHeartbeats 400000 in
theorem root_any (b n : Nat) (f : Nat → Nat) (v : Nat) (w : World) (_hn : n ≤ 1024) (hv : v < n) (hd : Down n f) (hr : Par w b n f) :
    Calls Yba.prog 14 #[.slice (some ⟨b, 0, none⟩) n n, .int .i64 (v : Int)] w fun e w' => e = .returned (.int .i64 ((root f v : Nat) : Int)) ∧ w' = w := by
  have HD : Hid (Down n f) := hd
  clear hd
  go_enter Yba.func14, Yba.ntmps14
  go_wp2
  go_loop [1] (fun t => ∃ u : Nat, u < n ∧ t = .int .i64 u ∧ Hid (root f u = root f v)) (fun t => (intOf t).toNat)
  case atStart => exact ⟨v, hv, rfl, rfl⟩
  case round =>
    obtain ⟨u, hu, rfl, hroot⟩ := hrel
    have hc : w.cell? ⟨b, u, none⟩ = some (.int .i64 ((f u : Nat) : Int)) := hr.cell hu
    have hle : f u ≤ u := HD.out u hu
    by_cases e : f u = u
    · have e' : (((f u : Nat) : Int) != (u : Int)) = false := by simp [e]
      go_wp2
      go_ret
      exact ⟨ret_int (by rw [← hroot.out, root_self e]), rfl⟩
    · have e' : (((f u : Nat) : Int) != (u : Int)) = true := by simp; omega
      go_wp2
      go_round
      case rel => exact ⟨f u, by omega, rfl, (root_step HD.out hu).symm.trans hroot.out⟩
      case measure => simp [intOf]; omega

/-- Nothing but block b has turned. -/
structure Only (b : Nat) (w w' : World) : Prop where
  os : w'.os = w.os
  tape : w'.tape = w.tape
  output : w'.output = w.output
  size : w'.heap.size = w.heap.size
  block : ∀ k, k ≠ b → w'.heap[k]? = w.heap[k]?

theorem Only.refl (b : Nat) (w : World) : Only b w w := ⟨rfl, rfl, rfl, rfl, fun _ _ => rfl⟩
theorem Only.setCell {b : Nat} {w w' : World} (h : Only b w w') (i : Nat) (v : Value) : Only b w (w'.setCell ⟨b, i, none⟩ v) :=
  ⟨h.os, h.tape, h.output, by simpa using h.size, fun k hk => (Below.heap_setCell _ _ _ _ hk).trans (h.block k hk)⟩
theorem Only.below {b B : Nat} {w w' : World} (h : Only b w w') (hb : B ≤ b) : Below B w w' :=
  ⟨h.os, h.tape, h.output, by rw [h.size]; exact Nat.le_refl _, fun k hk => h.block k (by omega)⟩

theorem par_halve {w : World} {b n : Nat} {f : Nat → Nat} (h : Par w b n f) (u : Nat) :
    Par (w.setCell ⟨b, u, none⟩ (.int .i64 ((f (f u) : Nat) : Int))) b n (halve f u) := by
  refine World.rowIs.congr (World.rowIs.set h u _) fun i _ => ?_
  unfold halve
  split <;> rfl

set_option maxHeartbeats 400000 in
theorem find_any (b n : Nat) (f : Nat → Nat) (v : Nat) (w : World) (_hn : n ≤ 1024) (hv : v < n) (hd : Down n f) (hr : Par w b n f) :
    Calls Yba.prog 13 #[.slice (some ⟨b, 0, none⟩) n n, .int .i64 (v : Int)] w fun e w' =>
      e = .returned (.int .i64 ((root f v : Nat) : Int)) ∧ Only b w w' ∧ ∃ g, Par w' b n g ∧ Down n g ∧ ∀ i, i < n → root g i = root f i := by
  have HD : Hid (Down n f) := hd
  clear hd
  go_enter Yba.func13, Yba.ntmps13
  go_wp2
  go_loopw [1] (fun t wr => ∃ (u : Nat) (g : Nat → Nat), u < n ∧ t = .int .i64 u ∧ Par wr b n g ∧ Hid (Down n g) ∧ Hid (∀ i, i < n → root g i = root f i) ∧ Hid (root g u = root f v) ∧ Only b w wr) (fun t _ => (intOf t).toNat)
  case atStart => exact ⟨v, f, hv, rfl, hr, HD, fun _ _ => rfl, rfl, Only.refl _ _⟩
  case round =>
    obtain ⟨u, g, hu, rfl, hg, HG, HR, hroot, hon⟩ := hrel
    have hle : g u ≤ u := HG.out u hu
    have hle2 : g (g u) ≤ g u := HG.out (g u) (by omega)
    have hc : wr.cell? ⟨b, u, none⟩ = some (.int .i64 ((g u : Nat) : Int)) := World.rowIs.cell hg hu
    by_cases e : g u = u
    · have e' : (((g u : Nat) : Int) != (u : Int)) = false := by simp [e]
      go_wp2
      go_ret
      exact ⟨ret_int (by rw [← hroot.out, root_self e]), hon, g, hg, HG, HR⟩
    · have e' : (((g u : Nat) : Int) != (u : Int)) = true := by simp; omega
      have hc2 : wr.cell? ⟨b, g u, none⟩ = some (.int .i64 ((g (g u) : Nat) : Int)) := World.rowIs.cell hg (by omega)
      have hf : wr.frozen? ⟨b, u, none⟩ = false := World.rowIs.frozen hg u
      have hc3 : (wr.setCell ⟨b, u, none⟩ (.int .i64 ((g (g u) : Nat) : Int))).cell? ⟨b, u, none⟩ = some (.int .i64 ((g (g u) : Nat) : Int)) := World.cell?_setCell_same _ _ _ hc
      go_wp2
      go_roundw
      case rel => 
        refine ⟨g (g u), halve g u, by omega, rfl, par_halve hg u, halve_down HG.out hu, fun i hi => (halve_root HG.out hu i hi).trans (HR.out i hi), ?_, hon.setCell _ _⟩
        refine (halve_root HG.out hu _ (by omega)).trans ?_
        rw [← root_step HG.out (by omega), ← root_step HG.out hu]
        exact hroot.out
      case measure => simp [intOf]; omega
end Go.Proofs.Ybulkakuu.Forest

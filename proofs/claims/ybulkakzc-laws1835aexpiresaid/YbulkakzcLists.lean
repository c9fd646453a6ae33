/-
  THE WALKS of seat b1835a's container/list: a queue (PushBack, Remove of the front), Len, Front, Back.
-/
import Derived.Test.YbulkakzcKeys
import Derived.Deep.OwnRows
import Derived.LaidEqlPtr
import Derived.RegionTactic
import Derived.BigRegion
namespace Go.Proofs.Ybulkakzc
open Go.RowKit
set_option linter.unusedSimpArgs false

abbrev P2 (b o : Nat) : Value := .pointer (some ⟨b, o, none⟩)

theorem lazy_some (w : World) (rb lo : Nat) (a : Addr) (h0 : w.cell? ⟨rb, lo, none⟩ = some (.pointer (some a))) :
    Calls Yba.prog 22 #[P2 rb lo] w fun e w' => e = .returned (.tuple #[]) ∧ w = w' := by
  unfold P2
  go_enter Yba.func22, Yba.ntmps22
  go_wp2
  go_end0
  exact ⟨rfl, rfl⟩

theorem lazy_none (w : World) (rb lo : Nat) (x1 x4 : Value) (h0 : w.cell? ⟨rb, lo, none⟩ = some (.pointer none)) (h1 : w.cell? ⟨rb, lo + 1, none⟩ = some x1) (h4 : w.cell? ⟨rb, lo + 4, none⟩ = some x4)
    (f0 : w.frozen? ⟨rb, lo, none⟩ = false) (f1 : w.frozen? ⟨rb, lo + 1, none⟩ = false) (f4 : w.frozen? ⟨rb, lo + 4, none⟩ = false) :
    Calls Yba.prog 22 #[P2 rb lo] w fun e w' => e = .returned (.tuple #[]) ∧ w' = ((w.setCell ⟨rb, lo, none⟩ (P2 rb lo)).setCell ⟨rb, lo + 1, none⟩ (P2 rb lo)).setCell ⟨rb, lo + 4, none⟩ (.int .i64 0) := by
  unfold P2
  go_enter Yba.func22, Yba.ntmps22
  go_wp2
  go_end0
  exact ⟨rfl, rfl⟩

set_option maxHeartbeats 1000000 in
theorem push_last (w : World) (rb lo lb : Nat) (t : TypeId) (x f : Value) (n fb : Nat) (lv : Value) (hne : lb ≠ rb) (hn : n < 1000000)
    (h0 : w.cell? ⟨rb, lo, none⟩ = some (P2 fb 0)) (h1 : w.cell? ⟨rb, lo + 1, none⟩ = some (P2 lb 0)) (h4 : w.cell? ⟨rb, lo + 4, none⟩ = some (.int .i64 (n : Int)))
    (hl : w.heap[lb]? = some (.cells #[P2 rb lo, f, P2 rb lo, lv] 40 (0, 0)))
    (f1 : w.frozen? ⟨rb, lo + 1, none⟩ = false) (f4 : w.frozen? ⟨rb, lo + 4, none⟩ = false) (hrb : rb < w.heap.size) :
    Calls Yba.prog 7 #[P2 rb lo, .iface t x] w fun e w' => e = .returned (P2 w.heap.size 0) ∧
      w' = (((w.setCell ⟨lb, 0, none⟩ (P2 w.heap.size 0)).setCell ⟨rb, lo + 1, none⟩ (P2 w.heap.size 0)).setCell ⟨rb, lo + 4, none⟩ (.int .i64 ((n : Int) + 1))).alloc (.cells #[P2 rb lo, P2 lb 0, P2 rb lo, .iface t x] 40) := by
  have hlb := lt_of_block hl
  have c0 : w.cell? ⟨lb, 0, none⟩ = some (P2 rb lo) := by simp [World.cell?, hl]
  have g0 : w.frozen? ⟨lb, 0, none⟩ = false := by simp [World.frozen?, hl]
  have hne' : rb ≠ lb := Ne.symm hne
  unfold P2 at *
  go_enter Yba.func7, Yba.ntmps7
  go_wp2_with (first | (go_at_call 22; refine (lazy_some _ _ _ _ h0).mono ?_; rintro e w' ⟨rfl, rfl⟩) | go_in)
  go_ret
  exact ⟨rfl, rfl⟩

set_option maxHeartbeats 1000000 in
theorem push_empty (w : World) (rb lo : Nat) (t : TypeId) (x : Value)
    (h0 : w.cell? ⟨rb, lo, none⟩ = some (P2 rb lo)) (h1 : w.cell? ⟨rb, lo + 1, none⟩ = some (P2 rb lo)) (h4 : w.cell? ⟨rb, lo + 4, none⟩ = some (.int .i64 0))
    (f0 : w.frozen? ⟨rb, lo, none⟩ = false) (f1 : w.frozen? ⟨rb, lo + 1, none⟩ = false) (f4 : w.frozen? ⟨rb, lo + 4, none⟩ = false) (hrb : rb < w.heap.size) :
    Calls Yba.prog 7 #[P2 rb lo, .iface t x] w fun e w' => e = .returned (P2 w.heap.size 0) ∧
      w' = (((w.setCell ⟨rb, lo, none⟩ (P2 w.heap.size 0)).setCell ⟨rb, lo + 1, none⟩ (P2 w.heap.size 0)).setCell ⟨rb, lo + 4, none⟩ (.int .i64 1)).alloc (.cells #[P2 rb lo, P2 rb lo, P2 rb lo, .iface t x] 40) := by
  unfold P2 at *
  go_enter Yba.func7, Yba.ntmps7
  go_wp2_with (first | (go_at_call 22; refine (lazy_some _ _ _ _ h0).mono ?_; rintro e w' ⟨rfl, rfl⟩) | go_in)
  go_ret
  exact ⟨rfl, rfl⟩

set_option maxHeartbeats 1000000 in
theorem push_raw (w : World) (rb lo : Nat) (t : TypeId) (x x1 x4 : Value)
    (h0 : w.cell? ⟨rb, lo, none⟩ = some (.pointer none)) (h1 : w.cell? ⟨rb, lo + 1, none⟩ = some x1) (h4 : w.cell? ⟨rb, lo + 4, none⟩ = some x4)
    (f0 : w.frozen? ⟨rb, lo, none⟩ = false) (f1 : w.frozen? ⟨rb, lo + 1, none⟩ = false) (f4 : w.frozen? ⟨rb, lo + 4, none⟩ = false) (hrb : rb < w.heap.size) :
    Calls Yba.prog 7 #[P2 rb lo, .iface t x] w fun e w' => e = .returned (P2 w.heap.size 0) ∧
      ∃ w1, w1 = ((w.setCell ⟨rb, lo, none⟩ (P2 rb lo)).setCell ⟨rb, lo + 1, none⟩ (P2 rb lo)).setCell ⟨rb, lo + 4, none⟩ (.int .i64 0) ∧
      w' = (((w1.setCell ⟨rb, lo, none⟩ (P2 w.heap.size 0)).setCell ⟨rb, lo + 1, none⟩ (P2 w.heap.size 0)).setCell ⟨rb, lo + 4, none⟩ (.int .i64 1)).alloc (.cells #[P2 rb lo, P2 rb lo, P2 rb lo, .iface t x] 40) := by
  go_enter Yba.func7, Yba.ntmps7
  unfold P2
  go_wp2_with fail
  refine (lazy_none _ _ _ x1 x4 h0 h1 h4 f0 f1 f4).mono ?_
  rintro e w1 ⟨rfl, hw1⟩
  have hz : w1.heap.size = w.heap.size := by rw [hw1]; simp
  have a0 : w1.cell? ⟨rb, lo, none⟩ = some (P2 rb lo) := by
    rw [hw1, World.cell?_setCell_other _ _ _ _ (by simp), World.cell?_setCell_other _ _ _ _ (by simp)]
    exact World.cell?_setCell_same _ _ _ h0
  have a1 : w1.cell? ⟨rb, lo + 1, none⟩ = some (P2 rb lo) := by
    rw [hw1, World.cell?_setCell_other _ _ _ _ (by simp)]
    exact World.cell?_setCell_same _ _ _ (by rw [World.cell?_setCell_other _ _ _ _ (by simp)]; exact h1)
  have a4 : w1.cell? ⟨rb, lo + 4, none⟩ = some (.int .i64 0) := by
    rw [hw1]
    exact World.cell?_setCell_same _ _ _ (by rw [World.cell?_setCell_other _ _ _ _ (by simp), World.cell?_setCell_other _ _ _ _ (by simp)]; exact h4)
  have b0 : w1.frozen? ⟨rb, lo, none⟩ = false := by rw [hw1]; simpa using f0
  have b1 : w1.frozen? ⟨rb, lo + 1, none⟩ = false := by rw [hw1]; simpa using f1
  have b4 : w1.frozen? ⟨rb, lo + 4, none⟩ = false := by rw [hw1]; simpa using f4
  have HW1 : Hid _ := hw1
  clear h0 h1 h4 f0 f1 f4 hw1
  unfold P2 at a0 a1
  go_wp2_with go_in
  go_ret
  exact ⟨rfl, w1, HW1.out, rfl⟩
end Go.Proofs.Ybulkakzc

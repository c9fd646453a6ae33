/-
  THE REASSEMBLER of seat b1835a: NewReassembler, and the small functions of the laws.
-/
import Derived.Test.YbulkakzcAband2
import Derived.Carry
namespace Go.Proofs.Ybulkakzc
open Go.RowKit
set_option linter.unusedSimpArgs false

attribute [local go_sem] run_makeMap

/-- A new reassembler's cells. -/
def rz (tmo mp : Int) (pm am : Nat) : Array Value :=
  #[.int .i64 0, .slice none 0 0, .bool false, .int .i64 0, .int .i64 tmo, .int .i64 mp, .int .i64 0, .int .u64 0, .int .i64 0, .pointer none, .map (some pm), .pointer none, .pointer none, .pointer none, .nilIface, .int .i64 0, .int .i64 0, .map (some am), .pointer none, .pointer none, .pointer none, .nilIface, .int .i64 0, .int .i64 0, .int .i64 0, .int .i64 0]

/-- A new reassembler stands at rb; nothing else is turned. -/
structure NewR (w w' : World) (tmo mp : Int) : Prop where
  rs : ∃ C, RS w' (w.heap.size + 3) (w.heap.size + 1) (w.heap.size + 2) C tmo mp 0 0 0 0 [] [] [] []
  size : w'.heap.size = w.heap.size + 4
  os : w'.os = w.os
  tape : w'.tape = w.tape
  output : w'.output = w.output
  old : ∀ j, j < w.heap.size → w'.heap[j]? = w.heap[j]?

theorem newR (w : World) (tmo mp : Int) (o : Obj) : NewR w ((((w.alloc o).alloc (.map #[] 0)).alloc (.map #[] 0)).alloc (.cells (rz tmo mp (w.heap.size + 1) (w.heap.size + 2)) 47)) tmo mp := by
  have z1 : (w.alloc o).heap.size = w.heap.size + 1 := World.size_alloc ..
  have z2 : ((w.alloc o).alloc (.map #[] 0)).heap.size = w.heap.size + 2 := by rw [World.size_alloc, z1]
  have z3 : (((w.alloc o).alloc (.map #[] 0)).alloc (.map #[] 0)).heap.size = w.heap.size + 3 := by rw [World.size_alloc, z2]
  have hr := heap_alloc_new (((w.alloc o).alloc (.map #[] 0)).alloc (.map #[] 0)) (.cells (rz tmo mp (w.heap.size + 1) (w.heap.size + 2)) 47)
  rw [z3] at hr
  refine ⟨⟨fun j => (rz tmo mp (w.heap.size + 1) (w.heap.size + 2)).getD j undef, ?_, ?_, ⟨0, ?_⟩, ⟨0, ?_⟩, Or.inl ⟨rfl, rfl, rfl⟩, Or.inl ⟨rfl, rfl, rfl⟩, ?_, by omega⟩, by rw [World.size_alloc, z3], rfl, rfl, rfl, fun j hj => ?_⟩
  · exact ⟨_, hr, rfl, fun i hi => by
      have hi' : i < (rz tmo mp (w.heap.size + 1) (w.heap.size + 2)).size := hi
      simp only [Array.getD, hi', dite_true, Array.getElem?_eq_getElem]
      rfl⟩
  · exact ⟨rfl, rfl, rfl, rfl, rfl, rfl, rfl, rfl, rfl, rfl, rfl, rfl, rfl, rfl⟩
  · rw [Below.heap_alloc _ _ _ (by omega), Below.heap_alloc _ _ _ (by omega)]
    have := heap_alloc_new (w.alloc o) (.map #[] 0)
    rw [z1] at this
    exact this
  · rw [Below.heap_alloc _ _ _ (by omega)]
    have := heap_alloc_new ((w.alloc o).alloc (.map #[] 0)) (.map #[] 0)
    rw [z2] at this
    exact this
  · intro b hb
    simp [blks] at hb
  · rw [Below.heap_alloc _ _ _ (by omega), Below.heap_alloc _ _ _ (by omega), Below.heap_alloc _ _ _ (by omega), Below.heap_alloc _ _ _ hj]

theorem new_any (w : World) (tmo mp : Int) : Calls Yba.prog 5 #[.agg #[.int .i64 0, .slice none 0 0, .bool false, .int .i64 0, .int .i64 tmo, .int .i64 mp, .int .i64 0]] w fun e w' => e = .returned (P2 (w.heap.size + 3) 0) ∧ NewR w w' tmo mp := by
  go_enter Yba.func5, Yba.ntmps5
  go_wp2
  go_ret
  exact ⟨rfl, newR w tmo mp _⟩

set_option maxRecDepth 100000 in
theorem apf_any (w : World) (p : Int) : Calls Yba.prog 13 #[.agg #[.int .u64 0, .int .u64 0, .pointer none], .int .u16 p] w fun e w' => e = .returned (apv p) ∧ ∃ o1 o2, w' = (w.alloc o1).alloc o2 := by
  go_enter Yba.func13, Yba.ntmps13
  go_wp2
  have hz : (w.alloc (Obj.cells #[Value.int IntKind.u64 0, Value.int IntKind.u64 0, Value.pointer none] 56)).heap.size = w.heap.size + 1 := World.size_alloc ..
  have hn := heap_alloc_new (w.alloc (Obj.cells #[Value.int IntKind.u64 0, Value.int IntKind.u64 0, Value.pointer none] 56)) (Obj.cells #[Value.int IntKind.u64 0, Value.int IntKind.u64 0, Value.pointer none, Value.int IntKind.u16 p] 58)
  rw [hz] at hn
  refine bodyPost_ret (results_cell_row (p := 4) (ty := 58) (by rfl) _ _ (w.heap.size + 1) 58 _ _ _ (by rfl) hn (by rfl) (by rfl) (by rfl)) rfl ?_
  exact ⟨rfl, _, _, rfl⟩

theorem iszero_any (w : World) : Calls Yba.prog 28 #[.agg #[.int .u64 0, .int .i64 0, .pointer none]] w fun e w' => e = .returned (.bool true) ∧ ∃ o, w' = w.alloc o := by
  go_enter Yba.func28, Yba.ntmps28
  go_wp2
  go_ret
  exact ⟨rfl, _, rfl⟩

theorem reason_any (w : World) (b : Int) (h0 : 0 ≤ b) (h1 : b < 256) : Calls Yba.prog 14 #[.int .u8 b] w fun e w' => w = w' ∧ ∃ s, e = .returned (.string s) := by
  go_enter Yba.func14, Yba.ntmps14
  go_wp2
  all_goals
    go_ret
    exact ⟨rfl, _, rfl⟩
end Go.Proofs.Ybulkakzc

/-
  THE WALKS of seat b1835a's container/list: Remove of the front.
-/
import Derived.Test.YbulkakzcLists
namespace Go.Proofs.Ybulkakzc
open Go.RowKit
set_option linter.unusedSimpArgs false

/-- The world behind a Remove of the front e: root's next, the next's prev, e's three pointers, the length; two draws. -/
def outW (w : World) (rb lo eb nb no : Nat) (n : Int) : World :=
  ((((((w.setCell ⟨rb, lo, none⟩ (P2 nb no)).setCell ⟨nb, no + 1, none⟩ (P2 rb lo)).setCell ⟨eb, 0, none⟩ (.pointer none)).setCell ⟨eb, 1, none⟩ (.pointer none)).setCell ⟨eb, 2, none⟩ (.pointer none)).setCell ⟨rb, lo + 4, none⟩ (.int .i64 (n - 1))).drew.drew

set_option maxHeartbeats 1000000 in
theorem remove_more (w : World) (rb lo eb nb : Nat) (v nn nv : Value) (n : Nat) (hn : n < 1000000) (h1 : 0 < n) (hne : eb ≠ rb) (hne2 : nb ≠ rb) (hne3 : eb ≠ nb)
    (he : w.heap[eb]? = some (.cells #[P2 nb 0, P2 rb lo, P2 rb lo, v] 40 (0, 0)))
    (hnx : w.heap[nb]? = some (.cells #[nn, P2 eb 0, P2 rb lo, nv] 40 (0, 0)))
    (x0 : Value) (h0 : w.cell? ⟨rb, lo, none⟩ = some x0) (h4 : w.cell? ⟨rb, lo + 4, none⟩ = some (.int .i64 (n : Int)))
    (f0 : w.frozen? ⟨rb, lo, none⟩ = false) (f4 : w.frozen? ⟨rb, lo + 4, none⟩ = false) :
    Calls Yba.prog 37 #[P2 rb lo, P2 eb 0] w fun e w' => e = .returned (.tuple #[]) ∧ outW w rb lo eb nb 0 n = w' := by
  have c0 : w.cell? ⟨eb, 0, none⟩ = some (P2 nb 0) := by simp [World.cell?, he]
  have c1 : w.cell? ⟨eb, 1, none⟩ = some (P2 rb lo) := by simp [World.cell?, he]
  have c2 : w.cell? ⟨eb, 2, none⟩ = some (P2 rb lo) := by simp [World.cell?, he]
  have g0 : w.frozen? ⟨eb, 0, none⟩ = false := by simp [World.frozen?, he]
  have g1 : w.frozen? ⟨eb, 1, none⟩ = false := by simp [World.frozen?, he]
  have g2 : w.frozen? ⟨eb, 2, none⟩ = false := by simp [World.frozen?, he]
  have d1 : w.cell? ⟨nb, 1, none⟩ = some (P2 eb 0) := by simp [World.cell?, hnx]
  have k1 : w.frozen? ⟨nb, 1, none⟩ = false := by simp [World.frozen?, hnx]
  have e1 : rb ≠ eb := Ne.symm hne
  have e2 : rb ≠ nb := Ne.symm hne2
  have e3 : nb ≠ eb := Ne.symm hne3
  clear he hnx
  unfold outW P2 at *
  go_enter Yba.func37, Yba.ntmps37
  go_wp2
  go_region
  go_wp2
  go_region
  go_wp2
  go_end0
  exact ⟨rfl, rfl⟩

set_option maxHeartbeats 1000000 in
theorem remove_only (w : World) (rb lo eb : Nat) (v : Value) (n : Nat) (hn : n < 1000000) (h1 : 0 < n) (hne : eb ≠ rb)
    (he : w.heap[eb]? = some (.cells #[P2 rb lo, P2 rb lo, P2 rb lo, v] 40 (0, 0)))
    (x0 x1 : Value) (h0 : w.cell? ⟨rb, lo, none⟩ = some x0) (h1' : w.cell? ⟨rb, lo + 1, none⟩ = some x1) (h4 : w.cell? ⟨rb, lo + 4, none⟩ = some (.int .i64 (n : Int)))
    (f0 : w.frozen? ⟨rb, lo, none⟩ = false) (f1 : w.frozen? ⟨rb, lo + 1, none⟩ = false) (f4 : w.frozen? ⟨rb, lo + 4, none⟩ = false) :
    Calls Yba.prog 37 #[P2 rb lo, P2 eb 0] w fun e w' => e = .returned (.tuple #[]) ∧ outW w rb lo eb rb lo n = w' := by
  have c0 : w.cell? ⟨eb, 0, none⟩ = some (P2 rb lo) := by simp [World.cell?, he]
  have c1 : w.cell? ⟨eb, 1, none⟩ = some (P2 rb lo) := by simp [World.cell?, he]
  have c2 : w.cell? ⟨eb, 2, none⟩ = some (P2 rb lo) := by simp [World.cell?, he]
  have g0 : w.frozen? ⟨eb, 0, none⟩ = false := by simp [World.frozen?, he]
  have g1 : w.frozen? ⟨eb, 1, none⟩ = false := by simp [World.frozen?, he]
  have g2 : w.frozen? ⟨eb, 2, none⟩ = false := by simp [World.frozen?, he]
  have e1 : rb ≠ eb := Ne.symm hne
  clear he
  unfold outW P2 at *
  go_enter Yba.func37, Yba.ntmps37
  go_wp2
  go_region
  go_wp2
  go_region
  go_wp2
  go_end0
  exact ⟨rfl, rfl⟩

theorem eq38 (w : World) (a : Addr) : (binOp .eql 38 (.pointer (some a)) (.pointer (some a))).run Yba.prog w = .ok (.bool true) w := by
  have h : (Yba.prog.info? 42).isSome = true := by kernel_rfl
  obtain ⟨j, hj⟩ := Option.isSome_iff_exists.1 h
  exact run_eql_ptr_same w a Yba.underlying38 hj

theorem outW_cell3 {w : World} {rb lo eb nb no : Nat} {n : Int} {v : Value} (hne : eb ≠ rb) (hne3 : eb ≠ nb ∨ no + 1 ≠ 3) (h : w.cell? ⟨eb, 3, none⟩ = some v) : (outW w rb lo eb nb no n).cell? ⟨eb, 3, none⟩ = some v := by
  have e1 : rb ≠ eb := Ne.symm hne
  unfold outW
  rw [World.cell?_drew, World.cell?_drew, World.cell?_setCell_other _ _ _ _ (by simp [e1]), World.cell?_setCell_other _ _ _ _ (by simp), World.cell?_setCell_other _ _ _ _ (by simp), World.cell?_setCell_other _ _ _ _ (by simp), World.cell?_setCell_other _ _ _ _ ?_, World.cell?_setCell_other _ _ _ _ (by simp [e1])]
  · exact h
  · intro e
    simp only [Addr.mk.injEq] at e
    rcases hne3 with h | h
    · exact h e.1.symm
    · exact h e.2.1

set_option maxHeartbeats 1000000 in
theorem Remove_more (w : World) (rb lo eb nb : Nat) (v nn nv : Value) (n : Nat) (hn : n < 1000000) (h1 : 0 < n) (hne : eb ≠ rb) (hne2 : nb ≠ rb) (hne3 : eb ≠ nb)
    (he : w.heap[eb]? = some (.cells #[P2 nb 0, P2 rb lo, P2 rb lo, v] 40 (0, 0)))
    (hnx : w.heap[nb]? = some (.cells #[nn, P2 eb 0, P2 rb lo, nv] 40 (0, 0)))
    (x0 : Value) (h0 : w.cell? ⟨rb, lo, none⟩ = some x0) (h4 : w.cell? ⟨rb, lo + 4, none⟩ = some (.int .i64 (n : Int)))
    (f0 : w.frozen? ⟨rb, lo, none⟩ = false) (f4 : w.frozen? ⟨rb, lo + 4, none⟩ = false) :
    Calls Yba.prog 36 #[P2 rb lo, P2 eb 0] w fun e w' => e = .returned v ∧ outW w rb lo eb nb 0 n = w' := by
  have hE := eq38
  have c2 : w.cell? ⟨eb, 2, none⟩ = some (P2 rb lo) := by simp [World.cell?, he]
  have c3 : w.cell? ⟨eb, 3, none⟩ = some v := by simp [World.cell?, he]
  have HC : (outW w rb lo eb nb 0 n).cell? ⟨eb, 3, none⟩ = some v := outW_cell3 hne (Or.inl hne3) c3
  go_enter Yba.func36, Yba.ntmps36
  unfold P2 at c2 ⊢
  go_wp2_with fail
  refine (remove_more w rb lo eb nb v nn nv n hn h1 hne hne2 hne3 he hnx x0 h0 h4 f0 f4).mono ?_
  rintro e w' ⟨rfl, rfl⟩
  go_wp2
  go_ret
  exact ⟨rfl, rfl⟩

set_option maxHeartbeats 1000000 in
theorem Remove_only (w : World) (rb lo eb : Nat) (v : Value) (n : Nat) (hn : n < 1000000) (h1 : 0 < n) (hne : eb ≠ rb)
    (he : w.heap[eb]? = some (.cells #[P2 rb lo, P2 rb lo, P2 rb lo, v] 40 (0, 0)))
    (x0 x1 : Value) (h0 : w.cell? ⟨rb, lo, none⟩ = some x0) (h1' : w.cell? ⟨rb, lo + 1, none⟩ = some x1) (h4 : w.cell? ⟨rb, lo + 4, none⟩ = some (.int .i64 (n : Int)))
    (f0 : w.frozen? ⟨rb, lo, none⟩ = false) (f1 : w.frozen? ⟨rb, lo + 1, none⟩ = false) (f4 : w.frozen? ⟨rb, lo + 4, none⟩ = false) :
    Calls Yba.prog 36 #[P2 rb lo, P2 eb 0] w fun e w' => e = .returned v ∧ outW w rb lo eb rb lo n = w' := by
  have hE := eq38
  have c2 : w.cell? ⟨eb, 2, none⟩ = some (P2 rb lo) := by simp [World.cell?, he]
  have c3 : w.cell? ⟨eb, 3, none⟩ = some v := by simp [World.cell?, he]
  have HC : (outW w rb lo eb rb lo n).cell? ⟨eb, 3, none⟩ = some v := outW_cell3 hne (Or.inl hne) c3
  go_enter Yba.func36, Yba.ntmps36
  unfold P2 at c2 ⊢
  go_wp2_with fail
  refine (remove_only w rb lo eb v n hn h1 hne he x0 x1 h0 h1' h4 f0 f1 f4).mono ?_
  rintro e w' ⟨rfl, rfl⟩
  go_wp2
  go_ret
  exact ⟨rfl, rfl⟩
end Go.Proofs.Ybulkakzc

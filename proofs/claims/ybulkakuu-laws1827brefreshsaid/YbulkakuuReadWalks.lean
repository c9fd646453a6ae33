/-
  THE WALKS of seat b1827a's number sets: has (9), sound (10), isPlaced (15).
-/
import Derived.Test.YbulkakuuSetWalks
import Derived.Deep.QuietTactic
import Derived.BigQuiet
namespace Go.Proofs.Ybulkakuu.Ref
open Go.RowKit

theorem ret_bool {a b : Bool} (h : a = b) : Ending.returned (.bool a) = .returned (.bool b) := by rw [h]

set_option maxHeartbeats 1000000 in
theorem has_any (n lb L cap b0 b1 i : Nat) (S : Nat → Bool) (w : World) (hL : 0 < L) (hn : n ≤ 1024) (hi : i < n) (h : NS w n lb b0 b1 S) :
    Calls Yba.prog 9 #[.agg #[.slice (some ⟨lb, 0, none⟩) L cap], .int .i64 (i : Int)] w fun e w' => e = .returned (.bool (S i)) ∧ ∃ o, w' = w.alloc o := by
  have hW : i / 64 < wds n := by unfold wds; omega
  have hWi : (i : Int) / 64 < (wds n : Int) := by omega
  have c0 := h.c0
  have z0 := h.z0
  have z1 := h.r0.lt
  have r0 := h.r0.cell hW
  have HX := shr_word S i
  replace HX : Hid _ := HX
  clear h
  go_enter Yba.func9, Yba.ntmps9
  go_wp2
  go_ret
  exact ⟨ret_bool HX.out, _, rfl⟩

set_option maxHeartbeats 1000000 in
theorem sound_one (n lb cap b0 b1 : Nat) (S : Nat → Bool) (w : World) (h : NS w n lb b0 b1 S) :
    Calls Yba.prog 10 #[.agg #[.slice (some ⟨lb, 0, none⟩) 1 cap]] w fun e w' => e = .returned (.bool true) ∧ ∃ o, w' = w.alloc o := by
  have z0 := h.z0
  clear h
  go_enter Yba.func10, Yba.ntmps10
  go_wp2
  refine wp_loop_rounds 1 ?_
  rw [rounds_succ]
  go_wp2
  go_ret
  exact ⟨rfl, _, rfl⟩

set_option maxHeartbeats 1000000 in
theorem sound_two (n lb cap b0 b1 : Nat) (S : Nat → Bool) (w : World) (hn : 64 < n) (hn2 : n ≤ 1024) (h : NS w n lb b0 b1 S) :
    Calls Yba.prog 10 #[.agg #[.slice (some ⟨lb, 0, none⟩) 2 cap]] w fun e w' => e = .returned (.bool true) ∧ ∃ o, w' = w.alloc o := by
  have z0 := h.z0
  have z1 := h.z1
  have zb := h.r0.lt
  have c0 := h.c0
  have c1 := h.c1 hn
  have hW : wds n ≤ 16 := by unfold wds; omega
  go_enter Yba.func10, Yba.ntmps10
  go_wp2
  refine wp_loop_rounds 2 ?_
  rw [rounds_succ]
  go_wp2
  go_loop [21] (fun t => ∃ j : Nat, j ≤ wds n ∧ t = .int .i64 j) (fun t => wds n - (intOf t).toNat)
  case atStart => exact ⟨0, Nat.zero_le _, rfl⟩
  case round =>
    obtain ⟨j, hj, rfl⟩ := hrel
    by_cases hlt : j < wds n
    · have r0 := h.r0.cell hlt
      have r1 := (h.r1 hn).cell (i := j / 64) (by omega)
      have hz : (j : Int) / 64 < 1 := by omega
      have hx := shr_word (up S) j
      have hu : up S j = (((wd S j : Nat) : Int) != 0) := by unfold up; rw [Bool.eq_iff_iff]; simp
      rw [hu] at hx
      clear hu
      go_wp2
      go_round
      case rel => exact ⟨j + 1, by omega, by go_num⟩
      case measure => simp [intOf]; omega
    · go_wp2
      rw [rounds_succ]
      go_wp2
      go_ret
      exact ⟨rfl, _, rfl⟩

set_option maxHeartbeats 1000000 in
theorem placed_any (sb pl W i : Nat) (P : Nat → Bool) (w : World) (hW : i / 64 < W) (hi : i < 1024)
    (hc : w.cell? ⟨sb, 28, none⟩ = some (.slice (some ⟨pl, 0, none⟩) W W)) (r0 : w.cell? ⟨pl, i / 64, none⟩ = some (.int .u64 ((wd P (i / 64) : Nat) : Int))) :
    Calls Yba.prog 15 #[.pointer (some ⟨sb, 0, none⟩), .int .i64 (i : Int)] w fun e w' => e = .returned (.bool (P i)) ∧ ∃ k, w' = w.drewN k := by
  have hWi : (i : Int) / 64 < (W : Int) := by omega
  have hW0 : 0 ≤ (i : Int) / 64 := by omega
  have HX := and_word P i
  replace HX : Hid _ := HX
  go_enter Yba.func15, Yba.ntmps15
  go_wp2
  go_quiet (fail)
  go_wp2
  go_ret
  exact ⟨ret_bool HX.out, _, rfl⟩
end Go.Proofs.Ybulkakuu.Ref

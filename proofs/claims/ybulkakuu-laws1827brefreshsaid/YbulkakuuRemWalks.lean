/-
  THE WALKS of seat b1827a's number sets: remove (16).
-/
import Derived.Test.YbulkakuuSetWalks
import Derived.RegionTactic
namespace Go.Proofs.Ybulkakuu.Ref
open Go.RowKit

/-- What a round's region wants to know of its number, in the region's own form. -/
theorem idx_facts (i : Nat) (hi : i < 1024) : IntKind.i64.wrap ((i : Int) / 64) = (i : Int) / 64 ∧ ((i : Int) / 64).toNat = i / 64 ∧ (i : Int).tmod 64 = (i : Int) % 64 ∧ 0 ≤ (i : Int) % 64 ∧ (i : Int) % 64 ≤ 64 ∧ ((i : Int) % 64).toNat = i % 64 ∧ 0 ≤ (i : Int) / 64 := by
  refine ⟨by rw [IntKind.wrap_i64]; omega, by omega, Int.tmod_eq_emod_of_nonneg (by omega), by omega, by omega, by omega, by omega⟩

set_option maxHeartbeats 1000000 in
theorem rem_one (n lb cap b0 b1 i : Nat) (S : Nat → Bool) (w : World) (hn : n ≤ 64) (hi : i < n) (h : NS w n lb b0 b1 S) :
    Calls Yba.prog 16 #[.agg #[.slice (some ⟨lb, 0, none⟩) 1 cap], .int .i64 (i : Int)] w fun e w' => e = .returned (.tuple #[]) ∧ But b0 b1 w w' ∧ NS w' n lb b0 b1 (del S i) := by
  have hW : i / 64 < wds n := by unfold wds; omega
  have hWi : (i : Int) / 64 < (wds n : Int) := by omega
  obtain ⟨hw1, hWt, ht, ht0, ht1, htn, hW0⟩ := idx_facts i (by omega)
  have c0 := h.c0
  have z0 := h.z0
  have HX : Hid (bits .andNot .u64 ((wd S (i / 64) : Nat) : Int) (IntKind.u64.wrap ((2 : Int) ^ (i % 64))) = ((wd (del S i) (i / 64) : Nat) : Int)) := andNot_word S i
  by_cases e : wd (del S i) (i / 64) = 0
  · have e' : (bits .andNot .u64 ((wd S (i / 64) : Nat) : Int) (IntKind.u64.wrap ((2 : Int) ^ (i % 64))) != 0) = false := by rw [HX.out, e]; rfl
    clear e
    go_enter Yba.func16, Yba.ntmps16
    go_wp2
    refine wp_loop_rounds 2 ?_
    rw [rounds_succ]
    go_wp2
    generalize hwq : w.alloc _ = wq
    have hq : NS wq n lb b0 b1 S := by rw [← hwq]; exact h.alloc _
    have bq : But b0 b1 w wq := by rw [← hwq]; exact (But.refl _ _ _).alloc _
    have r0' := hq.r0.cell hW
    have f0' := hq.r0.frozen (i / 64)
    clear hwq h
    go_region
    go_wp2
    rw [rounds_succ]
    go_wp2
    go_end0
    exact ⟨rfl, (bq.set0 _ _).drew, (hq.word (i / 64) HX.out (fun j hj => wd_del_other S hj) (fun hh => by omega)).drew⟩
  · have e' : (bits .andNot .u64 ((wd S (i / 64) : Nat) : Int) (IntKind.u64.wrap ((2 : Int) ^ (i % 64))) != 0) = true := by rw [HX.out, bne_iff_ne]; omega
    clear e
    go_enter Yba.func16, Yba.ntmps16
    go_wp2
    refine wp_loop_rounds 1 ?_
    rw [rounds_succ]
    go_wp2
    generalize hwq : w.alloc _ = wq
    have hq : NS wq n lb b0 b1 S := by rw [← hwq]; exact h.alloc _
    have bq : But b0 b1 w wq := by rw [← hwq]; exact (But.refl _ _ _).alloc _
    have r0' := hq.r0.cell hW
    have f0' := hq.r0.frozen (i / 64)
    clear hwq h
    go_region
    go_wp2
    refine bodyPost_ret (results_none rfl _ _ _) rfl ?_
    exact ⟨rfl, (bq.set0 _ _).drew, (hq.word (i / 64) HX.out (fun j hj => wd_del_other S hj) (fun hh => by omega)).drew⟩

set_option maxHeartbeats 1000000 in
theorem rem_two (n lb cap b0 b1 i : Nat) (S : Nat → Bool) (w : World) (hn : 64 < n) (hn2 : n ≤ 1024) (hi : i < n) (h : NS w n lb b0 b1 S) :
    Calls Yba.prog 16 #[.agg #[.slice (some ⟨lb, 0, none⟩) 2 cap], .int .i64 (i : Int)] w fun e w' => e = .returned (.tuple #[]) ∧ But b0 b1 w w' ∧ NS w' n lb b0 b1 (del S i) := by
  have hW : i / 64 < wds n := by unfold wds; omega
  have hWi : (i : Int) / 64 < (wds n : Int) := by omega
  obtain ⟨hw1, hWt, ht, ht0, ht1, htn, hW0⟩ := idx_facts i (by omega)
  have c0 := h.c0
  have c1 := h.c1 hn
  have z0 := h.z0
  have HX : Hid (bits .andNot .u64 ((wd S (i / 64) : Nat) : Int) (IntKind.u64.wrap ((2 : Int) ^ (i % 64))) = ((wd (del S i) (i / 64) : Nat) : Int)) := andNot_word S i
  by_cases e : wd (del S i) (i / 64) = 0
  · have e' : (bits .andNot .u64 ((wd S (i / 64) : Nat) : Int) (IntKind.u64.wrap ((2 : Int) ^ (i % 64))) != 0) = false := by rw [HX.out, e]; rfl
    have E : Hid (up (del S i) = del (up S) (i / 64)) := up_del_zero S i e
    clear e
    go_enter Yba.func16, Yba.ntmps16
    go_wp2
    refine wp_loop_rounds 3 ?_
    rw [rounds_succ]
    go_wp2
    generalize hwq : w.alloc _ = wq
    have hq : NS wq n lb b0 b1 S := by rw [← hwq]; exact h.alloc _
    have bq : But b0 b1 w wq := by rw [← hwq]; exact (But.refl _ _ _).alloc _
    have r0' := hq.r0.cell hW
    have f0' := hq.r0.frozen (i / 64)
    have c1' := hq.c1 hn
    have d1 := hq.d1
    clear hwq h
    go_region
    go_wp2
    rw [rounds_succ]
    go_wp2
    obtain ⟨k, hk⟩ : ∃ k : Nat, k = i / 64 := ⟨_, rfl⟩
    rw [show (i : Int) / 64 = (k : Int) from by omega]
    generalize hwq2 : (wq.setCell _ _).drew = wq2
    have HY : Hid (bits .andNot .u64 ((wd (up S) (k / 64) : Nat) : Int) (IntKind.u64.wrap ((2 : Int) ^ (k % 64))) = ((wd (up (del S i)) 0 : Nat) : Int)) := by
      refine (andNot_word (up S) k).trans ?_
      rw [E.out, ← hk, show k / 64 = 0 from by omega]
    have hq2 : Hid (∀ y : Int, y = ((wd (up (del S i)) 0 : Nat) : Int) → NS (wq2.setCell ⟨b1, k / 64, none⟩ (.int .u64 y)) n lb b0 b1 (del S i)) := by
      rw [← hwq2]
      exact fun y hy => (hq.both (i / 64) HX.out (fun j hj => wd_del_other S hj) hy (z := k / 64) (by omega)).drew
    have bq2 : But b0 b1 w wq2 := by rw [← hwq2]; exact (bq.set0 _ _).drew
    have r1 : wq2.rowIs b1 31 1 (fun j => .int .u64 ((wd (up S) j : Nat) : Int)) := by rw [← hwq2]; exact ((hq.r1 hn).setOther (by exact Ne.symm hq.d3) _).drew
    obtain ⟨gw1, gWt, gt, gt0, gt1, gtn, gW0⟩ := idx_facts k (by omega)
    have gWi : (k : Int) / 64 < 1 := by omega
    have r1' := r1.cell (i := k / 64) (by omega)
    have f1' := r1.frozen (k / 64)
    clear hwq2 bq hq HX E hw1 hWt ht ht0 ht1 htn hW0 hWi e' hk r0' f0' c1' c0 c1
    by_cases e2 : wd (up (del S i)) 0 = 0
    · have e2' : (bits .andNot .u64 ((wd (up S) (k / 64) : Nat) : Int) (IntKind.u64.wrap ((2 : Int) ^ (k % 64))) != 0) = false := by rw [HY.out, e2]; rfl
      clear e2
      go_region
      go_wp2
      rw [rounds_succ]
      go_wp2
      go_end0
      exact ⟨rfl, (bq2.set1 _ _).drew, (hq2.out _ HY.out).drew⟩
    · have e2' : (bits .andNot .u64 ((wd (up S) (k / 64) : Nat) : Int) (IntKind.u64.wrap ((2 : Int) ^ (k % 64))) != 0) = true := by rw [HY.out, bne_iff_ne]; omega
      clear e2
      go_region
      go_wp2
      refine bodyPost_ret (results_none rfl _ _ _) rfl ?_
      exact ⟨rfl, (bq2.set1 _ _).drew, (hq2.out _ HY.out).drew⟩
  · have e' : (bits .andNot .u64 ((wd S (i / 64) : Nat) : Int) (IntKind.u64.wrap ((2 : Int) ^ (i % 64))) != 0) = true := by rw [HX.out, bne_iff_ne]; omega
    have E : Hid (up (del S i) = up S) := up_del_left S i e
    clear e
    go_enter Yba.func16, Yba.ntmps16
    go_wp2
    refine wp_loop_rounds 1 ?_
    rw [rounds_succ]
    go_wp2
    generalize hwq : w.alloc _ = wq
    have hq : NS wq n lb b0 b1 S := by rw [← hwq]; exact h.alloc _
    have bq : But b0 b1 w wq := by rw [← hwq]; exact (But.refl _ _ _).alloc _
    have r0' := hq.r0.cell hW
    have f0' := hq.r0.frozen (i / 64)
    clear hwq h
    go_region
    go_wp2
    refine bodyPost_ret (results_none rfl _ _ _) rfl ?_
    exact ⟨rfl, (bq.set0 _ _).drew, (hq.word (i / 64) HX.out (fun j hj => wd_del_other S hj) (fun _ => E.out)).drew⟩
end Go.Proofs.Ybulkakuu.Ref

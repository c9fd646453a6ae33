/-
  THE LAW LawS1820AAlgebra, of seat b1820a: the walk.
-/
import Derived.Test.YbulkakraAlg
namespace Go.Proofs.Ybulkakra
open Go.RowKit
set_option linter.unusedSimpArgs false
set_option linter.unusedVariables false

theorem hid {p : Prop} (h : p) : Hid p := h
def Q3 (a b c : Nat) (N : List Nd) : Prop := ((True ∧ a < N.length) ∧ b < N.length) ∧ c < N.length
theorem q3_stab (a b c : Nat) : Stab (Q3 a b c) := ((stab_true.and (stab_lt a)).and (stab_lt b)).and (stab_lt c)
def QA (a b c ab : Nat) (N : List Nd) : Prop := Q3 a b c N ∧ Tru N 1 a b ab
theorem qa_stab (a b c ab : Nat) : Stab (QA a b c ab) := (q3_stab a b c).and (stab_tru 1 a b ab)
theorem s1 {w : World} {d : Nat} {wr : World} {m a b c : Nat} (h : BK w d wr m (Q3 a b c)) (hm : m ≤ 3200) :
    Calls Yba.prog 6 #[.pointer (some ⟨d, 0, none⟩), .int .u32 (a : Int), .int .u32 (b : Int)] wr fun e w' => ∃ ab, e = .returned (.int .u32 ((ab : Nat) : Int)) ∧ BK w d w' (m + 6) (QA a b c ab) := h.union (q3_stab a b c) hm a b (fun N q => ⟨q.1.1.2, q.1.2⟩)
theorem s2 {w : World} {d : Nat} {wr : World} {m a b c ab : Nat} (h : BK w d wr m (QA a b c ab)) (hm : m ≤ 3200) :
    Calls Yba.prog 6 #[.pointer (some ⟨d, 0, none⟩), .int .u32 (b : Int), .int .u32 (a : Int)] wr fun e w' => e = .returned (.int .u32 (ab : Int)) ∧ BK w d w' (m + 6) (QA a b c ab) := by
  refine (h.union (qa_stab a b c ab) hm b a (fun N q => ⟨q.1.1.2, q.1.1.1.2⟩)).mono ?_
  rintro e w' ⟨r, rfl, hB⟩
  obtain ⟨N, hw, q, t⟩ := hB.get
  rw [eq_comm' hw q.2 t]
  exact ⟨rfl, hB.weak fun N q => q.1⟩
theorem s3 {w : World} {d : Nat} {wr : World} {m a b c ab : Nat} (h : BK w d wr m (QA a b c ab)) (hm : m ≤ 3200) :
    Calls Yba.prog 6 #[.pointer (some ⟨d, 0, none⟩), .int .u32 (ab : Int), .int .u32 (c : Int)] wr fun e w' => ∃ r, e = .returned (.int .u32 ((r : Nat) : Int)) ∧ BK w d w' (m + 6) (fun N => QA a b c ab N ∧ Tru N 1 ab c r) := h.union (qa_stab a b c ab) hm ab c (fun N q => ⟨q.2.r_lt, q.1.2⟩)
theorem s4 {w : World} {d : Nat} {wr : World} {m a b c ab r : Nat} (h : BK w d wr m (fun N => QA a b c ab N ∧ Tru N 1 ab c r)) (hm : m ≤ 3200) :
    Calls Yba.prog 6 #[.pointer (some ⟨d, 0, none⟩), .int .u32 (b : Int), .int .u32 (c : Int)] wr fun e w' => ∃ bc, e = .returned (.int .u32 ((bc : Nat) : Int)) ∧ BK w d w' (m + 6) (fun N => (QA a b c ab N ∧ Tru N 1 ab c r) ∧ Tru N 1 b c bc) := h.union ((qa_stab a b c ab).and (stab_tru 1 ab c r)) hm b c (fun N q => ⟨q.1.1.1.2, q.1.1.2⟩)
theorem s5 {w : World} {d : Nat} {wr : World} {m a b c ab r bc : Nat} (h : BK w d wr m (fun N => (QA a b c ab N ∧ Tru N 1 ab c r) ∧ Tru N 1 b c bc)) (hm : m ≤ 3200) :
    Calls Yba.prog 6 #[.pointer (some ⟨d, 0, none⟩), .int .u32 (a : Int), .int .u32 (bc : Int)] wr fun e w' => e = .returned (.int .u32 (r : Int)) ∧ BK w d w' (m + 6) (QA a b c ab) := by
  refine (h.union (((qa_stab a b c ab).and (stab_tru 1 ab c r)).and (stab_tru 1 b c bc)) hm a bc (fun N q => ⟨q.1.1.1.1.1.2, q.2.r_lt⟩)).mono ?_
  rintro e w' ⟨r', rfl, hB⟩
  obtain ⟨N, hw, q, t⟩ := hB.get
  rw [eq_assoc' hw q.1.1.2 q.1.2 q.2 t]
  exact ⟨rfl, hB.weak fun N q => q.1.1.1⟩
theorem s6 {w : World} {d : Nat} {wr : World} {m a b c ab : Nat} (h : BK w d wr m (QA a b c ab)) (hm : m ≤ 3200) :
    Calls Yba.prog 6 #[.pointer (some ⟨d, 0, none⟩), .int .u32 (ab : Int), .int .u32 (a : Int)] wr fun e w' => e = .returned (.int .u32 (ab : Int)) ∧ BK w d w' (m + 6) (QA a b c ab) := by
  refine (h.union (qa_stab a b c ab) hm ab a (fun N q => ⟨q.2.r_lt, q.1.1.1.2⟩)).mono ?_
  rintro e w' ⟨r, rfl, hB⟩
  obtain ⟨N, hw, q, t⟩ := hB.get
  rw [eq_abs hw q.2 t]
  exact ⟨rfl, hB.weak fun N q => q.1⟩
theorem s7 {w : World} {d : Nat} {wr : World} {m a b c ab : Nat} (h : BK w d wr m (QA a b c ab)) (hm : m ≤ 3200) :
    Calls Yba.prog 6 #[.pointer (some ⟨d, 0, none⟩), .int .u32 (a : Int), .int .u32 (a : Int)] wr fun e w' => e = .returned (.int .u32 (a : Int)) ∧ BK w d w' (m + 6) (QA a b c ab) := by
  refine (h.union (qa_stab a b c ab) hm a a (fun N q => ⟨q.1.1.1.2, q.1.1.1.2⟩)).mono ?_
  rintro e w' ⟨r, rfl, hB⟩
  obtain ⟨N, hw, q, t⟩ := hB.get
  rw [eq_self' hw t]
  exact ⟨rfl, hB.weak fun N q => q.1⟩
theorem s8 {w : World} {d : Nat} {wr : World} {m a b c ab : Nat} (h : BK w d wr m (QA a b c ab)) (hm : m ≤ 3200) :
    Calls Yba.prog 12 #[.pointer (some ⟨d, 0, none⟩), .int .u32 (ab : Int), .int .u32 (a : Int)] wr fun e w' => e = .returned (.int .u32 (a : Int)) ∧ BJ w d w' (m + 6) (QA a b c ab) := by
  refine (BJ.op isect_all isect_early h.pinned (qa_stab a b c ab) hm ab a (fun N q => ⟨q.2.r_lt, q.1.1.1.2⟩)).mono ?_
  rintro e w' ⟨r, rfl, hB⟩
  obtain ⟨N, hw, q, t⟩ := hB.get
  rw [eq_i1 hw q.2 t]
  exact ⟨rfl, hB.weak fun N q => q.1⟩
theorem s9 {w : World} {d : Nat} {wr : World} {m a b c ab : Nat} (h : BJ w d wr m (QA a b c ab)) (hm : m ≤ 3200) :
    Calls Yba.prog 12 #[.pointer (some ⟨d, 0, none⟩), .int .u32 (ab : Int), .int .u32 (b : Int)] wr fun e w' => e = .returned (.int .u32 (b : Int)) ∧ BJ w d w' (m + 6) (QA a b c ab) := by
  refine (BJ.op isect_all isect_early h (qa_stab a b c ab) hm ab b (fun N q => ⟨q.2.r_lt, q.1.1.2⟩)).mono ?_
  rintro e w' ⟨r, rfl, hB⟩
  obtain ⟨N, hw, q, t⟩ := hB.get
  rw [eq_i2 hw q.2 t]
  exact ⟨rfl, hB.weak fun N q => q.1⟩
theorem s10 {w : World} {d : Nat} {wr : World} {m a b c ab : Nat} (h : BJ w d wr m (QA a b c ab)) (hm : m ≤ 3200) :
    Calls Yba.prog 13 #[.pointer (some ⟨d, 0, none⟩), .int .u32 (a : Int), .int .u32 (ab : Int)] wr fun e w' => e = .returned (.int .u32 0) ∧ Jk w w' := by
  refine (BJ.op diff_all diff_early h (qa_stab a b c ab) hm a ab (fun N q => ⟨q.1.1.1.2, q.2.r_lt⟩)).mono ?_
  rintro e w' ⟨r, rfl, hB⟩
  obtain ⟨N, hw, q, t⟩ := hB.get
  rw [eq_d hw q.2 t]
  exact ⟨rfl, hB.jk⟩
set_option maxRecDepth 100000 in
set_option maxHeartbeats 1000000 in
theorem law4 (w : World) (a0 a1 a2 : Option Addr) (l0 c0 l1 c1 l2 c2 : Nat) (X Y Z : Nat → Nat) (hX : InRow w a0 l0 X) (hY : InRow w a1 l1 Y) (hZ : InRow w a2 l2 Z) :
    Calls Yba.prog 4 #[.slice a0 l0 c0, .slice a1 l1 c1, .slice a2 l2 c2] w fun e w' => e = .returned (.bool true) ∧ Jk w w' := by
  by_cases h0 : 1024 < l0
  · have e1 : ((1024 : Int) < (l0 : Int)) := by omega
    go_enter Yba.func4, Yba.ntmps4
    go_wp2
    go_ret
    exact ⟨rfl, Jk.refl _⟩
  by_cases h1 : 1024 < l1
  · have e0 : ¬ ((1024 : Int) < (l0 : Int)) := by omega
    have e1 : ((1024 : Int) < (l1 : Int)) := by omega
    go_enter Yba.func4, Yba.ntmps4
    go_wp2
    go_ret
    exact ⟨rfl, Jk.refl _⟩
  by_cases h2 : 1024 < l2
  · have e0 : ¬ ((1024 : Int) < (l0 : Int)) := by omega
    have e1 : ¬ ((1024 : Int) < (l1 : Int)) := by omega
    have e2 : ((1024 : Int) < (l2 : Int)) := by omega
    go_enter Yba.func4, Yba.ntmps4
    go_wp2
    go_ret
    exact ⟨rfl, Jk.refl _⟩
  have e0 : ¬ ((1024 : Int) < (l0 : Int)) := by omega
  have e1 : ¬ ((1024 : Int) < (l1 : Int)) := by omega
  have e2 : ¬ ((1024 : Int) < (l2 : Int)) := by omega
  have HX := hid hX
  have HY := hid hY
  have HZ := hid hZ
  clear hX hY hZ
  go_enter Yba.func4, Yba.ntmps4
  go_wp2_with fail
  refine Calls.mono (new_any w) ?_
  rintro e w1 ⟨d, rfl, hNP⟩
  dsimp only
  have HC := hid (aset_any (BK.start hNP) stab_true a0 l0 c0 X HX.out (by omega) (by omega))
  clear hNP
  go_wp2_with fail
  refine Calls.mono HC.out ?_
  rintro e w2 ⟨a, rfl, hB⟩
  dsimp only
  clear HC
  have HC := hid (aset_any hB (stab_true.and (stab_lt a)) a1 l1 c1 Y HY.out (by omega) (by omega))
  clear hB
  go_wp2_with fail
  refine Calls.mono HC.out ?_
  rintro e w3 ⟨b, rfl, hB⟩
  dsimp only
  clear HC
  have HC := hid (aset_any hB ((stab_true.and (stab_lt a)).and (stab_lt b)) a2 l2 c2 Z HZ.out (by omega) (by omega))
  clear hB
  go_wp2_with fail
  refine Calls.mono HC.out ?_
  rintro e w4 ⟨c, rfl, hB⟩
  dsimp only
  clear HC
  obtain ⟨m, hm⟩ : ∃ m, m = 0 + l0 + l1 + l2 := ⟨_, rfl⟩
  rw [← hm] at hB
  have hm2 : m ≤ 3072 := by omega
  have HC := hid (s1 (c := c) hB (by omega))
  clear hB hm h0 h1 h2 e0 e1 e2 HX HY HZ
  go_wp2_with fail
  refine Calls.mono HC.out ?_
  rintro e w5 ⟨ab, rfl, hB⟩
  dsimp only
  clear HC
  have HC := hid (s2 hB (by omega))
  have hab : ((ab : Int) == (ab : Int)) = true := by simp
  have hab2 : ((ab : Int) != (ab : Int)) = false := by simp
  have haa : ((a : Int) == (a : Int)) = true := by simp
  have haa2 : ((a : Int) != (a : Int)) = false := by simp
  have hbb : ((b : Int) == (b : Int)) = true := by simp
  have hbb2 : ((b : Int) != (b : Int)) = false := by simp
  clear hB
  go_wp2_with fail
  refine Calls.mono HC.out ?_
  rintro e w6 ⟨rfl, hB⟩
  dsimp only
  clear HC
  have HC := hid (s3 hB (by omega))
  clear hB
  go_wp2_with fail
  refine Calls.mono HC.out ?_
  rintro e w7 ⟨r, rfl, hB⟩
  dsimp only
  clear HC
  have HC := hid (s4 hB (by omega))
  clear hB
  go_wp2_with fail
  refine Calls.mono HC.out ?_
  rintro e w8 ⟨bc, rfl, hB⟩
  dsimp only
  clear HC
  have HC := hid (s5 hB (by omega))
  have hrr : ((r : Int) == (r : Int)) = true := by simp
  have hrr2 : ((r : Int) != (r : Int)) = false := by simp
  clear hB
  go_wp2_with fail
  refine Calls.mono HC.out ?_
  rintro e w9 ⟨rfl, hB⟩
  dsimp only
  clear HC
  have HC := hid (s6 hB (by omega))
  clear hB
  go_wp2_with fail
  refine Calls.mono HC.out ?_
  rintro e wa ⟨rfl, hB⟩
  dsimp only
  clear HC
  have HC := hid (s7 hB (by omega))
  clear hB
  go_wp2_with fail
  refine Calls.mono HC.out ?_
  rintro e wb ⟨rfl, hB⟩
  dsimp only
  clear HC
  have HC := hid (s8 hB (by omega))
  clear hB
  go_wp2_with fail
  refine Calls.mono HC.out ?_
  rintro e wx ⟨rfl, hB⟩
  dsimp only
  clear HC
  have HC := hid (s9 hB (by omega))
  clear hB
  go_wp2_with fail
  refine Calls.mono HC.out ?_
  rintro e wy ⟨rfl, hB⟩
  dsimp only
  clear HC
  have HC := hid (s10 hB (by omega))
  clear hB
  go_wp2_with fail
  refine Calls.mono HC.out ?_
  rintro e wz ⟨rfl, hJ⟩
  dsimp only
  have HJ := hid hJ
  clear HC hJ
  go_wp2
  go_ret
  exact ⟨rfl, HJ.out⟩
end Go.Proofs.Ybulkakra

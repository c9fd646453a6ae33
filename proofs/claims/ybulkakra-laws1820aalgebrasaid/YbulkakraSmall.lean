/-
  THE SMALL FUNCTIONS of seat b1820a: mix, Compare, part, start, next.
-/
import Derived.Test.YbulkakraRows
import Derived.WalkKit
import Derived.Deep.OwnRows
import Derived.Deep.LoopGhost
import Derived.Deep.DeepCutAuto
import Derived.Laws.BitsLemmas
namespace Go.Proofs.Ybulkakra
open Go.RowKit
set_option linter.unusedSimpArgs false

/-- What mix reckons. -/
def mixA (x : Int) : Int := IntKind.u64.wrap (bits .xor .u64 x (x / 2147483648) * 9202493588570546565)
def mixB (a : Int) : Int := IntKind.u64.wrap (bits .xor .u64 a (a / 134217728) * 9357036318526133325)
def mixF (x : Int) : Int := bits .xor .u64 (mixB (mixA x)) (mixB (mixA x) / 8589934592)
theorem mix_any (w : World) (x : Int) : Calls Yba.prog 27 #[.int .u64 x] w fun e w' => e = .returned (.int .u64 (mixF x)) ∧ w = w' := by
  go_enter Yba.func27, Yba.ntmps27
  go_wp2
  go_ret
  exact ⟨rfl, rfl⟩

/-- How two numbers compare. -/
def cmp3 (a b : Int) : Int := if a < b then -1 else if b < a then 1 else 0
theorem compare_any (w : World) (a b : Int) : Calls Yba.prog 32 #[.int .u32 a, .int .u32 b] w fun e w' => e = .returned (.int .i64 (cmp3 a b)) ∧ w = w' := by
  unfold cmp3
  by_cases h1 : a < b
  · have e1 : decide (a < b) = true := by simpa using h1
    rw [if_pos h1]
    clear h1
    go_enter Yba.func32, Yba.ntmps32
    go_wp2
    go_ret
    exact ⟨rfl, rfl⟩
  · have e1 : decide (a < b) = false := by simpa using h1
    rw [if_neg h1]
    clear h1
    by_cases h2 : b < a
    · have e2 : decide (b < a) = true := by simpa using h2
      rw [if_pos h2]
      clear h2
      go_enter Yba.func32, Yba.ntmps32
      go_wp2
      go_ret
      exact ⟨rfl, rfl⟩
    · have e2 : decide (b < a) = false := by simpa using h2
      rw [if_neg h2]
      clear h2
      go_enter Yba.func32, Yba.ntmps32
      go_wp2
      go_ret
      exact ⟨rfl, rfl⟩

/-- x & y of two numbers that are not negative. -/
theorem and_i64 (a b : Nat) (ha : a < 2 ^ 62) (hb : b < 2 ^ 62) : bits .and .i64 (a : Int) (b : Int) = ((a &&& b : Nat) : Int) :=
  (bits_nat .i64 62 (by decide) (fun n h1 h2 => by rw [IntKind.wrap_i64]; simp at h2; omega) a b ha hb).1
theorem and_u32 (a b : Nat) (ha : a < 2 ^ 32) (hb : b < 2 ^ 32) : bits .and .u32 (a : Int) (b : Int) = ((a &&& b : Nat) : Int) :=
  (bits_nat .u32 32 (by decide) (fun n h1 h2 => by rw [IntKind.wrap_u32]; simp at h2; omega) a b ha hb).1

theorem start_any (w : World) (b o n c : Nat) (a : Option Addr) (h : Nat) (hc : w.cell? ⟨b, o, none⟩ = some (.slice a n c)) (hn : 0 < n) (hn2 : n < 1000000000) (h1 : h < 4294967296) (hM : ∀ x, x &&& (n - 1) = x % n) :
    Calls Yba.prog 62 #[.pointer (some ⟨b, o, none⟩), .int .u32 (h : Int)] w fun e w' => e = .returned (.int .i64 ((h / 256 % n : Nat) : Int)) ∧ w = w' := by
  have hw1 : IntKind.i64.wrap ((n : Int) - 1) = ((n - 1 : Nat) : Int) := by rw [IntKind.wrap_i64]; omega
  have hw2 : (n : Int) - 1 = ((n - 1 : Nat) : Int) := by omega
  have hd : (h : Int) / 256 = ((h / 256 : Nat) : Int) := by omega
  have hand := and_i64 (h / 256) (n - 1) (by omega) (by omega)
  rw [hM] at hand
  have HA : Hid _ := hand
  obtain ⟨m, hm⟩ : ∃ m, m = n - 1 := ⟨_, rfl⟩
  obtain ⟨q, hq⟩ : ∃ q, q = h / 256 := ⟨_, rfl⟩
  rw [← hm] at hw1 hw2 HA
  rw [← hq] at hd HA ⊢
  clear hm hq hand hM
  go_enter Yba.func62, Yba.ntmps62
  go_wp2
  go_ret
  refine ⟨?_, rfl⟩
  rw [← HA.out]
  rfl
theorem next_any (w : World) (b o n c : Nat) (a : Option Addr) (i : Nat) (hc : w.cell? ⟨b, o, none⟩ = some (.slice a n c)) (hi : i < n) (hn2 : n < 1000000000) (hM : ∀ x, x &&& (n - 1) = x % n) :
    Calls Yba.prog 63 #[.pointer (some ⟨b, o, none⟩), .int .i64 (i : Int)] w fun e w' => e = .returned (.int .i64 (((i + 1) % n : Nat) : Int)) ∧ w = w' := by
  have hw0 : IntKind.i64.wrap ((i : Int) + 1) = ((i + 1 : Nat) : Int) := by rw [IntKind.wrap_i64]; omega
  have hw1 : IntKind.i64.wrap ((n : Int) - 1) = ((n - 1 : Nat) : Int) := by rw [IntKind.wrap_i64]; omega
  have hw2 : (n : Int) - 1 = ((n - 1 : Nat) : Int) := by omega
  have hw3 : (i : Int) + 1 = ((i + 1 : Nat) : Int) := by omega
  have hand := and_i64 (i + 1) (n - 1) (by omega) (by omega)
  rw [hM] at hand
  obtain ⟨m, hm⟩ : ∃ m, m = n - 1 := ⟨_, rfl⟩
  obtain ⟨q, hq⟩ : ∃ q, q = i + 1 := ⟨_, rfl⟩
  rw [← hm] at hw1 hw2 hand
  rw [← hq] at hw0 hw3 hand ⊢
  have HA : Hid _ := hand
  clear hm hq hand hM
  go_enter Yba.func63, Yba.ntmps63
  go_wp2
  go_ret
  refine ⟨?_, rfl⟩
  rw [← HA.out]
  rfl
theorem part_any (w : World) (b o : Nat) (h : Nat) (h1 : h < 4294967296) :
    Calls Yba.prog 61 #[.pointer (some ⟨b, o, none⟩), .int .u32 (h : Int)] w fun e w' => e = .returned (.pointer (some ⟨b, o + h % 256 * 2, none⟩)) ∧ w = w' := by
  have hand := and_u32 h 255 (by omega) (by omega)
  rw [show h &&& 255 = h % 256 from Nat.and_two_pow_sub_one_eq_mod h 8] at hand
  have hj : h % 256 < 256 := Nat.mod_lt _ (by omega)
  obtain ⟨j, hjj⟩ : ∃ j, j = h % 256 := ⟨_, rfl⟩
  rw [← hjj] at hand hj ⊢
  have hand' : bits .and .u32 (h : Int) 255 = (j : Int) := hand
  clear hjj hand
  go_enter Yba.func61, Yba.ntmps61
  go_wp2
  go_ret
  exact ⟨rfl, rfl⟩
theorem count_any (w : World) (b o : Nat) (n : Int) (hc : w.cell? ⟨b, o + 1, none⟩ = some (.int .i64 n)) : Calls Yba.prog 37 #[.pointer (some ⟨b, o, none⟩)] w fun e w' => e = .returned (.int .i64 n) ∧ w = w' := by
  go_enter Yba.func37, Yba.ntmps37
  go_wp2
  go_ret
  exact ⟨rfl, rfl⟩
set_option maxRecDepth 100000 in
theorem look_any (w : World) (b : Nat) (x : Int) (hc : w.cell? ⟨b, 1034, none⟩ = some (.int .u64 x)) (hf : w.frozen? ⟨b, 1034, none⟩ = false) (hs : w.cell? ⟨b, 1033, none⟩ = some (.chan none)) : Calls Yba.prog 24 #[.pointer (some ⟨b, 0, none⟩)] w fun e w' => e = .returned (.tuple #[]) ∧ w' = w.setCell ⟨b, 1034, none⟩ (.int .u64 (IntKind.u64.wrap (x + 1))) := by
  have hch : ∀ w : World, (binOp .eql 65 (.chan none) (.chan none)).run Yba.prog w = .ok (.bool true) w := fun w => by kernel_rfl
  generalize hy : IntKind.u64.wrap (x + 1) = y
  by_cases hz : y.tmod 16384 = 0
  · have e1 : ((y.tmod 16384) != 0) = false := by simp [hz]
    clear hz
    go_enter Yba.func24, Yba.ntmps24
    go_wp2
    refine bodyPost_ret (results_none rfl _ _ _) rfl ?_
    exact ⟨rfl, rfl⟩
  · have e1 : ((y.tmod 16384) != 0) = true := by simp [hz]
    clear hz
    go_enter Yba.func24, Yba.ntmps24
    go_wp2
    refine bodyPost_ret (results_none rfl _ _ _) rfl ?_
    exact ⟨rfl, rfl⟩
end Go.Proofs.Ybulkakra

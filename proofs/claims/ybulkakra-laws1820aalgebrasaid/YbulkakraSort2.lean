/-
  SortFunc of seat b1820a.
-/
import Derived.Test.YbulkakraSort
namespace Go.Proofs.Ybulkakra
open Go.RowKit
set_option linter.unusedSimpArgs false
set_option linter.unusedVariables false

set_option maxRecDepth 100000 in
set_option maxHeartbeats 400000 in
theorem pdq_any (w : World) (b m o c : Nat) (f : Nat → Value) (F : List Ed) (z : Int) (hR : Row w b m (laid f o F)) (hm : o + F.length * 2 ≤ m) (hl : F.length ≤ 12) (h1 : 1 ≤ F.length) :
    Calls Yba.prog 42 #[.slice (some ⟨b, o, none⟩) F.length c, .int .i64 0, .int .i64 (F.length : Int), .int .i64 z, .func (.func 31) #[] #[]] w fun e w' => e = .returned (.tuple #[]) ∧ SortP w w' b m o f F := by
  have HI : Hid _ := insertion_any w b m o c f F hR hm hl h1
  clear hR
  have hd : decide ((F.length : Int) ≤ 12) = true := by simp; omega
  have hw : IntKind.i64.wrap (F.length : Int) = (F.length : Int) := by rw [IntKind.wrap_i64]; omega
  generalize hn : F.length = n at *
  have HN : Hid _ := hn
  clear hn
  go_enter Yba.func42, Yba.ntmps42
  go_wp2_with fail
  go_loopg [1, 2] 0 (fun g t u wr => t = .int .i64 0 ∧ u = .int .i64 (n : Int) ∧ wr = w)
  case atStart => exact ⟨rfl, rfl, rfl⟩
  case round =>
    obtain ⟨rfl, rfl, rfl⟩ := hrel
    go_wp2_with fail
    refine Calls.mono HI.out ?_
    rintro e w1 ⟨rfl, hS⟩
    dsimp only
    have HS : Hid _ := hS
    clear hS
    go_wp2
    refine bodyPost_ret (results_none rfl _ _ _) rfl ?_
    exact ⟨rfl, HS.out⟩
set_option maxRecDepth 100000 in
theorem len64_any (w : World) (n : Nat) (h : n ≤ 12) : Calls Yba.prog 58 #[.int .u64 (n : Int)] w fun e w' => (∃ z, e = .returned (.int .i64 z)) ∧ w = w' := by
  have h1 : decide ((4294967296 : Int) ≤ (n : Int)) = false := by simp; omega
  have h2 : decide ((65536 : Int) ≤ (n : Int)) = false := by simp; omega
  have h3 : decide ((256 : Int) ≤ (n : Int)) = false := by simp; omega
  have h4 : IntKind.u8.wrap (n : Int) = (n : Int) := by rw [IntKind.wrap_u8]; omega
  go_enter Yba.func58, Yba.ntmps58
  go_wp2
  go_ret
  exact ⟨⟨_, rfl⟩, rfl⟩
theorem len_any (w : World) (n : Nat) (h : n ≤ 12) : Calls Yba.prog 43 #[.int .u64 (n : Int)] w fun e w' => (∃ z, e = .returned (.int .i64 z)) ∧ w = w' := by
  go_enter Yba.func43, Yba.ntmps43
  go_wp2_with fail
  refine (len64_any w n h).mono ?_
  rintro e w1 ⟨⟨z, rfl⟩, rfl⟩
  dsimp only
  go_wp2
  go_ret
  exact ⟨⟨z, rfl⟩, rfl⟩
theorem sort_any (w : World) (b m o c : Nat) (f : Nat → Value) (F : List Ed) (hR : Row w b m (laid f o F)) (hm : o + F.length * 2 ≤ m) (hl : F.length ≤ 12) (h1 : 1 ≤ F.length) :
    Calls Yba.prog 30 #[.slice (some ⟨b, o, none⟩) F.length c, .func (.func 31) #[] #[]] w fun e w' => e = .returned (.tuple #[]) ∧ SortP w w' b m o f F := by
  have HP : Hid _ := fun z => pdq_any w b m o c f F z hR hm hl h1
  clear hR
  have hw : IntKind.u64.wrap (F.length : Int) = (F.length : Int) := by rw [IntKind.wrap_u64]; omega
  generalize hn : F.length = n at *
  have HN : Hid _ := hn
  clear hn
  go_enter Yba.func30, Yba.ntmps30
  go_wp2_with fail
  refine (len_any w n hl).mono ?_
  rintro e w1 ⟨⟨z, rfl⟩, rfl⟩
  dsimp only
  go_wp2_with fail
  refine Calls.mono (HP.out z) ?_
  rintro e w1 ⟨rfl, hS⟩
  dsimp only
  have HS : Hid _ := hS
  clear hS
  go_wp2
  go_end0
  exact ⟨rfl, HS.out⟩
end Go.Proofs.Ybulkakra

/-
  READING of seat b1820a: list.at, runs.get, nodes.at, nodes.edgesOf, level, edgesOf.
-/
import Derived.Test.YbulkakraRuns
namespace Go.Proofs.Ybulkakra
open Go.RowKit
set_option linter.unusedSimpArgs false
set_option linter.unusedVariables false

/-- x & 65535 below 65536. -/
theorem low16 (n : Nat) (hn : n < 65536) : bits .and .u32 (n : Int) 65535 = (n : Int) := by
  have h := (bits_nat .u32 32 (by decide) (fun n h1 h2 => by rw [IntKind.wrap_u32]; simp at h2; omega) n 65535 (by omega) (by omega)).1
  rw [show n &&& 65535 = n by
    have := Nat.and_two_pow_sub_one_eq_mod n 16
    rw [show (65535 : Nat) = 2 ^ 16 - 1 from rfl, this]
    omega] at h
  exact h
theorem list_at (w : World) (d o ob cb n c0 i : Nat) (h0 : w.cell? ⟨d, o, none⟩ = some (.slice (some ⟨ob, 0, none⟩) 1 c0))
    (h2 : w.cell? ⟨ob, 0, none⟩ = some (.slice (some ⟨cb, 0, none⟩) n 65536)) (hi : i < n) (hn : n ≤ 65536) :
    Calls Yba.prog 40 #[.pointer (some ⟨d, o, none⟩), .int .u32 (i : Int)] w fun e w' => e = .returned (.pointer (some ⟨cb, i * 3, none⟩)) ∧ w = w' := by
  have e1 := low16 i (by omega)
  have e2 : (i : Int) / 65536 = 0 := by omega
  have e3 : ((i : Int) < (n : Int)) := by omega
  go_enter Yba.func40, Yba.ntmps40
  go_wp2
  go_ret
  exact ⟨rfl, rfl⟩
theorem nodes_at (w : World) (d o ob cb n c0 i : Nat) (h0 : w.cell? ⟨d, o, none⟩ = some (.slice (some ⟨ob, 0, none⟩) 1 c0))
    (h2 : w.cell? ⟨ob, 0, none⟩ = some (.slice (some ⟨cb, 0, none⟩) n 65536)) (hi : i < n) (hn : n ≤ 65536) :
    Calls Yba.prog 28 #[.pointer (some ⟨d, o, none⟩), .int .u32 (i : Int)] w fun e w' => e = .returned (.pointer (some ⟨cb, i * 3, none⟩)) ∧ w = w' := by
  go_enter Yba.func28, Yba.ntmps28
  go_wp2_with fail
  refine (list_at w d o ob cb n c0 i h0 h2 hi hn).mono ?_
  rintro e w1 ⟨rfl, rfl⟩
  dsimp only
  go_wp2
  go_ret
  exact ⟨rfl, rfl⟩
theorem level_any (w : World) (d ob cb n c0 i : Nat) (x : Int) (h0 : w.cell? ⟨d, 0, none⟩ = some (.slice (some ⟨ob, 0, none⟩) 1 c0))
    (h2 : w.cell? ⟨ob, 0, none⟩ = some (.slice (some ⟨cb, 0, none⟩) n 65536)) (hi : i < n) (hn : n ≤ 65536) (hx : w.cell? ⟨cb, i * 3, none⟩ = some (.int .u32 x)) :
    Calls Yba.prog 18 #[.pointer (some ⟨d, 0, none⟩), .int .u32 (i : Int)] w fun e w' => e = .returned (.int .u32 x) ∧ w = w' := by
  go_enter Yba.func18, Yba.ntmps18
  go_wp2_with fail
  refine (nodes_at w d 0 ob cb n c0 i h0 h2 hi hn).mono ?_
  rintro e w1 ⟨rfl, rfl⟩
  dsimp only
  go_wp2
  go_ret
  exact ⟨rfl, rfl⟩
theorem runs_get (w : World) (d o ob cb n c0 s m : Nat) (h0 : w.cell? ⟨d, o, none⟩ = some (.slice (some ⟨ob, 0, none⟩) 1 c0))
    (h2 : w.cell? ⟨ob, 0, none⟩ = some (.slice (some ⟨cb, 0, none⟩) n 65536)) (hi : s + m ≤ n) (hn : n ≤ 65536) (hm : 0 < m) :
    Calls Yba.prog 41 #[.pointer (some ⟨d, o, none⟩), .int .u32 (s : Int), .int .u32 (m : Int)] w fun e w' => e = .returned (.slice (some ⟨cb, s * 2, none⟩) m m) ∧ w = w' := by
  have e0 : ((m : Int) == 0) = false := by simp; omega
  have e0' : decide ((m : Int) = 0) = false := by simp; omega
  have e1 := low16 s (by omega)
  have e2 : (s : Int) / 65536 = 0 := by omega
  have e3 : IntKind.u32.wrap ((s : Int) + (m : Int)) = ((s + m : Nat) : Int) := by rw [IntKind.wrap_u32]; omega
  have e4 : s + m ≤ 65536 := by omega
  go_enter Yba.func41, Yba.ntmps41
  go_wp2
  go_ret
  refine ⟨?_, rfl⟩
  show Ending.returned (.slice (some ⟨cb, s * 2, none⟩) (s + m - s) (s + m - s)) = _
  rw [Nat.add_sub_cancel_left]
theorem runs_none (w : World) (p : Value) (s : Nat) :
    Calls Yba.prog 41 #[p, .int .u32 (s : Int), .int .u32 0] w fun e w' => e = .returned (.slice none 0 0) ∧ w = w' := by
  go_enter Yba.func41, Yba.ntmps41
  go_wp2
  go_ret
  exact ⟨rfl, rfl⟩
theorem quiet' {f : FuncId} {args : Array Value} {w : World} {n : Nat} {v : Value}
    (h : Calls Yba.prog f args (w.drewN n) fun e w' => e = .returned v ∧ w.drewN n = w') : Calls Yba.prog f args (w.drewN n) fun e w'' => e = .returned v ∧ ∃ m, w'' = w.drewN m :=
  h.mono fun _ _ ⟨he, hm⟩ => ⟨he, n, hm.symm⟩
theorem quiet2 {f : FuncId} {args : Array Value} {w : World} {n : Nat} {v : Value}
    (h : Calls Yba.prog f args (w.drewN n) fun e w' => e = .returned v ∧ ∃ N, w' = (w.drewN n).drewN N) : Calls Yba.prog f args (w.drewN n) fun e w'' => e = .returned v ∧ ∃ m, w'' = w.drewN m :=
  h.mono fun _ _ ⟨he, m, hm⟩ => ⟨he, n + m, by rw [hm, World.drewN_drewN]⟩
theorem edges_none (w : World) (d o ob cb n c0 i : Nat) (s : Nat) (h0 : w.cell? ⟨d, o, none⟩ = some (.slice (some ⟨ob, 0, none⟩) 1 c0))
    (h2 : w.cell? ⟨ob, 0, none⟩ = some (.slice (some ⟨cb, 0, none⟩) n 65536)) (hi : i < n) (hn : n ≤ 65536)
    (hx : w.cell? ⟨cb, i * 3 + 1, none⟩ = some (.int .u32 (s : Int))) (hy : w.cell? ⟨cb, i * 3 + 2, none⟩ = some (.int .u32 0)) :
    Calls Yba.prog 29 #[.pointer (some ⟨d, o, none⟩), .int .u32 (i : Int)] w fun e w' => e = .returned (.slice none 0 0) ∧ ∃ N, w' = w.drewN N := by
  have q1 : ∀ N, (w.drewN N).cell? ⟨cb, i * 3 + 1, none⟩ = some (.int .u32 (s : Int)) := fun N => hx
  have q2 : ∀ N, (w.drewN N).cell? ⟨cb, i * 3 + 2, none⟩ = some (.int .u32 0) := fun N => hy
  go_enter Yba.func29, Yba.ntmps29
  go_wp2_with fail
  refine (nodes_at w d o ob cb n c0 i h0 h2 hi hn).mono ?_
  rintro e w1 ⟨rfl, rfl⟩
  dsimp only
  go_upto_region 2 with fail
  go_quiet ((go_at_call 41; exact quiet' (runs_none _ _ _)))
  go_wp2
  go_ret
  exact ⟨rfl, _, rfl⟩
theorem edges_some (w : World) (d o ob cb n c0 i eb ec k c1 : Nat) (s m : Nat) (h0 : w.cell? ⟨d, o, none⟩ = some (.slice (some ⟨ob, 0, none⟩) 1 c0))
    (h2 : w.cell? ⟨ob, 0, none⟩ = some (.slice (some ⟨cb, 0, none⟩) n 65536)) (hi : i < n) (hn : n ≤ 65536)
    (hx : w.cell? ⟨cb, i * 3 + 1, none⟩ = some (.int .u32 (s : Int))) (hy : w.cell? ⟨cb, i * 3 + 2, none⟩ = some (.int .u32 (m : Int)))
    (h4 : w.cell? ⟨d, o + 2, none⟩ = some (.slice (some ⟨eb, 0, none⟩) 1 c1)) (h5 : w.cell? ⟨eb, 0, none⟩ = some (.slice (some ⟨ec, 0, none⟩) k 65536)) (hm : s + m ≤ k) (hk : k ≤ 65536) (h0m : 0 < m) :
    Calls Yba.prog 29 #[.pointer (some ⟨d, o, none⟩), .int .u32 (i : Int)] w fun e w' => e = .returned (.slice (some ⟨ec, s * 2, none⟩) m m) ∧ ∃ N, w' = w.drewN N := by
  have q1 : ∀ N, (w.drewN N).cell? ⟨cb, i * 3 + 1, none⟩ = some (.int .u32 (s : Int)) := fun N => hx
  have q2 : ∀ N, (w.drewN N).cell? ⟨cb, i * 3 + 2, none⟩ = some (.int .u32 (m : Int)) := fun N => hy
  go_enter Yba.func29, Yba.ntmps29
  go_wp2_with fail
  refine (nodes_at w d o ob cb n c0 i h0 h2 hi hn).mono ?_
  rintro e w1 ⟨rfl, rfl⟩
  dsimp only
  go_upto_region 2 with fail
  go_quiet ((go_at_call 41; exact quiet' (runs_get _ d (o + 2) eb ec k c1 s m h4 h5 hm hk h0m)))
  go_wp2
  go_ret
  exact ⟨rfl, _, rfl⟩
theorem store_edges (w : World) (d i : Nat) (v : Value) (h : Calls Yba.prog 29 #[.pointer (some ⟨d, 0, none⟩), .int .u32 (i : Int)] w fun e w' => e = .returned v ∧ ∃ N, w' = w.drewN N) :
    Calls Yba.prog 19 #[.pointer (some ⟨d, 0, none⟩), .int .u32 (i : Int)] w fun e w' => e = .returned v ∧ ∃ N, w' = w.drewN N := by
  go_enter Yba.func19, Yba.ntmps19
  go_wp2_with fail
  refine Calls.mono h ?_
  rintro e w1 ⟨rfl, N, rfl⟩
  dsimp only
  go_wp2
  go_ret
  exact ⟨rfl, _, rfl⟩
end Go.Proofs.Ybulkakra

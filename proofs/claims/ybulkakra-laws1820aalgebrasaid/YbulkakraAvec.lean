/-
  zzs1820avec, zzs1820alex of seat b1820a.
-/
import Derived.Test.YbulkakraVec2
namespace Go.Proofs.Ybulkakra
open Go.RowKit
set_option linter.unusedSimpArgs false
set_option linter.unusedVariables false

theorem and_u16 (x : Nat) (h : x < 65536) : bits .and .u16 (x : Int) 3 = ((x % 4 : Nat) : Int) := by
  have := (bits_nat .u16 16 (by decide) (fun n h1 h2 => by rw [IntKind.wrap_u16]; simp at h2; omega) x 3 (by omega) (by omega)).1
  rw [show x &&& 3 = x % 4 from Nat.and_two_pow_sub_one_eq_mod x 2] at this
  exact this
/-- The values of a vector. -/
def vx (x : Nat) (j : Nat) : Nat := x / 4 ^ j % 4
theorem vx_lt (x j : Nat) : vx x j < 4 := Nat.mod_lt _ (by omega)
theorem vx_0 (x : Nat) : vx x 0 = x % 4 := by simp [vx]
theorem vx_1 (x : Nat) : vx x 1 = x / 4 % 4 := by simp [vx]
theorem vx_2 (x : Nat) : vx x 2 = x / 16 % 4 := by simp [vx]
/-- The number of a vector. -/
def cx (x : Nat) : Nat := vx x 0 * 16 + vx x 1 * 4 + vx x 2
theorem cx_lt (x : Nat) : cx x < 64 := by
  have h0 := vx_lt x 0
  have h1 := vx_lt x 1
  have h2 := vx_lt x 2
  unfold cx
  omega
theorem alex_any (w : World) (x : Nat) (h : x < 65536) : Calls Yba.prog 8 #[.int .u16 (x : Int)] w fun e w' => e = .returned (.int .i64 (cx x : Int)) ∧ w = w' := by
  have a0 := and_u16 x h
  have a1 := and_u16 (x / 4) (by omega)
  have a2 := and_u16 (x / 16) (by omega)
  have d1 : (x : Int) / 4 = ((x / 4 : Nat) : Int) := by omega
  have d2 : (x : Int) / 16 = ((x / 16 : Nat) : Int) := by omega
  have v0 := vx_lt x 0
  have v1 := vx_lt x 1
  have v2 := vx_lt x 2
  rw [← vx_0] at a0
  rw [← vx_1, ← d1] at a1
  rw [← vx_2, ← d2] at a2
  have HC : Hid (cx x = vx x 0 * 16 + vx x 1 * 4 + vx x 2) := rfl
  generalize cx x = c at *
  generalize vx x 0 = p at *
  generalize vx x 1 = q at *
  generalize vx x 2 = r at *
  clear d1 d2
  have w0 : IntKind.i64.wrap (p : Int) = (p : Int) := by rw [IntKind.wrap_i64]; omega
  have w1 : IntKind.i64.wrap (q : Int) = (q : Int) := by rw [IntKind.wrap_i64]; omega
  have w2 : IntKind.i64.wrap (r : Int) = (r : Int) := by rw [IntKind.wrap_i64]; omega
  have w3 : IntKind.i64.wrap ((p : Int) * 16) = (p : Int) * 16 := by rw [IntKind.wrap_i64]; omega
  have w4 : IntKind.i64.wrap ((q : Int) * 4) = (q : Int) * 4 := by rw [IntKind.wrap_i64]; omega
  have w5 : IntKind.i64.wrap ((p : Int) * 16 + (q : Int) * 4) = (p : Int) * 16 + (q : Int) * 4 := by rw [IntKind.wrap_i64]; omega
  have w6 : IntKind.i64.wrap ((p : Int) * 16 + (q : Int) * 4 + (r : Int)) = (p : Int) * 16 + (q : Int) * 4 + (r : Int) := by rw [IntKind.wrap_i64]; omega
  go_enter Yba.func8, Yba.ntmps8
  go_wp2
  go_ret
  refine ⟨?_, rfl⟩
  rw [HC.out]
  show Ending.returned (.int .i64 ((p : Int) * 16 + (q : Int) * 4 + (r : Int))) = _
  congr 2
theorem avec_any (tg : Nat → Nat) (w : World) (d x : Nat) (N : List Nd) (S : List Ed) (hx : x < 65536) (hS : St tg w d N S) (hw : Wf N) (hn : N.length + 3 ≤ 65000) (he : esum N + 8 ≤ 65536) (hpz : tg (d + 1) < 1000) :
    Calls Yba.prog 7 #[.pointer (some ⟨d, 0, none⟩), .int .u16 (x : Int)] w fun e w' => ∃ r, e = .returned (.int .u32 ((r : Nat) : Int)) ∧ VP tg w w' d N S (vx x) r := by
  have a0 := and_u16 x hx
  have a1 := and_u16 (x / 4) (by omega)
  have a2 := and_u16 (x / 16) (by omega)
  have d1 : (x : Int) / 4 = ((x / 4 : Nat) : Int) := by omega
  have d2 : (x : Int) / 16 = ((x / 16 : Nat) : Int) := by omega
  rw [← vx_0] at a0
  rw [← vx_1, ← d1] at a1
  rw [← vx_2, ← d2] at a2
  have v0 := vx_lt x 0
  have v1 := vx_lt x 1
  have v2 := vx_lt x 2
  have HV : Hid (∀ cs, cs = #[Value.int .u32 0, .int .u32 (vx x 0 : Int), .int .u32 1, .int .u32 (vx x 1 : Int), .int .u32 2, .int .u32 (vx x 2 : Int)] → Calls Yba.prog 21 #[.pointer (some ⟨d, 0, none⟩), .slice (some ⟨w.heap.size, 0, none⟩) 3 3] (w.alloc (.cells cs 37)) fun e w' => ∃ r, e = .returned (.int .u32 ((r : Nat) : Int)) ∧ VP tg w w' d N S (vx x) r) := by
    rintro cs rfl
    obtain ⟨C, hC⟩ := hS
    obtain ⟨O, hO⟩ : ∃ O, O = Obj.cells #[Value.int .u32 0, .int .u32 (vx x 0 : Int), .int .u32 1, .int .u32 (vx x 1 : Int), .int .u32 2, .int .u32 (vx x 2 : Int)] 37 := ⟨_, rfl⟩
    have hcell : ∀ i, (w.alloc O).cell? ⟨w.heap.size, i, none⟩ = #[Value.int .u32 0, .int .u32 (vx x 0 : Int), .int .u32 1, .int .u32 (vx x 1 : Int), .int .u32 2, .int .u32 (vx x 2 : Int)][i]? := fun i => by
      rw [hO]
      unfold World.cell?
      rw [heap_alloc_new]
      rfl
    rw [← hO]
    have hJ : Jk w (w.alloc O) := (Jk.refl w).alloc O
    refine (vector_any (tagAt tg w.heap.size 0) (w.alloc O) d w.heap.size N S (vx x) (vx_lt x) ⟨C, hC.sm ⟨hJ.size, fun b v hv => ⟨hJ.block b (World.block_lt_of_cell? _ _ hv), tagAt_other _ (by have := World.block_lt_of_cell? _ _ hv; simp only at this; omega)⟩⟩ (fun e he => by rw [tagAt_other _ (by have := hC.pin.1; omega)] at he; exact he)⟩ hw hn he (tagAt_same ..) (by rw [World.size_alloc]; omega) (fun j hj => ?_) (by rw [tagAt_other _ (by have := hC.pin.1; omega)]; exact hpz)).mono ?_
    · rw [hcell, hcell]
      rcases j with _ | _ | _ | j
      · exact ⟨rfl, rfl⟩
      · exact ⟨rfl, rfl⟩
      · exact ⟨rfl, rfl⟩
      · omega
    · rintro e w' ⟨r, rfl, tg', N', z1, z2, z3, z4, z5, z6, z7, z8⟩
      refine ⟨r, rfl, tg', N', z1, z2, z3, z4, z5, z6, z7, ⟨z8.os, z8.output, by have := z8.size; rw [World.size_alloc] at this; omega, fun b hb => ?_, fun b hb hn => ?_⟩⟩
      · rw [z8.tag b (by rw [World.size_alloc]; omega), tagAt_other _ (by omega)]
      · rw [z8.block b (by rw [World.size_alloc]; omega) (by rw [tagAt_other _ (by omega)]; exact hn), hJ.block b hb]
  clear hS hw hn he d1 d2 hpz
  generalize vx x 0 = p at *
  generalize vx x 1 = q at *
  generalize vx x 2 = r at *
  have w0 : IntKind.u32.wrap (p : Int) = (p : Int) := by rw [IntKind.wrap_u32]; omega
  have w1 : IntKind.u32.wrap (q : Int) = (q : Int) := by rw [IntKind.wrap_u32]; omega
  have w2 : IntKind.u32.wrap (r : Int) = (r : Int) := by rw [IntKind.wrap_u32]; omega
  go_enter Yba.func7, Yba.ntmps7
  go_wp2_with fail
  refine Calls.mono (HV.out _ rfl) ?_
  rintro e w1 ⟨rr, rfl, hP⟩
  dsimp only
  have HP : Hid _ := hP
  clear hP
  go_wp2
  go_ret
  exact ⟨rr, rfl, HP.out⟩
end Go.Proofs.Ybulkakra

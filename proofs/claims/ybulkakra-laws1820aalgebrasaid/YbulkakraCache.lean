/-
  cached of seat b1820a.
-/
import Derived.Test.YbulkakraSort2
import Derived.OwnWalk
namespace Go.Proofs.Ybulkakra
open Go.RowKit
set_option linter.unusedSimpArgs false
set_option linter.unusedVariables false

def idx16 (x : Int) : Nat := (bits .and .u64 x 65535).toNat
theorem idx16_eq (x : Int) : bits .and .u64 x 65535 = (idx16 x : Int) ∧ idx16 x < 65536 := by
  have h : ∃ m : Nat, m < 65536 ∧ bits .and .u64 x 65535 = (m : Int) := by
    unfold bits
    simp only [BitVec.toNat_and]
    refine ⟨(BitVec.ofInt 64 x).toNat &&& 65535, ?_, ?_⟩
    · have := Nat.and_le_right (n := (BitVec.ofInt 64 x).toNat) (m := 65535)
      omega
    · have h2 := Nat.and_le_right (n := (BitVec.ofInt 64 x).toNat) (m := 65535)
      have h3 : (BitVec.ofInt IntKind.u64.bits 65535).toNat = 65535 := by decide
      rw [h3, IntKind.wrap_u64]
      show (((BitVec.ofInt 64 x).toNat &&& 65535 : Nat) : Int) % _ = _
      omega
  obtain ⟨m, h1, h2⟩ := h
  unfold idx16
  rw [h2]
  simp
  exact h1
def CachedP (w : World) (cb : Nat) (o a b : Nat) (e : Ending) (w' : World) : Prop :=
  ∃ k op a' b' r : Nat, k < 65536 ∧ w.cell? ⟨cb, k * 4, none⟩ = some (.int .u32 (op : Int)) ∧ w.cell? ⟨cb, k * 4 + 1, none⟩ = some (.int .u32 (a' : Int)) ∧ w.cell? ⟨cb, k * 4 + 2, none⟩ = some (.int .u32 (b' : Int)) ∧ w.cell? ⟨cb, k * 4 + 3, none⟩ = some (.int .u32 (r : Int)) ∧ e = .returned (.tuple #[.pointer (some ⟨cb, k * 4, none⟩), .int .u32 (r : Int), .bool (decide (op = o ∧ a' = a ∧ b' = b))]) ∧ ∃ N, w' = w.drewN N
set_option maxRecDepth 100000 in
set_option maxHeartbeats 400000 in
theorem cached_any (w : World) (d cb o a b : Nat) (h0 : w.cell? ⟨d, 1030, none⟩ = some (.slice (some ⟨cb, 0, none⟩) 65536 65536)) (ho : o < 8) (ha : a < 4294967296) (hb : b < 4294967296)
    (hc : ∀ k, k < 65536 → ∃ op a' b' r : Nat, w.cell? ⟨cb, k * 4, none⟩ = some (.int .u32 (op : Int)) ∧ w.cell? ⟨cb, k * 4 + 1, none⟩ = some (.int .u32 (a' : Int)) ∧ w.cell? ⟨cb, k * 4 + 2, none⟩ = some (.int .u32 (b' : Int)) ∧ w.cell? ⟨cb, k * 4 + 3, none⟩ = some (.int .u32 (r : Int))) :
    Calls Yba.prog 17 #[.pointer (some ⟨d, 0, none⟩), .int .u32 (o : Int), .int .u32 (a : Int), .int .u32 (b : Int)] w fun e w' => CachedP w cb o a b e w' := by
  obtain ⟨ix, hI, hI2⟩ : ∃ ix : Int → Nat, (∀ x, bits .and .u64 x 65535 = (ix x : Int)) ∧ ∀ x, ix x < 65536 := ⟨idx16, fun x => (idx16_eq x).1, fun x => (idx16_eq x).2⟩
  obtain ⟨mx, hmx⟩ : ∃ mx : Int → Int, ∀ (w : World) x, Calls Yba.prog 27 #[.int .u64 x] w fun e w' => e = .returned (.int .u64 (mx x)) ∧ w = w' := ⟨mixF, mix_any⟩
  have HX : Hid _ := hmx
  clear hmx
  have q0 : ∀ N, (w.drewN N).cell? ⟨d, 1030, none⟩ = some (.slice (some ⟨cb, 0, none⟩) 65536 65536) := fun N => h0
  have w1 : IntKind.i64.wrap 65535 = 65535 := by decide
  have w2 : IntKind.u64.wrap 65535 = 65535 := by decide
  have hI3 : ∀ x, ((ix x : Nat) : Int) < 65536 := fun x => by have := hI2 x; omega
  have HC : Hid _ := hc
  have HI : Hid _ := hI2
  clear hc
  go_enter Yba.func17, Yba.ntmps17
  go_upto_region 1 with fail
  go_quiet ((go_at_call 27; exact quiet' (HX.out _ _)))
  go_upto_region 2 with fail
  generalize hk : ix (mx (bits BinOp.xor IntKind.u64 (bits BinOp.xor IntKind.u64 ((o : Int) * 288230376151711744) ((a : Int) * 536870912)) (b : Int))) = k
  have hkl : k < 65536 := by rw [← hk]; exact HI.out _
  clear hk
  obtain ⟨op, a', b', r, c0, c1, c2, c3⟩ := HC.out k hkl
  have p0 : ∀ N, (w.drewN N).cell? ⟨cb, k * 4, none⟩ = some (.int .u32 (op : Int)) := fun N => c0
  have p1 : ∀ N, (w.drewN N).cell? ⟨cb, k * 4 + 1, none⟩ = some (.int .u32 (a' : Int)) := fun N => c1
  have p2 : ∀ N, (w.drewN N).cell? ⟨cb, k * 4 + 2, none⟩ = some (.int .u32 (b' : Int)) := fun N => c2
  have p3 : ∀ N, (w.drewN N).cell? ⟨cb, k * 4 + 3, none⟩ = some (.int .u32 (r : Int)) := fun N => c3
  have C0 : Hid _ := c0
  have C1 : Hid _ := c1
  have C2 : Hid _ := c2
  have C3 : Hid _ := c3
  clear c0 c1 c2 c3 HC HI hI hI2 hI3 q0 h0
  by_cases e1 : op = o
  · have t1 : ((op : Int) == (o : Int)) = true := by simp [e1]
    by_cases e2 : a' = a
    · have t2 : ((a' : Int) == (a : Int)) = true := by simp [e2]
      by_cases e3 : b' = b
      · have t3 : ((b' : Int) == (b : Int)) = true := by simp [e3]
        have HD : Hid (decide (op = o ∧ a' = a ∧ b' = b) = true) := by
          have : decide (op = o ∧ a' = a ∧ b' = b) = true := by simp [e1, e2, e3]
          exact this
        clear e1 e2 e3
        go_quiet (fail)
        go_wp2
        go_ret3
        exact ⟨k, op, a', b', r, hkl, C0.out, C1.out, C2.out, C3.out, by rw [HD.out]; rfl, _, World.drewN_drewN ..⟩
      · have t3 : ((b' : Int) == (b : Int)) = false := by simp; omega
        have HD : Hid (decide (op = o ∧ a' = a ∧ b' = b) = false) := by
          have : decide (op = o ∧ a' = a ∧ b' = b) = false := by simp [e3]
          exact this
        clear e1 e2 e3
        go_quiet (fail)
        go_wp2
        go_ret3
        exact ⟨k, op, a', b', r, hkl, C0.out, C1.out, C2.out, C3.out, by rw [HD.out]; rfl, _, World.drewN_drewN ..⟩
    · have t2 : ((a' : Int) == (a : Int)) = false := by simp; omega
      have HD : Hid (decide (op = o ∧ a' = a ∧ b' = b) = false) := by
        have : decide (op = o ∧ a' = a ∧ b' = b) = false := by simp [e2]
        exact this
      clear e1 e2
      go_quiet (fail)
      go_wp2
      go_ret3
      exact ⟨k, op, a', b', r, hkl, C0.out, C1.out, C2.out, C3.out, by rw [HD.out]; rfl, _, World.drewN_drewN ..⟩
  · have t1 : ((op : Int) == (o : Int)) = false := by simp; omega
    have HD : Hid (decide (op = o ∧ a' = a ∧ b' = b) = false) := by
      have : decide (op = o ∧ a' = a ∧ b' = b) = false := by simp [e1]
      exact this
    clear e1
    go_quiet (fail)
    go_wp2
    go_ret3
    exact ⟨k, op, a', b', r, hkl, C0.out, C1.out, C2.out, C3.out, by rw [HD.out]; rfl, _, World.drewN_drewN ..⟩
end Go.Proofs.Ybulkakra

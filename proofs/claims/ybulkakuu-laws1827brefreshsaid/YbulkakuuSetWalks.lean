/-
  THE WALKS of seat b1827a's number sets: add (7), remove (16).
-/
import Derived.Test.YbulkakuuRows
import Derived.Test.YbulkakuuBitsMath
import Derived.WalkKit
import Derived.Deep.OwnRows
import Derived.BigRegion
namespace Go.Proofs.Ybulkakuu.Ref
open Go.RowKit

/-- Nothing that was there has turned, but for the blocks a and b. -/
structure But (a b : Nat) (w w' : World) : Prop where
  os : w'.os = w.os
  tape : w'.tape = w.tape
  output : w'.output = w.output
  size : w.heap.size ≤ w'.heap.size
  block : ∀ k, k < w.heap.size → k ≠ a → k ≠ b → w'.heap[k]? = w.heap[k]?

theorem But.refl (a b : Nat) (w : World) : But a b w w := ⟨rfl, rfl, rfl, Nat.le_refl _, fun _ _ _ _ => rfl⟩
theorem But.alloc {a b : Nat} {w w' : World} (h : But a b w w') (o : Obj) : But a b w (w'.alloc o) :=
  ⟨h.os, h.tape, h.output, by have := h.size; rw [World.size_alloc]; omega, fun k hk h1 h2 => (Below.heap_alloc _ _ _ (by have := h.size; omega)).trans (h.block k hk h1 h2)⟩
theorem But.drew {a b : Nat} {w w' : World} (h : But a b w w') : But a b w w'.drew := ⟨h.os, h.tape, h.output, h.size, h.block⟩
theorem But.set0 {a b : Nat} {w w' : World} (h : But a b w w') (i : Nat) (v : Value) : But a b w (w'.setCell ⟨a, i, none⟩ v) :=
  ⟨h.os, h.tape, h.output, by rw [World.size_setCell]; exact h.size, fun k hk h1 h2 => (Below.heap_setCell _ _ _ _ h1).trans (h.block k hk h1 h2)⟩
theorem But.set1 {a b : Nat} {w w' : World} (h : But a b w w') (i : Nat) (v : Value) : But a b w (w'.setCell ⟨b, i, none⟩ v) :=
  ⟨h.os, h.tape, h.output, by rw [World.size_setCell]; exact h.size, fun k hk h1 h2 => (Below.heap_setCell _ _ _ _ h2).trans (h.block k hk h1 h2)⟩
theorem But.below {a b B : Nat} {w w' : World} (h : But a b w w') (ha : B ≤ a) (hb : B ≤ b) (hB : B ≤ w.heap.size) : Below B w w' :=
  ⟨h.os, h.tape, h.output, h.size, fun k hk => h.block k (by omega) (by omega) (by omega)⟩

/-- How many words n numbers take. -/
def wds (n : Nat) : Nat := (n + 63) / 64

/-- A number set in memory: its levels' row lb, its words b0, the level above b1 (where there are more than 64 numbers). -/
structure NS (w : World) (n lb b0 b1 : Nat) (S : Nat → Bool) : Prop where
  d1 : lb ≠ b0
  d2 : lb ≠ b1
  d3 : b0 ≠ b1
  z0 : lb < w.heap.size
  z1 : b1 < w.heap.size
  c0 : w.cell? ⟨lb, 0, none⟩ = some (.slice (some ⟨b0, 0, none⟩) (wds n) (wds n))
  c1 : 64 < n → w.cell? ⟨lb, 1, none⟩ = some (.slice (some ⟨b1, 0, none⟩) 1 1)
  r0 : w.rowIs b0 31 (wds n) (fun j => .int .u64 ((wd S j : Nat) : Int))
  r1 : 64 < n → w.rowIs b1 31 1 (fun j => .int .u64 ((wd (up S) j : Nat) : Int))

theorem NS.of_blocks {w w' : World} {n lb b0 b1 : Nat} {S : Nat → Bool} (h : NS w n lb b0 b1 S) (hs : w.heap.size ≤ w'.heap.size)
    (e : w'.heap[lb]? = w.heap[lb]?) (e0 : w'.heap[b0]? = w.heap[b0]?) (e1 : w'.heap[b1]? = w.heap[b1]?) : NS w' n lb b0 b1 S :=
  ⟨h.d1, h.d2, h.d3, Nat.lt_of_lt_of_le h.z0 hs, Nat.lt_of_lt_of_le h.z1 hs, (World.cell?_of_block (w := w) e).trans h.c0, fun hn => (World.cell?_of_block (w := w) e).trans (h.c1 hn), h.r0.of_block e0, fun hn => (h.r1 hn).of_block e1⟩

theorem NS.alloc {w : World} {n lb b0 b1 : Nat} {S : Nat → Bool} (h : NS w n lb b0 b1 S) (o : Obj) : NS (w.alloc o) n lb b0 b1 S :=
  h.of_blocks (by simp) (Below.heap_alloc _ _ _ h.z0) (Below.heap_alloc _ _ _ h.r0.lt) (Below.heap_alloc _ _ _ h.z1)
theorem NS.drew {w : World} {n lb b0 b1 : Nat} {S : Nat → Bool} (h : NS w n lb b0 b1 S) : NS w.drew n lb b0 b1 S := h.of_blocks (Nat.le_refl _) rfl rfl rfl

/-- A word of the lower level written; the level above as the new set wants it. -/
theorem NS.word {w : World} {n lb b0 b1 : Nat} {S T : Nat → Bool} (h : NS w n lb b0 b1 S) (k : Nat) {x : Int} (hx : x = ((wd T k : Nat) : Int)) (ho : ∀ j, j ≠ k → wd T j = wd S j) (hu : 64 < n → up T = up S) :
    NS (w.setCell ⟨b0, k, none⟩ (.int .u64 x)) n lb b0 b1 T := by
  refine ⟨h.d1, h.d2, h.d3, by simpa using h.z0, by simpa using h.z1, ?_, fun hn => ?_, ?_, fun hn => ?_⟩
  · rw [World.cell?_setCell_other _ _ _ _ (by simp [Ne.symm h.d1])]; exact h.c0
  · rw [World.cell?_setCell_other _ _ _ _ (by simp [Ne.symm h.d1])]; exact h.c1 hn
  · refine World.rowIs.congr (h.r0.set k _) fun j _ => ?_
    subst hx
    by_cases e : j = k
    · subst e; simp
    · simp [e, ho j e]
  · rw [hu hn]
    exact (h.r1 hn).setOther (by exact Ne.symm h.d3) _

/-- Both levels written. -/
theorem NS.both {w : World} {n lb b0 b1 : Nat} {S T : Nat → Bool} (h : NS w n lb b0 b1 S) (k : Nat) {x y : Int} (hx : x = ((wd T k : Nat) : Int)) (ho : ∀ j, j ≠ k → wd T j = wd S j) (hy : y = ((wd (up T) 0 : Nat) : Int)) {z : Nat} (hz : z = 0) :
    NS ((w.setCell ⟨b0, k, none⟩ (.int .u64 x)).setCell ⟨b1, z, none⟩ (.int .u64 y)) n lb b0 b1 T := by
  subst hz
  refine ⟨h.d1, h.d2, h.d3, by simpa using h.z0, by simpa using h.z1, ?_, fun hn => ?_, ?_, fun hn => ?_⟩
  · rw [World.cell?_setCell_other _ _ _ _ (by simp [Ne.symm h.d2]), World.cell?_setCell_other _ _ _ _ (by simp [Ne.symm h.d1])]; exact h.c0
  · rw [World.cell?_setCell_other _ _ _ _ (by simp), World.cell?_setCell_other _ _ _ _ (by simp [Ne.symm h.d1])]; exact h.c1 hn
  · refine World.rowIs.setOther ?_ (by exact h.d3) _
    refine World.rowIs.congr (h.r0.set k _) fun j _ => ?_
    subst hx
    by_cases e : j = k
    · subst e; simp
    · simp [e, ho j e]
  · refine World.rowIs.congr (((h.r1 hn).setOther (by exact Ne.symm h.d3) _).set 0 _) fun j hj => ?_
    have : j = 0 := by omega
    subst this
    simp [hy]

set_option maxHeartbeats 1000000 in
theorem add_one (n lb cap b0 b1 i : Nat) (S : Nat → Bool) (w : World) (hn : n ≤ 64) (hi : i < n) (h : NS w n lb b0 b1 S) :
    Calls Yba.prog 7 #[.agg #[.slice (some ⟨lb, 0, none⟩) 1 cap], .int .i64 (i : Int)] w fun e w' => e = .returned (.tuple #[]) ∧ But b0 b1 w w' ∧ NS w' n lb b0 b1 (ins S i) := by
  have hW : i / 64 < wds n := by unfold wds; omega
  have c0 := h.c0
  have z0 := h.z0
  have zb0 := h.r0.lt
  have r0 := h.r0.cell hW
  have f0 := h.r0.frozen (i / 64)
  have d1 := h.d1
  have hl := wd_lt S (i / 64)
  have hx := or_word S i
  have HX : Hid (bits .or .u64 ((wd S (i / 64) : Nat) : Int) (IntKind.u64.wrap ((2 : Int) ^ (i % 64))) = ((wd (ins S i) (i / 64) : Nat) : Int)) := hx
  have HN : Hid (NS (w.setCell ⟨b0, i / 64, none⟩ (.int .u64 (bits .or .u64 ((wd S (i / 64) : Nat) : Int) (IntKind.u64.wrap ((2 : Int) ^ (i % 64)))))) n lb b0 b1 (ins S i)) :=
    h.word (i / 64) hx (fun j hj => wd_ins_other S hj) (fun hh => by omega)
  clear hx h
  by_cases e : wd S (i / 64) = 0
  · have e' : (((wd S (i / 64) : Nat) : Int) != 0) = false := by simp [e]
    clear e
    go_enter Yba.func7, Yba.ntmps7
    go_wp2
    refine wp_loop_rounds 2 ?_
    rw [rounds_succ]
    go_wp2
    rw [rounds_succ]
    go_wp2
    go_end0
    exact ⟨rfl, ((But.refl _ _ _).set0 _ _).alloc _, HN.out.alloc _⟩
  · have e' : (((wd S (i / 64) : Nat) : Int) != 0) = true := by simp [e]
    go_enter Yba.func7, Yba.ntmps7
    go_wp2
    refine wp_loop_rounds 1 ?_
    rw [rounds_succ]
    go_wp2
    refine bodyPost_ret (results_none rfl _ _ _) rfl ?_
    exact ⟨rfl, ((But.refl _ _ _).set0 _ _).alloc _, HN.out.alloc _⟩

set_option maxHeartbeats 1000000 in
theorem add_two (n lb cap b0 b1 i : Nat) (S : Nat → Bool) (w : World) (hn : 64 < n) (hn2 : n ≤ 1024) (hi : i < n) (h : NS w n lb b0 b1 S) :
    Calls Yba.prog 7 #[.agg #[.slice (some ⟨lb, 0, none⟩) 2 cap], .int .i64 (i : Int)] w fun e w' => e = .returned (.tuple #[]) ∧ But b0 b1 w w' ∧ NS w' n lb b0 b1 (ins S i) := by
  have hW : i / 64 < wds n := by unfold wds; omega
  have hZ : i / 64 / 64 = 0 := by omega
  have c0 := h.c0
  have c1 := h.c1 hn
  have z0 := h.z0
  have z1 := h.z1
  have zb0 := h.r0.lt
  have r0 := h.r0.cell hW
  have f0 := h.r0.frozen (i / 64)
  have r1 := (h.r1 hn).cell (i := i / 64 / 64) (by omega)
  have f1 := (h.r1 hn).frozen (i / 64 / 64)
  have d1 := h.d1
  have d2 := h.d2
  have d3 := h.d3
  have hl := wd_lt S (i / 64)
  have hl2 := wd_lt (up S) (i / 64 / 64)
  have hx := or_word S i
  have hy := or_word (up S) (i / 64)
  have HZ : Hid (i / 64 / 64 = 0) := hZ
  have HB : Hid (NS ((w.setCell ⟨b0, i / 64, none⟩ (.int .u64 (bits .or .u64 ((wd S (i / 64) : Nat) : Int) (IntKind.u64.wrap ((2 : Int) ^ (i % 64)))))).setCell ⟨b1, i / 64 / 64, none⟩ (.int .u64 (bits .or .u64 ((wd (up S) (i / 64 / 64) : Nat) : Int) (IntKind.u64.wrap ((2 : Int) ^ (i / 64 % 64)))))) n lb b0 b1 (ins S i)) :=
    h.both (i / 64) hx (fun j hj => wd_ins_other S hj) (by rw [hy, up_ins, hZ]) hZ
  have HN : Hid (wd S (i / 64) ≠ 0 → NS (w.setCell ⟨b0, i / 64, none⟩ (.int .u64 (bits .or .u64 ((wd S (i / 64) : Nat) : Int) (IntKind.u64.wrap ((2 : Int) ^ (i % 64)))))) n lb b0 b1 (ins S i)) :=
    fun hne => h.word (i / 64) hx (fun j hj => wd_ins_other S hj) (fun _ => up_ins_known S i hne)
  clear hx hy hZ h
  by_cases e : wd S (i / 64) = 0
  · have e' : (((wd S (i / 64) : Nat) : Int) != 0) = false := by simp [e]
    clear e
    by_cases e2 : wd (up S) (i / 64 / 64) = 0
    · have e2' : (((wd (up S) (i / 64 / 64) : Nat) : Int) != 0) = false := by simp [e2]
      clear e2
      go_enter Yba.func7, Yba.ntmps7
      go_wp2
      refine wp_loop_rounds 3 ?_
      rw [rounds_succ]
      go_wp2
      rw [rounds_succ]
      go_wp2
      rw [rounds_succ]
      go_wp2
      go_end0
      exact ⟨rfl, (((But.refl _ _ _).set0 _ _).set1 _ _).alloc _, HB.out.alloc _⟩
    · have e2' : (((wd (up S) (i / 64 / 64) : Nat) : Int) != 0) = true := by simp [e2]
      go_enter Yba.func7, Yba.ntmps7
      go_wp2
      refine wp_loop_rounds 2 ?_
      rw [rounds_succ]
      go_wp2
      rw [rounds_succ]
      go_wp2
      refine bodyPost_ret (results_none rfl _ _ _) rfl ?_
      exact ⟨rfl, (((But.refl _ _ _).set0 _ _).set1 _ _).alloc _, HB.out.alloc _⟩
  · have e' : (((wd S (i / 64) : Nat) : Int) != 0) = true := by simp [e]
    have HN' : Hid _ := HN.out e
    go_enter Yba.func7, Yba.ntmps7
    go_wp2
    refine wp_loop_rounds 1 ?_
    rw [rounds_succ]
    go_wp2
    refine bodyPost_ret (results_none rfl _ _ _) rfl ?_
    exact ⟨rfl, ((But.refl _ _ _).set0 _ _).alloc _, HN'.out.alloc _⟩
end Go.Proofs.Ybulkakuu.Ref

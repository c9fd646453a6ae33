/-
  slices.Backward over three entries, of seat b1820a.
-/
import Derived.RangeFuncNested
import Derived.RangeFuncBound
import Derived.RangeFuncCalls
import Derived.RangeFuncLeaves
import Derived.Shelf.Abstract
import Derived.Shelf.RegionOpen
import Derived.OwnWalkIn
import Derived.TacticsInMore
import Derived.LoopNIn
import Derived.LoopIn
import Derived.Test.YbulkakraMake
namespace Go.Proofs.Ybulkakra
open Go.RowKit Go.Shelf
attribute [local go_sem] Oper.semAt_some
set_option linter.unusedSimpArgs false
set_option linter.unusedVariables false

/-- What a round is handed: index, level, value. -/
abbrev Rnd := { x : Nat × Nat × Nat // x.1 < 3 ∧ x.2.1 < 3 ∧ x.2.2 < 4 }
def encR (x : Rnd) : Array Value := #[.int .i64 (x.1.1 : Int), .agg #[.int .u32 (x.1.2.1 : Int), .int .u32 (x.1.2.2 : Int)]]
/-- The entry of level j. -/
def rnd (V : Nat → Nat) (hV : ∀ j, V j < 4) (j : Nat) (hj : j < 3) : Rnd := ⟨(j, j, V j), hj, hj, hV j⟩
/-- What has come behind k rounds. -/
def sq (V : Nat → Nat) (hV : ∀ j, V j < 4) : Nat → List Rnd
  | 0 => []
  | k + 1 => sq V hV k ++ [rnd V hV (2 - k) (by omega)]
theorem sq_length (V : Nat → Nat) (hV : ∀ j, V j < 4) : ∀ k, (sq V hV k).length = k
  | 0 => rfl
  | k + 1 => by rw [sq, List.length_append, sq_length V hV k]; rfl
/-- What the iterator reads is as it was. -/
def KpV (bb be : Nat) (W W' : World) : Prop := W'.heap[bb]? = W.heap[bb]? ∧ W'.heap[be]? = W.heap[be]?
theorem KpV.cell {bb be : Nat} {W W' : World} (h : KpV bb be W W') {a : Addr} (ha : a.block = bb ∨ a.block = be) : W'.cell? a = W.cell? a := by
  rcases ha with e | e
  · exact World.cell?_of_block (by rw [e]; exact h.1)
  · exact World.cell?_of_block (by rw [e]; exact h.2)
set_option maxRecDepth 100000 in
set_option maxHeartbeats 1000000 in
theorem back_in (F : Fence) (n : Nat) (h48 : F.fn 48) (hro : F.round = none) (hn : 1 ≤ n) (l bb be : Nat) (V : Nat → Nat) (hV : ∀ j, V j < 4) (J Jx : List Rnd → World → Prop)
    (hY : ∀ pre x W, J pre W → pre.length < 3 → YieldAt F (n - 1) Yba.prog l (encR x) W fun e W' => (e = .returned (.bool true) ∧ J (pre ++ [x]) W' ∧ KpV bb be W W') ∨ (e = .returned (.bool false) ∧ Jx (pre ++ [x]) W'))
    (W : World) (hBs : W.cell? ⟨bb, 0, none⟩ = some (.slice (some ⟨be, 0, none⟩) 3 3)) (hc : ∀ j, j < 3 → W.cell? ⟨be, j * 2, none⟩ = some (.int .u32 (j : Int)) ∧ W.cell? ⟨be, j * 2 + 1, none⟩ = some (.int .u32 (V j : Int))) (h0 : J [] W) :
    CallsIn F n Yba.prog 48 #[.func (.yield l) #[] #[], .pointer (some ⟨bb, 0, none⟩)] W fun e W' => (∃ v, e = .returned v) ∧
      ((∃ ys, ys = sq V hV 3 ∧ J ys W') ∨ (∃ pre, pre.length ≤ 3 ∧ Jx pre W')) := by
  refine callsIn_of_wp Yba.func48 rfl h48 ?_ hro
  simp only [Yba.ntmps48, List.size_toArray, List.length_cons, List.length_nil, Nat.reduceAdd, Nat.reduceSub, Array.replicate_succ, Array.replicate_zero, List.push_toArray, List.append_toArray, List.nil_append, List.cons_append]
  gi_wp2
  gi_loopw [3] (fun i wr => ∃ (k : Nat) (t : Int), k ≤ 3 ∧ t = 2 - (k : Int) ∧ i = .int .i64 t ∧ J (sq V hV k) wr ∧ KpV bb be W wr) (fun i _ => (intOf i + 1).toNat)
  case atStart => exact ⟨0, 2, by omega, rfl, rfl, h0, rfl, rfl⟩
  case round =>
    obtain ⟨k, t, hk, ht, rfl, hJs, hnx⟩ := hrel
    have hb := (hnx.cell (a := ⟨bb, 0, none⟩) (.inl rfl)).trans hBs
    have hc0 := (hnx.cell (a := ⟨be, 0, none⟩) (.inr rfl)).trans (hc 0 (by omega)).1
    have hc1 := (hnx.cell (a := ⟨be, 1, none⟩) (.inr rfl)).trans (hc 0 (by omega)).2
    have hc2 := (hnx.cell (a := ⟨be, 2, none⟩) (.inr rfl)).trans (hc 1 (by omega)).1
    have hc3 := (hnx.cell (a := ⟨be, 3, none⟩) (.inr rfl)).trans (hc 1 (by omega)).2
    have hc4 := (hnx.cell (a := ⟨be, 4, none⟩) (.inr rfl)).trans (hc 2 (by omega)).1
    have hc5 := (hnx.cell (a := ⟨be, 5, none⟩) (.inr rfl)).trans (hc 2 (by omega)).2
    have hsl := sq_length V hV k
    rcases k with _ | _ | _ | k
    · have hte : t = 2 := by rw [ht]; rfl
      clear ht
      subst hte
      obtain ⟨fn, tmps, assign, body, hy, hR⟩ := hY _ (rnd V hV 2 (by omega)) wr hJs (by rw [hsl]; omega)
      have hy' : (Instr.yield l #[.int .i64 2, .agg #[.int .u32 2, .int .u32 (V 2 : Int)]]).run Yba.prog wr = .ok (.round l fn tmps assign body) wr := hy
      clear hy
      gi_wp2
      refine hR.mono ?_
      rintro e W3 (⟨rfl, hJ3, hk3⟩ | ⟨rfl, hJx3⟩)
      · gi_wp2
        go_roundw
        case rel => exact ⟨1, 1, by omega, rfl, rfl, hJ3, hk3.1.trans hnx.1, hk3.2.trans hnx.2⟩
        case measure => simp [intOf]
      · gi_wp2
        refine bodyPost_ret (results_none rfl _ _ _) rfl ?_
        exact ⟨⟨_, rfl⟩, .inr ⟨_, by simp [hsl], hJx3⟩⟩
    · have hte : t = 1 := by rw [ht]; rfl
      clear ht
      subst hte
      obtain ⟨fn, tmps, assign, body, hy, hR⟩ := hY _ (rnd V hV 1 (by omega)) wr hJs (by rw [hsl]; omega)
      have hy' : (Instr.yield l #[.int .i64 1, .agg #[.int .u32 1, .int .u32 (V 1 : Int)]]).run Yba.prog wr = .ok (.round l fn tmps assign body) wr := hy
      clear hy
      gi_wp2
      refine hR.mono ?_
      rintro e W3 (⟨rfl, hJ3, hk3⟩ | ⟨rfl, hJx3⟩)
      · gi_wp2
        go_roundw
        case rel => exact ⟨2, 0, by omega, rfl, rfl, hJ3, hk3.1.trans hnx.1, hk3.2.trans hnx.2⟩
        case measure => simp [intOf]
      · gi_wp2
        refine bodyPost_ret (results_none rfl _ _ _) rfl ?_
        exact ⟨⟨_, rfl⟩, .inr ⟨_, by simp [hsl], hJx3⟩⟩
    · have hte : t = 0 := by rw [ht]; rfl
      clear ht
      subst hte
      obtain ⟨fn, tmps, assign, body, hy, hR⟩ := hY _ (rnd V hV 0 (by omega)) wr hJs (by rw [hsl]; omega)
      have hy' : (Instr.yield l #[.int .i64 0, .agg #[.int .u32 0, .int .u32 (V 0 : Int)]]).run Yba.prog wr = .ok (.round l fn tmps assign body) wr := hy
      clear hy
      gi_wp2
      refine hR.mono ?_
      rintro e W3 (⟨rfl, hJ3, hk3⟩ | ⟨rfl, hJx3⟩)
      · gi_wp2
        go_roundw
        case rel => exact ⟨3, (-1), by omega, rfl, rfl, hJ3, hk3.1.trans hnx.1, hk3.2.trans hnx.2⟩
        case measure => simp [intOf]
      · gi_wp2
        refine bodyPost_ret (results_none rfl _ _ _) rfl ?_
        exact ⟨⟨_, rfl⟩, .inr ⟨_, by simp [hsl], hJx3⟩⟩
    · obtain rfl : k = 0 := by omega
      have hte : t = -1 := by rw [ht]; rfl
      clear ht
      subst hte
      gi_wp2
      go_end0
      exact ⟨⟨_, rfl⟩, .inl ⟨_, rfl, hJs⟩⟩
end Go.Proofs.Ybulkakra

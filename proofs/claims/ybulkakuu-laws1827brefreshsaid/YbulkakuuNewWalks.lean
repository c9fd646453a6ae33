/-
  THE WALK of seat b1827a's number sets: a new one (6).
-/
import Derived.Test.YbulkakuuSetWalks
namespace Go.Proofs.Ybulkakuu.Ref
open Go.RowKit

theorem info31 : (Yba.prog.info? 31).map (fun i => (i.zero, i.size, i.bytes)) = some (some (.int .u64 0), 1, 8) := by kernel_rfl
theorem info30 : (Yba.prog.info? 30).map (fun i => (i.zero, i.size, i.bytes)) = some (some (.slice none 0 0), 1, 24) := by kernel_rfl

theorem ne_blk {a b i j : Nat} (h : a ≠ b) : (⟨a, i, none⟩ : Addr) ≠ ⟨b, j, none⟩ := by
  intro e
  cases e
  exact h rfl

theorem cell_alloc_at (w : World) (c : Array Value) (t : TypeId) (b i : Nat) (hb : b = w.heap.size) : (w.alloc (.cells c t)).cell? ⟨b, i, none⟩ = c[i]? := by
  subst hb
  simp

/-- The shape of an owned slice that is not empty. -/
theorem own_slice {w : World} {base : Nat} {e : TypeId} {v : Value} {n : Nat} {xs : List Value} (h : w.ownsRow base e 1 v n xs) (hn : 0 < n) :
    ∃ g cap cur, v = .slice (some ⟨g, 0, none⟩) n cap ∧ base ≤ g ∧ w.heap[g]? = some (.cells cur e (0, 0)) ∧ ∀ i, i < n → w.cell? ⟨g, i, none⟩ = xs[i]? := by
  obtain ⟨hl, ⟨_, h0⟩ | ⟨g, cap, cur, hv, hg, hh, hc, _, hs, ht⟩⟩ := h
  · omega
  · refine ⟨g, cap, cur, hv, hg, hh, fun i hi => ?_⟩
    simp only [World.cell?, hh]
    rw [← ht]
    simp [hi]

theorem lt_block {w : World} {b : Nat} {o : Obj} (h : w.heap[b]? = some o) : b < w.heap.size := by
  obtain ⟨h', _⟩ := Array.getElem?_eq_some_iff.1 h
  exact h'

/-- A row that make has laid reads as the empty set's words. -/
theorem row_empty (w : World) (W : Nat) (S : Nat → Bool) (hS : ∀ x, S x = false) : (w.alloc (.cells (madeCells #[.int .u64 0] W) 31)).rowIs w.heap.size 31 W (fun j => .int .u64 ((wd S j : Nat) : Int)) := by
  refine (World.rowIs_made w (.int .u64 0) W 31).congr fun j _ => ?_
  have : wd S j = 0 := by
    by_cases h : wd S j = 0
    · exact h
    · obtain ⟨b, _, hb⟩ := (wd_ne_zero S j).1 h
      rw [hS] at hb
      cases hb
  rw [this]
  rfl
theorem up_empty : ∀ x, up (fun _ => false) x = false := by
  intro x
  unfold up
  have : wd (fun _ => false) x = 0 := by
    by_cases h : wd (fun _ => false) x = 0
    · exact h
    · obtain ⟨b, _, hb⟩ := (wd_ne_zero _ x).1 h
      cases hb
  rw [this]
  rfl

set_option maxRecDepth 100000 in
set_option maxHeartbeats 1000000 in
theorem new_one (n : Nat) (w : World) (hn0 : 0 < n) (hn : n ≤ 64) :
    Calls Yba.prog 6 #[.int .i64 (n : Int)] w fun e w' => ∃ lb cap b0 b1, e = .returned (.agg #[.slice (some ⟨lb, 0, none⟩) 1 cap]) ∧
      NS w' n lb b0 b1 (fun _ => false) ∧ w.heap.size ≤ lb ∧ w.heap.size ≤ b0 ∧ w.heap.size ≤ b1 ∧ Below w.heap.size w w' := by
  have hW : wds n = 1 := by unfold wds; omega
  have HW : Hid (wds n = 1) := hW
  clear hW
  have hdiv : ((n : Int) + 63) / 64 = 1 := by omega
  obtain ⟨i0, hi, hz0, hz1, hz2⟩ := info_parts info30
  have hmk := run_make_row' (P := Yba.prog) 30 31 (.int .u64 0) 8 Yba.underlying30 info31 rfl .i64 .i64 1 (by omega) (by omega)
  simp only [Int.natCast_one] at hmk
  go_enter Yba.func6, Yba.ntmps6
  go_wp2
  refine wp_loop_rounds 1 ?_
  rw [rounds_succ]
  go_wp2_with (at_builtin; refine wpList_append_own _ rfl _ _ 25 rfl (w.heap.size + 2) 30 i0 (.slice none 0 0) 1 24 Yba.underlying25 hi hz0 hz1 hz2 rfl (by decide) _ _ _ rfl (World.ownsRow_nil _ _ _ _) ⟨w.heap.size + 1 + 1, 0, none⟩ 1 1 [.slice (some ⟨w.heap.size + 1, 0, none⟩) 1 1] rfl rfl ?c1 ?c2 ?c3 ?c4 ?c5 ?_)
  case c1 =>
    intro j u hj
    match j, hj with
    | 0, hj => simp at hj; subst hj; exact (cell_alloc_at _ _ _ _ _ (by simp)).trans rfl
  case c2 => intro u hu; simp at hu; subst hu; rfl
  case c3 => unfold maxLen; omega
  case c4 => omega
  case c5 => simp
  · intro v' w1 hown' hgrow _
    obtain ⟨g, cap, cur, hv, hg, hh, hcell⟩ := own_slice hown' (by omega)
    have hc0 := hcell 0 (by omega)
    have hsz : w.heap.size + 3 ≤ w1.heap.size := by have := hgrow.size; simp at this; omega
    have hb0 : w1.rowIs (w.heap.size + 1) 31 1 (fun j => .int .u64 ((wd (fun _ => false) j : Nat) : Int)) := by
      have h1 := row_empty (w.alloc (.cells #[.slice none 0 0] 27)) 1 (fun _ => false) (fun _ => rfl)
      rw [World.size_alloc] at h1
      exact (h1.alloc _).of_block (hgrow.block _ (by simp) (by simp [Value.ownBlock]))
    have hbel : Below w.heap.size w w1 := ((((Below.refl _ _).alloc (Nat.le_refl _) _).alloc (by simp) _).alloc (by simp; omega) _).grown hgrow (by simp; omega) (fun k hk => by simp [Value.ownBlock] at hk)
    have hres : w1.heap[w.heap.size]? = some (.cells #[.slice none 0 0] 27 (0, 0)) := by
      rw [hgrow.block _ (by simp; omega) (by simp [Value.ownBlock]), Below.heap_alloc _ _ _ (by simp; omega), Below.heap_alloc _ _ _ (by simp)]
      exact heap_alloc_new _ _
    have hlb := lt_block hh
    have rc := cell_of_one hres
    have rf := free_of_one hres
    rw [hv]
    clear hown' hgrow hv
    go_wp2
    refine bodyPost_ret (v := .agg #[.slice (some ⟨g, 0, none⟩) 1 cap]) (by simp [results, Yba.results6, go_sem, rc]) rfl ?_
    refine ⟨g, cap, w.heap.size + 1, w.heap.size, rfl, ⟨by omega, by omega, by omega, by simpa using hlb, by simp; omega, ?_, fun h => by omega, ?_, fun h => by omega⟩, by omega, by omega, by omega, hbel.setCell (Nat.le_refl _) _⟩
    · rw [HW.out, World.cell?_setCell_other _ _ _ _ (ne_blk (by omega))]
      exact hc0
    · rw [HW.out]
      exact hb0.setOther (by simp) _

set_option maxRecDepth 100000 in
set_option maxHeartbeats 1000000 in
theorem new_two (n : Nat) (w : World) (hn : 64 < n) (hn2 : n ≤ 1024) :
    Calls Yba.prog 6 #[.int .i64 (n : Int)] w fun e w' => ∃ lb cap b0 b1, e = .returned (.agg #[.slice (some ⟨lb, 0, none⟩) 2 cap]) ∧
      NS w' n lb b0 b1 (fun _ => false) ∧ w.heap.size ≤ lb ∧ w.heap.size ≤ b0 ∧ w.heap.size ≤ b1 ∧ Below w.heap.size w w' := by
  obtain ⟨W, hWd⟩ : ∃ W, W = wds n := ⟨_, rfl⟩
  have hW1 : 1 < W := by rw [hWd]; unfold wds; omega
  have hW2 : W ≤ 16 := by rw [hWd]; unfold wds; omega
  have hdiv : ((n : Int) + 63) / 64 = (W : Int) := by rw [hWd]; unfold wds; omega
  have hdiv2 : ((W : Int) + 63) / 64 = 1 := by omega
  have HW : Hid (W = wds n) := hWd
  clear hWd
  obtain ⟨i0, hi, hz0, hz1, hz2⟩ := info_parts info30
  have hmk := run_make_row' (P := Yba.prog) 30 31 (.int .u64 0) 8 Yba.underlying30 info31 rfl .i64 .i64 W (by omega) (by omega)
  have hmk1 := run_make_row' (P := Yba.prog) 30 31 (.int .u64 0) 8 Yba.underlying30 info31 rfl .i64 .i64 1 (by omega) (by omega)
  simp only [Int.natCast_one] at hmk1
  go_enter Yba.func6, Yba.ntmps6
  go_wp2
  refine wp_loop_rounds 2 ?_
  rw [rounds_succ]
  go_wp2_with (at_builtin; refine wpList_append_own _ rfl _ _ 25 rfl (w.heap.size + 2) 30 i0 (.slice none 0 0) 1 24 Yba.underlying25 hi hz0 hz1 hz2 rfl (by decide) _ _ _ rfl (World.ownsRow_nil _ _ _ _) ⟨w.heap.size + 1 + 1, 0, none⟩ 1 1 [.slice (some ⟨w.heap.size + 1, 0, none⟩) W W] rfl rfl ?c1 ?c2 ?c3 ?c4 ?c5 ?_)
  case c1 =>
    intro j u hj
    match j, hj with
    | 0, hj => simp at hj; subst hj; exact (cell_alloc_at _ _ _ _ _ (by simp)).trans rfl
  case c2 => intro u hu; simp at hu; subst hu; rfl
  case c3 => unfold maxLen; omega
  case c4 => omega
  case c5 => simp
  · intro v' w1 hown' hgrow _
    have hsz : w.heap.size + 3 ≤ w1.heap.size := by have := hgrow.size; simp at this; omega
    have hb0 : w1.rowIs (w.heap.size + 1) 31 W (fun j => .int .u64 ((wd (fun _ => false) j : Nat) : Int)) := by
      have h1 := row_empty (w.alloc (.cells #[.slice none 0 0] 27)) W (fun _ => false) (fun _ => rfl)
      rw [World.size_alloc] at h1
      exact (h1.alloc _).of_block (hgrow.block _ (by simp) (by simp [Value.ownBlock]))
    have hbel : Below w.heap.size w w1 := ((((Below.refl _ _).alloc (Nat.le_refl _) _).alloc (by simp) _).alloc (by simp; omega) _).grown hgrow (by simp; omega) (fun k hk => by simp [Value.ownBlock] at hk)
    have hres : w1.heap[w.heap.size]? = some (.cells #[.slice none 0 0] 27 (0, 0)) := by
      rw [hgrow.block _ (by simp; omega) (by simp [Value.ownBlock]), Below.heap_alloc _ _ _ (by simp; omega), Below.heap_alloc _ _ _ (by simp)]
      exact heap_alloc_new _ _
    clear hgrow
    go_wp2
    rw [hdiv2]
    rw [rounds_succ]
    go_wp2_with (at_builtin; refine wpList_append_own _ rfl _ _ 25 rfl (w.heap.size + 2) 30 i0 (.slice none 0 0) 1 24 Yba.underlying25 hi hz0 hz1 hz2 rfl (by decide) _ _ _ rfl ((hown'.alloc _).alloc _) ⟨w1.heap.size + 1, 0, none⟩ 1 1 [.slice (some ⟨w1.heap.size, 0, none⟩) 1 1] rfl rfl ?e1 ?e2 ?e3 ?e4 ?e5 ?_)
    case e1 =>
      intro j u hj
      match j, hj with
      | 0, hj => simp at hj; subst hj; exact (cell_alloc_at _ _ _ _ _ (by simp)).trans rfl
    case e2 => intro u hu; simp at hu; subst hu; rfl
    case e3 => unfold maxLen; omega
    case e4 => omega
    case e5 => simp; omega
    · intro v2 w2 hown2 hgrow _
      obtain ⟨g, cap, cur, hv, hg, hh, hcell⟩ := own_slice hown2 (by omega)
      obtain ⟨g1, cap1, cur1, hv1, hg1, hh1, hcell1⟩ := own_slice hown' (by omega)
      have hob : v'.ownBlock = some g1 := by rw [hv1]; rfl
      rw [hob] at hgrow
      have hc0 := hcell 0 (by omega)
      have hc1 := hcell 1 (by omega)
      have hsz2 : w1.heap.size + 2 ≤ w2.heap.size := by have := hgrow.size; simp at this; omega
      have hlb := lt_block hh
      have hlb1 := lt_block hh1
      have hne1 : g1 ≠ w.heap.size + 1 := by omega
      have hb0' : w2.rowIs (w.heap.size + 1) 31 W (fun j => .int .u64 ((wd (fun _ => false) j : Nat) : Int)) :=
        ((hb0.alloc _).alloc _).of_block (hgrow.block _ (by simp; omega) (by simp; omega))
      have hb1 : w2.rowIs w1.heap.size 31 1 (fun j => .int .u64 ((wd (up (fun _ => false)) j : Nat) : Int)) :=
        ((row_empty w1 1 _ up_empty).alloc _).of_block (hgrow.block _ (by simp; omega) (by simp; omega))
      have hres' : w2.heap[w.heap.size]? = some (.cells #[.slice none 0 0] 27 (0, 0)) := by
        rw [hgrow.block _ (by simp; omega) (by simp; omega), Below.heap_alloc _ _ _ (by simp; omega), Below.heap_alloc _ _ _ (by omega)]
        exact hres
      have hbel2 : Below w.heap.size w w2 := ((hbel.alloc (by omega) _).alloc (by simp; omega) _).grown hgrow (by simp; omega) (fun k hk => by simp at hk; omega)
      have hgb1 : g ≠ w1.heap.size := by
        intro e
        obtain ⟨c, hc, _⟩ := hb1
        rw [e, hc] at hh
        simp at hh
      have rc := cell_of_one hres'
      have rf := free_of_one hres'
      rw [hv]
      clear hown2 hgrow hv hown' hres hob hh1 hcell1 hv1
      go_wp2
      refine bodyPost_ret (v := .agg #[.slice (some ⟨g, 0, none⟩) 2 cap]) (by simp [results, Yba.results6, go_sem, rc]) rfl ?_
      refine ⟨g, cap, w.heap.size + 1, w1.heap.size, rfl, ⟨by omega, hgb1, by omega, by simpa using hlb, by simp; omega, ?_, fun _ => ?_, ?_, fun _ => ?_⟩, by omega, by omega, by omega, hbel2.setCell (Nat.le_refl _) _⟩
      · rw [← HW.out, World.cell?_setCell_other _ _ _ _ (ne_blk (by omega))]
        exact hc0
      · rw [World.cell?_setCell_other _ _ _ _ (by simp)]
        exact hc1
      · rw [← HW.out]
        exact hb0'.setOther (by simp) _
      · exact hb1.setOther (by show w1.heap.size ≠ w.heap.size; omega) _
end Go.Proofs.Ybulkakuu.Ref

/-
  TIME, as seat b1835a needs it: whole seconds behind the zero time, without a monotonic part.
-/
import Derived.Test.YbulkakzcListok
namespace Go.Proofs.Ybulkakzc
open Go.RowKit
set_option linter.unusedSimpArgs false

theorem bit63 : bits BinOp.and IntKind.u64 0 9223372036854775808 = 0 := by kernel_rfl
theorem bit30 : bits BinOp.and IntKind.u64 0 1073741823 = 0 := by kernel_rfl
theorem bitn30 : bits BinOp.andNot IntKind.u64 0 1073741823 = 0 := by kernel_rfl
theorem bit0 : bits BinOp.and IntKind.u64 0 0 = 0 := by kernel_rfl
theorem bitor0 : bits BinOp.or IntKind.u64 0 0 = 0 := by kernel_rfl

/-- A time: e seconds behind the zero time. -/
def tm (e : Int) : Array Value := #[.int .u64 0, .int .i64 e, .pointer none]

theorem nsec_any (w : World) (b : Nat) (e : Int) (hb : w.heap[b]? = some (.cells (tm e) 34 (0, 0))) : Calls Yba.prog 19 #[.pointer (some ⟨b, 0, none⟩)] w fun r w' => r = .returned (.int .i32 0) ∧ w = w' := by
  have c0 := cell_of_heap hb 0 (.int .u64 0) rfl
  clear hb
  have b1 := bit30
  go_enter Yba.func19, Yba.ntmps19
  go_wp2
  go_ret
  exact ⟨rfl, rfl⟩
theorem sec_any (w : World) (b : Nat) (e : Int) (hb : w.heap[b]? = some (.cells (tm e) 34 (0, 0))) : Calls Yba.prog 30 #[.pointer (some ⟨b, 0, none⟩)] w fun r w' => r = .returned (.int .i64 e) ∧ w = w' := by
  have c0 := cell_of_heap hb 0 (.int .u64 0) rfl
  have c1 := cell_of_heap hb 1 (.int .i64 e) rfl
  clear hb
  have b1 := bit63
  go_enter Yba.func30, Yba.ntmps30
  go_wp2
  go_ret
  exact ⟨rfl, rfl⟩
theorem old_any (w : World) (n a tmo : Int) (h1 : -1000000 ≤ n - a) (h2 : n - a ≤ 1000000) : Calls Yba.prog 9 #[.int .i64 n, .int .i64 a, .int .i64 tmo] w fun r w' => r = .returned (.bool (decide (tmo < (n - a) * 1000000000))) ∧ w = w' := by
  have w1 : IntKind.i64.wrap (n - a) = n - a := by rw [IntKind.wrap_i64]; omega
  have w2 : IntKind.i64.wrap ((n - a) * 1000000000) = (n - a) * 1000000000 := by rw [IntKind.wrap_i64]; omega
  go_enter Yba.func9, Yba.ntmps9
  go_wp2
  go_ret
  exact ⟨rfl, rfl⟩
/-- The timeout that serves. -/
def rto (tmo : Int) : Int := if tmo ≤ 0 then 120000000000 else if 120000000000 < tmo then 120000000000 else tmo
theorem rto_any (w : World) (tmo mp : Int) : Calls Yba.prog 24 #[.agg #[.int .i64 0, .slice none 0 0, .bool false, .int .i64 0, .int .i64 tmo, .int .i64 mp, .int .i64 0]] w fun r w' => r = .returned (.int .i64 (rto tmo)) ∧ ∃ o, w' = w.alloc o := by
  by_cases h : tmo ≤ 0
  · have e1 : decide (tmo ≤ 0) = true := by simpa using h
    have HT : Hid (tmo ≤ 0) := h
    clear h
    go_enter Yba.func24, Yba.ntmps24
    go_wp2
    go_ret
    unfold rto
    rw [if_pos HT.out]
    exact ⟨rfl, _, rfl⟩
  · have e1 : decide (tmo ≤ 0) = false := by simpa using h
    have HT : Hid (¬ tmo ≤ 0) := h
    clear h
    go_enter Yba.func24, Yba.ntmps24
    go_wp2
    · have h' : 120000000000 < tmo := by omega
      go_ret
      unfold rto
      rw [if_neg (by have := HT.out; omega), if_pos h']
      exact ⟨rfl, _, rfl⟩
    · have h' : ¬ 120000000000 < tmo := by omega
      go_ret
      unfold rto
      rw [if_neg (by have := HT.out; omega), if_neg h']
      exact ⟨rfl, _, rfl⟩
theorem addSec_any (w : World) (b : Nat) (e d : Int) (he1 : -1000000 ≤ e) (he2 : e ≤ 1000000) (hd1 : -1000000 ≤ d) (hd2 : d ≤ 1000000) (hb : w.heap[b]? = some (.cells (tm e) 34 (0, 0))) : Calls Yba.prog 20 #[.pointer (some ⟨b, 0, none⟩), .int .i64 d] w fun r w' => r = .returned (.tuple #[]) ∧ w' = w.setCell ⟨b, 1, none⟩ (.int .i64 (e + d)) := by
  have c0 := cell_of_heap hb 0 (.int .u64 0) rfl
  have c1 := cell_of_heap hb 1 (.int .i64 e) rfl
  have f1 : w.frozen? ⟨b, 1, none⟩ = false := by simp [World.frozen?, hb]
  have w1 : IntKind.i64.wrap (e + d) = e + d := by rw [IntKind.wrap_i64]; omega
  clear hb
  by_cases h0 : 0 < d
  · have e1 : decide (e < e + d) = true := by simp; omega
    have e2 : decide (0 < d) = true := by simpa using h0
    have b1 := bit63
    go_enter Yba.func20, Yba.ntmps20
    go_wp2
    go_end0
    exact ⟨rfl, rfl⟩
  · have e1 : decide (e < e + d) = false := by simp; omega
    have e2 : decide (0 < d) = false := by simpa using h0
    have b1 := bit63
    go_enter Yba.func20, Yba.ntmps20
    go_wp2
    go_end0
    exact ⟨rfl, rfl⟩

theorem tm_set {w : World} {b : Nat} {e d : Int} (hb : w.heap[b]? = some (.cells (tm e) 34 (0, 0))) : (w.setCell ⟨b, 1, none⟩ (.int .i64 d)).heap[b]? = some (.cells (tm d) 34 (0, 0)) := by
  rw [heap_set_same hb]
  rfl

set_option maxRecDepth 100000 in
theorem add_any (w : World) (e d : Int) (he1 : -1000000 ≤ e) (he2 : e ≤ 1000000) (hd1 : -1000000 ≤ d) (hd2 : d ≤ 1000000) : Calls Yba.prog 6 #[.agg (tm e), .int .i64 (d * 1000000000)] w fun r w' => r = .returned (.agg (tm (e + d))) ∧ Same w w' := by
  have b1 := bit63
  have b2 := bitn30
  have b3 := bitor0
  unfold tm
  go_enter Yba.func6, Yba.ntmps6
  go_wp2_with fail
  have hz1 : (w.alloc (.cells (tm e) 34)).heap.size = w.heap.size + 1 := World.size_alloc ..
  have hb0 : ((w.alloc (.cells (tm e) 34)).alloc (.cells (tm 0) 34)).heap[w.heap.size]? = some (.cells (tm e) 34 (0, 0)) := (Below.heap_alloc _ _ _ (by rw [hz1]; omega)).trans (heap_alloc_new _ _)
  have hr0 : ((w.alloc (.cells (tm e) 34)).alloc (.cells (tm 0) 34)).heap[w.heap.size + 1]? = some (.cells (tm 0) 34 (0, 0)) := by
    have := heap_alloc_new (w.alloc (.cells (tm e) 34)) (.cells (tm 0) 34)
    rwa [hz1] at this
  have hS0 : Same w ((w.alloc (.cells (tm e) 34)).alloc (.cells (tm 0) 34)) := ((Same.refl w).alloc _).alloc _
  change Calls _ _ _ ((w.alloc (.cells (tm e) 34)).alloc (.cells (tm 0) 34)) _
  generalize hw0 : (w.alloc (.cells (tm e) 34)).alloc (.cells (tm 0) 34) = w0 at hb0 hr0 hS0 ⊢
  clear hw0 hz1
  obtain ⟨tb, htb⟩ : ∃ tb, tb = w.heap.size := ⟨_, rfl⟩
  rw [← htb] at hb0 hr0 ⊢
  have HTB : Hid (tb = w.heap.size) := htb
  clear htb
  refine (nsec_any w0 tb e hb0).mono ?_
  rintro r w1 ⟨rfl, rfl⟩
  dsimp only
  have c0 := cell_of_heap hb0 0 (.int .u64 0) rfl
  have f0 : w0.frozen? ⟨tb, 0, none⟩ = false := by simp [World.frozen?, hb0]
  have hb1 : (w0.setCell ⟨tb, 0, none⟩ (.int .u64 0)).heap[tb]? = some (.cells (tm e) 34 (0, 0)) := by
    rw [heap_set_same hb0]
    rfl
  have hr1 : (w0.setCell ⟨tb, 0, none⟩ (.int .u64 0)).heap[tb + 1]? = some (.cells (tm 0) 34 (0, 0)) := (heap_set_other _ _ _ (by omega)).trans hr0
  have HB1 : Hid _ := hb1
  have HR1 : Hid _ := hr1
  have HS0 : Hid _ := hS0
  clear hb0 hr0 hS0 hb1 hr1
  go_wp2_with fail
  refine (addSec_any _ tb e d he1 he2 hd1 hd2 HB1.out).mono ?_
  rintro r w2 ⟨rfl, rfl⟩
  dsimp only
  have hb2 := tm_set (d := e + d) HB1.out
  have hr2 : ((w0.setCell ⟨tb, 0, none⟩ (.int .u64 0)).setCell ⟨tb, 1, none⟩ (.int .i64 (e + d))).heap[tb + 1]? = some (.cells (tm 0) 34 (0, 0)) := (heap_set_other _ _ _ (by omega)).trans HR1.out
  have hS2 : Same w ((w0.setCell ⟨tb, 0, none⟩ (.int .u64 0)).setCell ⟨tb, 1, none⟩ (.int .i64 (e + d))) := by
    have hS := HS0.out
    have ht := HTB.out
    exact ⟨hS.os, hS.output, by rw [World.size_setCell, World.size_setCell]; exact hS.size, fun j hj => ((heap_set_other _ _ _ (by omega)).trans (heap_set_other _ _ _ (by omega))).trans (hS.block j hj)⟩
  generalize hw3 : (w0.setCell ⟨tb, 0, none⟩ (.int .u64 0)).setCell ⟨tb, 1, none⟩ (.int .i64 (e + d)) = w3 at hb2 hr2 hS2 ⊢
  clear hw3 HB1 HR1 HS0 c0 f0
  have d0 := cell_of_heap hb2 0 (.int .u64 0) rfl
  have HB2 : Hid _ := hb2
  have HR2 : Hid _ := hr2
  have HS2 : Hid _ := hS2
  clear hb2 hr2 hS2
  go_upto_region 16 with fail
  refine wp_region_lit (wpList_load_row rfl 34 (.tmp 2) rfl tb (by rfl) 34 _ _ _ HB2.out (by rfl) (by rfl) (by kernel_rfl) ?_)
  simp only [Act.put, List.setIfInBounds_toArray, List.set_cons_zero, List.set_cons_succ]
  refine wpList_store_row rfl 34 (.tmp 4) (.tmp 65) rfl (tb + 1) (tm (e + d)) (by rfl) (by rfl) 34 (tm 0) HR2.out (by kernel_rfl) rfl (by simp [tm, Value.oneCell']) ?_
  refine wpList_nil ?_
  simp only [Act.put]
  rename_i Kx hKx
  refine hKx _ _ ?_
  clear hKx Kx
  refine wp_ret ?_
  refine bodyPost_ret (results_cell_row (p := 4) (ty := 34) (by rfl) _ _ (tb + 1) 34 _ _ _ (by rfl) (setRow_heap _ _ _ _ _ _ HR2.out) (by rfl) (by rfl) (by kernel_rfl)) rfl ?_
  refine ⟨rfl, HS2.out.os, HS2.out.output, by rw [setRow_size]; exact HS2.out.size, fun j hj => (setRow_other _ _ _ _ (by have := HTB.out; omega)).trans (HS2.out.block j hj)⟩

/-- Two times, boxed. -/
theorem two_boxes (w : World) (e f : Int) : ((w.alloc (.cells (tm e) 34)).alloc (.cells (tm f) 34)).heap[w.heap.size]? = some (.cells (tm e) 34 (0, 0)) ∧ ((w.alloc (.cells (tm e) 34)).alloc (.cells (tm f) 34)).heap[w.heap.size + 1]? = some (.cells (tm f) 34 (0, 0)) ∧ Same w ((w.alloc (.cells (tm e) 34)).alloc (.cells (tm f) 34)) := by
  have hz1 : (w.alloc (.cells (tm e) 34)).heap.size = w.heap.size + 1 := World.size_alloc ..
  refine ⟨(Below.heap_alloc _ _ _ (by rw [hz1]; omega)).trans (heap_alloc_new _ _), ?_, ((Same.refl w).alloc _).alloc _⟩
  have := heap_alloc_new (w.alloc (.cells (tm e) 34)) (.cells (tm f) 34)
  rwa [hz1] at this

set_option maxRecDepth 100000 in
theorem equal_any (w : World) (e : Int) : Calls Yba.prog 34 #[.agg (tm e), .agg (tm e)] w fun r w' => r = .returned (.bool true) ∧ Same w w' := by
  have b1 := bit63
  have b2 := bit0
  obtain ⟨h1, h2, hS⟩ := two_boxes w e e
  have H1 : Hid _ := h1
  have H2 : Hid _ := h2
  have HS : Hid _ := hS
  clear h1 h2 hS
  unfold tm
  go_enter Yba.func34, Yba.ntmps34
  go_wp2_with fail
  refine (sec_any _ _ e H1.out).mono ?_
  rintro r w1 ⟨rfl, rfl⟩
  dsimp only
  go_wp2_with fail
  refine (sec_any _ _ e H2.out).mono ?_
  rintro r w1 ⟨rfl, rfl⟩
  dsimp only
  go_wp2_with fail
  refine (nsec_any _ _ e H1.out).mono ?_
  rintro r w1 ⟨rfl, rfl⟩
  dsimp only
  go_wp2_with fail
  refine (nsec_any _ _ e H2.out).mono ?_
  rintro r w1 ⟨rfl, rfl⟩
  dsimp only
  go_wp2
  go_ret
  exact ⟨rfl, HS.out⟩

/-- What Sub reads. -/
def TS (wA : World) (N : Nat) (e f : Int) (w' : World) : Prop := Same wA w' ∧ w'.cell? ⟨N, 0, none⟩ = some (.int .u64 0) ∧ w'.cell? ⟨N, 1, none⟩ = some (.int .i64 e) ∧ w'.cell? ⟨N, 2, none⟩ = some (.pointer none) ∧ w'.cell? ⟨N + 1, 0, none⟩ = some (.int .u64 0) ∧ w'.cell? ⟨N + 1, 1, none⟩ = some (.int .i64 f) ∧ w'.cell? ⟨N + 1, 2, none⟩ = some (.pointer none)

set_option maxRecDepth 100000 in
set_option maxHeartbeats 1000000 in
theorem sub_any (w : World) (e f : Int) (he1 : 0 ≤ e) (he2 : e ≤ 300000) (hf1 : 0 ≤ f) (hf2 : f ≤ 300000) : Calls Yba.prog 25 #[.agg (tm e), .agg (tm f)] w fun r w' => r = .returned (.int .i64 ((e - f) * 1000000000)) ∧ Same w w' := by
  have b1 := bit63
  have b2 := bit0
  have w1 : IntKind.i64.wrap (e - f) = e - f := by rw [IntKind.wrap_i64]; omega
  have w2 : IntKind.i64.wrap ((e - f) * 1000000000) = (e - f) * 1000000000 := by rw [IntKind.wrap_i64]; omega
  obtain ⟨h1, h2, hS⟩ := two_boxes w e f
  have c0 := cell_of_heap h1 0 (.int .u64 0) rfl
  have c1 := cell_of_heap h1 1 (.int .i64 e) rfl
  have c2 := cell_of_heap h1 2 (.pointer none) rfl
  have d0 := cell_of_heap h2 0 (.int .u64 0) rfl
  have d1 := cell_of_heap h2 1 (.int .i64 f) rfl
  have d2 := cell_of_heap h2 2 (.pointer none) rfl
  have H1 : Hid _ := h1
  have H2 : Hid _ := h2
  have HS : Hid _ := hS
  clear h1 h2 hS
  unfold tm at *
  go_enter Yba.func25, Yba.ntmps25
  go_wp2_with fail
  refine (sec_any _ _ e H1.out).mono ?_
  rintro r w1 ⟨rfl, rfl⟩
  dsimp only
  go_wp2_with fail
  refine (sec_any _ _ f H2.out).mono ?_
  rintro r w1 ⟨rfl, rfl⟩
  dsimp only
  go_wp2_with fail
  refine (nsec_any _ _ e H1.out).mono ?_
  rintro r w1 ⟨rfl, rfl⟩
  dsimp only
  go_wp2_with fail
  refine (nsec_any _ _ f H2.out).mono ?_
  rintro r w1 ⟨rfl, rfl⟩
  dsimp only
  go_wp2_with fail
  clear c0 c1 c2 d0 d1 d2
  generalize hwA : (w.alloc (Obj.cells #[Value.int IntKind.u64 0, Value.int IntKind.i64 e, Value.pointer none] 34)).alloc (Obj.cells #[Value.int IntKind.u64 0, Value.int IntKind.i64 f, Value.pointer none] 34) = wA at H1 H2 HS ⊢
  generalize hsz : w.heap.size = N at H1 H2 ⊢
  clear hwA hsz
  have hTS : ∀ w', Same wA w' → TS wA N e f w' := fun w' hS => by
    have g1 := (hS.block N (lt_of_block H1.out)).trans H1.out
    have g2 := (hS.block (N + 1) (lt_of_block H2.out)).trans H2.out
    exact ⟨hS, cell_of_heap g1 0 _ rfl, cell_of_heap g1 1 _ rfl, cell_of_heap g1 2 _ rfl, cell_of_heap g2 0 _ rfl, cell_of_heap g2 1 _ rfl, cell_of_heap g2 2 _ rfl⟩
  have HTS : Hid _ := hTS
  have hadd : ∀ w', TS wA N e f w' → Calls Yba.prog 6 #[.agg #[.int .u64 0, .int .i64 f, .pointer none], .int .i64 ((e - f) * 1000000000)] w' fun r w'' => r = .returned (.agg #[.int .u64 0, .int .i64 e, .pointer none]) ∧ TS wA N e f w'' := fun w' hw' => by
    refine (add_any w' f (e - f) (by omega) (by omega) (by omega) (by omega)).mono ?_
    rintro r w'' ⟨rfl, hS⟩
    rw [show f + (e - f) = e by omega]
    exact ⟨rfl, hTS _ (hw'.1.trans hS)⟩
  have HADD : Hid _ := hadd
  have hequ : ∀ w', TS wA N e f w' → Calls Yba.prog 34 #[.agg #[.int .u64 0, .int .i64 e, .pointer none], .agg #[.int .u64 0, .int .i64 e, .pointer none]] w' fun r w'' => r = .returned (.bool true) ∧ TS wA N e f w'' := fun w' hw' => by
    refine (equal_any w' e).mono ?_
    rintro r w'' ⟨rfl, hS⟩
    exact ⟨rfl, hTS _ (hw'.1.trans hS)⟩
  have HEQU : Hid _ := hequ
  clear hTS hadd hequ H1 H2
  go_region_held3 (fun w' => Same wA w' ∧ w'.cell? ⟨N, 0, none⟩ = some (.int .u64 0) ∧ w'.cell? ⟨N, 1, none⟩ = some (.int .i64 e) ∧ w'.cell? ⟨N, 2, none⟩ = some (.pointer none) ∧ w'.cell? ⟨N + 1, 0, none⟩ = some (.int .u64 0) ∧ w'.cell? ⟨N + 1, 1, none⟩ = some (.int .i64 f) ∧ w'.cell? ⟨N + 1, 2, none⟩ = some (.pointer none))
    (first | exact HTS.out _ (Same.refl _).drew | assumption)
    (first | (go_at_call 6; refine (HADD.out _ (by assumption)).mono ?_; rintro r w5 ⟨rfl, hS5⟩; unfold TS at hS5) | (go_at_call 34; refine (HEQU.out _ (by assumption)).mono ?_; rintro r w6 ⟨rfl, hS6⟩; unfold TS at hS6))
  go_wp2
  go_ret
  exact ⟨rfl, HS.out.trans hS6.1⟩
end Go.Proofs.Ybulkakzc

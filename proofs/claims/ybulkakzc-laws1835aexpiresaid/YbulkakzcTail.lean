/-
  THE REASSEMBLER of seat b1835a: the end of abandon: the datagram is built and handed back.
-/
import Derived.Test.YbulkakzcMid
import Derived.Deep.RegionHeld3
namespace Go.Proofs.Ybulkakzc
open Go.RowKit
set_option linter.unusedSimpArgs false

theorem wp_of_run {P : Program} {o : Oper} {a : Act} {w w' : World} {K : Act → World → Prop} {Q : Exit → Act → World → Prop} {v : Value} (h : (execOp a.eval o).run P w = .ok (.value v) w') (hk : K (a.put o.dst v) w') : o.wp P a w K Q := by
  unfold Oper.wp
  rw [h]
  exact hk

/-- The last operation of a region that draws. -/
theorem wpAnyH_last {P : Program} {ops : Array Oper} {Q : Exit → Act → World → Prop} {md : Region.Mode} {S : World → Prop} {fuel : Nat} {listed : Array Bool} {a : Act} {w w' : World} {i : Nat} {o : Oper}
    (hr : Region.ready md ops listed = [i]) (ho : ops[i]? = some o) (hw : Region.wanted o (yielded ops a.tmps) = true) (hr' : Region.ready md ops (listed.setIfInBounds i true) = []) (hS : S w')
    (hwp : ∀ Kn : Act → World → Prop, Kn (a.put o.dst undef) w' → o.wp P a w Kn Q) (hq : Q .normal (a.put o.dst undef) w') : wpAnyH P md ops Q S (fuel + 1) listed a w := by
  refine wpAnyH_ready hr (by simp) (AllReadyH.cons ho (fun Kn hK => ?_) AllReadyH.nil)
  rw [if_pos hw]
  exact hwp Kn (hK.out _ _ hS fun _ => wpAnyH_done hr' hq _)

theorem dz_size : dz.size = 35 := rfl
theorem storeRun88 {o : Oper} {a : Act} {w : World} {Kn : Act → World → Prop} {Q : Exit → Act → World → Prop} {k : K} {ver rs : ByteArray} {frag : Int} (x y : Operand) (ho : o.op = .store 88 x y)
    (hx : a.eval x = .pointer (some ⟨w.heap.size, 0, none⟩)) (hy : a.eval y = .agg (dg k ver rs frag)) (h : Kn (a.put o.dst undef) (w.alloc (.cells (dg k ver rs frag) 88))) : o.wp Yba.prog a (w.alloc (.cells dz 88)) Kn Q :=
  wp_store_row 88 x y ho w.heap.size (dg k ver rs frag) hx hy 88 dz (heap_alloc_new _ _) (by rw [info88, dg_size]) (by rw [dg_size, dz_size]) (dg_one ..) (by rw [setRow_new]; exact h)

theorem wpAnyH_lastDg {ops : Array Oper} {Q : Exit → Act → World → Prop} {md : Region.Mode} {S : World → Prop} {fuel : Nat} {listed : Array Bool} {a : Act} {w : World} {i : Nat} {o : Oper} {k : K} {ver rs : ByteArray} {frag : Int} (x y : Operand) (hop : o.op = .store 88 x y)
    (hr : Region.ready md ops listed = [i]) (ho : ops[i]? = some o) (hw : Region.wanted o (yielded ops a.tmps) = true) (hr' : Region.ready md ops (listed.setIfInBounds i true) = [])
    (hx : a.eval x = .pointer (some ⟨w.heap.size, 0, none⟩)) (hy : a.eval y = .agg (dg k ver rs frag)) (hS : S (w.alloc (.cells (dg k ver rs frag) 88)))
    (hq : Q .normal (a.put o.dst undef) (w.alloc (.cells (dg k ver rs frag) 88))) : wpAnyH Yba.prog md ops Q S (fuel + 1) listed a (w.alloc (.cells dz 88)) :=
  wpAnyH_last hr ho hw hr' hS (fun _ h => storeRun88 x y hop hx hy h) hq

/-- What abandon leaves behind: the reassembler, the message, what it leaves alone. -/
structure Fin (w w' : World) (rb pm am : Nat) (tmo mp nw ne held pk : Int) (pl al : List En) (st : List (Nat × Value)) (fl : List Fq) (mb : Nat) (k : K) (fw fe cost frag : Int) (start : Bool) (bs : List Nat) : Prop where
  rs : ∃ C, RS w' rb pm am C tmo mp nw ne held pk pl al st (fgs fl)
  msg : Msg w' mb k fw fe (.pointer none) cost frag start
  far : Far rb pm am bs w w'
  sub : ∀ b ∈ blks (fgs fl), b ∈ bs ∨ w.heap.size ≤ b

theorem Mid.fin {w w7 w9 : World} {rb pm am : Nat} {tmo mp nw ne held pk : Int} {pl al : List En} {st : List (Nat × Value)} {fl : List Fq} {mb : Nat} {k : K} {fw fe cost frag : Int} {start : Bool} {bs : List Nat} {db : Nat} {c : Array Value}
    (h : Mid w w7 rb pm am tmo mp nw ne held pk pl al st fl mb k fw fe cost frag start bs) (hd : w7.heap[db]? = some (.cells c 88 (0, 0))) (hle : w.heap.size ≤ db)
    (ho : w9.os = w7.os) (ht : w9.tape = w7.tape) (hu : w9.output = w7.output) (hz : w9.heap.size = w7.heap.size) (hb : ∀ j, j ≠ db → j ≠ w.heap.size → w9.heap[j]? = w7.heap[j]?) :
    Fin w w9 rb pm am tmo mp nw ne held pk pl al st fl mb k fw fe cost frag start bs := by
  obtain ⟨C, hR⟩ := h.rs
  obtain ⟨d1, d2, d3, d4, d5⟩ := hR.apart (by decide) (by decide) hd
  obtain ⟨r1, r2, r3, r4, r5⟩ := hR.apart (by decide) (by decide) h.res
  obtain ⟨cp, hp⟩ := hR.pmap
  obtain ⟨ca, ha⟩ := hR.amap
  have hmd : mb ≠ db := by
    rintro rfl
    have := h.msg
    unfold Msg at this
    rw [hd] at this
    simp at this
  have hmr : mb ≠ w.heap.size := by
    intro e
    have := h.msg
    unfold Msg at this
    rw [e, h.res] at this
    simp at this
  refine ⟨⟨C, hR.row.of_block (hb rb (Ne.symm d1) (Ne.symm r1)), hR.rc, ⟨cp, (hb pm (Ne.symm d2) (Ne.symm r2)).trans hp⟩, ⟨ca, (hb am (Ne.symm d3) (Ne.symm r3)).trans ha⟩, ?_, ?_, hR.dj, hR.mm⟩, (hb mb hmd hmr).trans h.msg, ?_, h.sub⟩
  · exact hR.qs.congr (fun b hm => hb b (fun e => d4 (e ▸ hm)) (fun e => r4 (e ▸ hm))) rfl rfl rfl
  · exact hR.qf.congr (fun b hm => hb b (fun e => d5 (e ▸ hm)) (fun e => r5 (e ▸ hm))) rfl rfl rfl
  · exact ⟨ho.trans h.far.os, ht.trans h.far.tape, hu.trans h.far.output, by rw [hz]; exact h.far.size, fun j hj h1 h2 h3 h4 => (hb j (by omega) (by omega)).trans (h.far.block j hj h1 h2 h3 h4)⟩

set_option maxRecDepth 100000 in
theorem ld88 {ops : Array Oper} {rest : List Oper} {o : Oper} {a : Act} {w : World} {Q : Exit → Act → World → Prop} {k : K} {ver rs : ByteArray} {frag : Int} (hgd : o.guard = none) (x : Operand) (ho : o.op = .load 88 x)
    (g : Nat) (hx : a.eval x = .pointer (some ⟨g, 0, none⟩)) (hg : w.heap[g]? = some (.cells (dg k ver rs frag) 88 (0, 0)))
    (h : wpList Yba.prog ops Q rest (a.put o.dst (.agg (dg k ver rs frag))) w) : wpList Yba.prog ops Q (o :: rest) a w :=
  wpList_load_row hgd 88 x ho g hx 88 _ _ _ hg (by rfl) (by rfl) (by rw [info88, dg_size]) h
set_option maxRecDepth 100000 in
theorem res88 {tmps : Array Value} {w : World} {g : Nat} {k : K} {ver rs : ByteArray} {frag : Int} (hp : tmps.getD 6 undef = .pointer (some ⟨g, 0, none⟩)) (hg : w.heap[g]? = some (.cells (dg k ver rs frag) 88 (0, 0))) :
    (results Yba.f15 tmps).run Yba.prog w = .ok (.agg (dg k ver rs frag)) w :=
  results_cell_row (p := 6) (ty := 88) (by rfl) tmps w g 88 _ _ _ hp hg (by rfl) (by rfl) (by rw [info88, dg_size])
theorem dg_ver (k : K) (v v' rs : ByteArray) (frag : Int) : (dg k v rs frag).setIfInBounds 13 (.string v') = dg k v' rs frag := by simp [dg]

set_option maxRecDepth 100000 in
set_option maxHeartbeats 2000000 in
theorem abandon_tail (w wc : World) (rb pm am : Nat) (tmo mp nw ne held pk : Int) (pl al : List En) (st : List (Nat × Value)) (fl : List Fq) (mb : Nat) (k : K) (fw fe cost frag : Int) (start : Bool) (rs : ByteArray) (bs : List Nat) (R : Ending → World → Prop) (u8 u9 u10 u11 u12 u13 u14 u15 u16 u17 u18 u19 u20 u21 u22 u23 u24 u25 u26 u27 u28 u29 u30 u31 u32 u33 u34 u35 u36 u37 u38 u39 u40 u41 u42 u43 u44 u45 u46 u47 u48 u49 u50 u51 u52 u53 u54 u55 u56 u57 u58 u59 u60 u61 u62 u63 u64 u65 u66 u67 u68 u69 u70 u71 u72 u73 u74 u75 u76 u77 u78 u79 u80 u81 u82 u83 u84 u85 u86 u87 u88 u89 u90 : Value)
    (hcut : Mid w wc rb pm am tmo mp nw ne held pk pl al st fl mb k fw fe cost frag start bs)
    (hRf : ∀ w9, Fin w w9 rb pm am tmo mp nw ne held pk pl al st fl mb k fw fe cost frag start bs → R (.returned (.agg (dg k (ver start) rs frag))) w9) :
    Code.wp Yba.prog (tl 5 (Yba.f15.body.getD .skip)) (bodyPost Yba.prog Yba.f15 R) ⟨#[P2 rb 0, P2 mb 0, .string rs, undef, undef, undef, .pointer (some ⟨w.heap.size, 0, none⟩), undef, u8, u9, u10, u11, u12, u13, u14, u15, u16, u17, u18, u19, u20, u21, u22, u23, u24, u25, u26, u27, u28, u29, u30, u31, u32, u33, u34, u35, u36, u37, u38, u39, u40, u41, u42, u43, u44, u45, u46, u47, u48, u49, u50, u51, u52, u53, u54, u55, u56, u57, u58, u59, u60, u61, u62, u63, u64, u65, u66, u67, u68, u69, u70, u71, u72, u73, u74, u75, u76, u77, u78, u79, u80, u81, u82, u83, u84, u85, u86, u87, u88, u89, u90], []⟩ wc := by
  have hm7 := hcut.msg
  unfold Msg at hm7
  have n21 : wc.cell? ⟨mb, 21, none⟩ = some (.bool start) := by simp [World.cell?, hm7, msg]
  have hmlt := lt_of_block hm7
  have hrlt := lt_of_block hcut.res
  have hm0 : wc.drew.heap[mb]? = some (.cells (msg k fw fe (.pointer none) cost frag start) 71 (0, 0)) := hm7
  clear hm7
  dsimp only
  conv => arg 2; whnf
  go_wp2_with fail
  refine wp_region_held_drew (S := fun w' => w'.cell? ⟨mb, 0, none⟩ = some (.int .u64 0) ∧ w'.cell? ⟨mb, 1, none⟩ = some (.int .u64 0) ∧ w'.cell? ⟨mb, 2, none⟩ = some (.pointer none) ∧ w'.cell? ⟨mb, 3, none⟩ = some (.int .u16 k.s) ∧ w'.cell? ⟨mb, 4, none⟩ = some (.int .u64 0) ∧ w'.cell? ⟨mb, 5, none⟩ = some (.int .u64 0) ∧ w'.cell? ⟨mb, 6, none⟩ = some (.pointer none) ∧ w'.cell? ⟨mb, 7, none⟩ = some (.int .u16 k.d) ∧ w'.cell? ⟨mb, 8, none⟩ = some (.int .u32 k.i) ∧ w'.cell? ⟨mb, 20, none⟩ = some (.int .i64 frag) ∧ w'.heap[mb]? = some (.cells (msg k fw fe (.pointer none) cost frag start) 71 (0, 0))) (by kernel_rfl) (see2 hm0) (fun hHeld => ?_)
  refine wpAnyH_take (i := 0) (oi := ⟨some 64, .move (.tmp 1), 66, _, #[], none⟩) (v := P2 mb 0) rfl (by kernel_rfl) (by kernel_rfl) (by kernel_rfl) (fun _ _ _ h => h) (Or.inl ⟨by rfl, ?_⟩) hHeld ?_
  · (intro w hSw; (try dsimp only at hSw); go_simp)
  simp only [Act.put, List.setIfInBounds_toArray, List.set_cons_zero, List.set_cons_succ]
  refine wpAnyH_take (i := 1) (oi := ⟨some 65, .nilCheck (.tmp 64), 0, _, #[⟨0, .data⟩], none⟩) (v := P2 mb 0) rfl (by kernel_rfl) (by kernel_rfl) (by kernel_rfl) (fun _ _ _ h => h) (Or.inl ⟨by rfl, ?_⟩) hHeld ?_
  · (intro w hSw; (try dsimp only at hSw); go_simp)
  simp only [Act.put, List.setIfInBounds_toArray, List.set_cons_zero, List.set_cons_succ]
  refine wpAnyH_take (i := 2) (oi := ⟨some 66, .fieldAddr 71 (.tmp 65) 0, 0, _, #[⟨1, .data⟩], none⟩) (v := P2 mb 0) rfl (by kernel_rfl) (by kernel_rfl) (by kernel_rfl) (fun _ _ _ h => h) (Or.inl ⟨by rfl, ?_⟩) hHeld ?_
  · (intro w hSw; (try dsimp only at hSw); go_simp)
  simp only [Act.put, List.setIfInBounds_toArray, List.set_cons_zero, List.set_cons_succ]
  refine wpAnyH_take (i := 3) (oi := ⟨some 67, .fieldAddr 60 (.tmp 66) 0, 0, _, #[⟨2, .data⟩], none⟩) (v := P2 mb 0) rfl (by kernel_rfl) (by kernel_rfl) (by kernel_rfl) (fun _ _ _ h => h) (Or.inl ⟨by rfl, ?_⟩) hHeld ?_
  · (intro w hSw; (try dsimp only at hSw); go_simp)
  simp only [Act.put, List.setIfInBounds_toArray, List.set_cons_zero, List.set_cons_succ]
  refine wpAnyH_take (i := 4) (oi := ⟨some 68, .load 58 (.tmp 67), 58, _, #[⟨3, .data⟩], none⟩) (v := .agg #[.int .u64 0, .int .u64 0, .pointer none, .int .u16 k.s]) rfl (by kernel_rfl) (by kernel_rfl) (by kernel_rfl) (fun _ _ _ h => h) (Or.inl ⟨by rfl, ?_⟩) hHeld ?_
  · (intro w hSw; (try dsimp only at hSw); go_simp)
  simp only [Act.put, List.setIfInBounds_toArray, List.set_cons_zero, List.set_cons_succ]
  refine wpAnyH_take (i := 5) (oi := ⟨some 69, .move (.tmp 1), 66, _, #[], none⟩) (v := P2 mb 0) rfl (by kernel_rfl) (by kernel_rfl) (by kernel_rfl) (fun _ _ _ h => h) (Or.inl ⟨by rfl, ?_⟩) hHeld ?_
  · (intro w hSw; (try dsimp only at hSw); go_simp)
  simp only [Act.put, List.setIfInBounds_toArray, List.set_cons_zero, List.set_cons_succ]
  refine wpAnyH_take (i := 6) (oi := ⟨some 70, .nilCheck (.tmp 69), 0, _, #[⟨5, .data⟩], none⟩) (v := P2 mb 0) rfl (by kernel_rfl) (by kernel_rfl) (by kernel_rfl) (fun _ _ _ h => h) (Or.inl ⟨by rfl, ?_⟩) hHeld ?_
  · (intro w hSw; (try dsimp only at hSw); go_simp)
  simp only [Act.put, List.setIfInBounds_toArray, List.set_cons_zero, List.set_cons_succ]
  refine wpAnyH_take (i := 7) (oi := ⟨some 71, .fieldAddr 71 (.tmp 70) 0, 0, _, #[⟨6, .data⟩], none⟩) (v := P2 mb 0) rfl (by kernel_rfl) (by kernel_rfl) (by kernel_rfl) (fun _ _ _ h => h) (Or.inl ⟨by rfl, ?_⟩) hHeld ?_
  · (intro w hSw; (try dsimp only at hSw); go_simp)
  simp only [Act.put, List.setIfInBounds_toArray, List.set_cons_zero, List.set_cons_succ]
  refine wpAnyH_take (i := 8) (oi := ⟨some 72, .fieldAddr 60 (.tmp 71) 1, 0, _, #[⟨7, .data⟩], none⟩) (v := P2 mb 4) rfl (by kernel_rfl) (by kernel_rfl) (by kernel_rfl) (fun _ _ _ h => h) (Or.inl ⟨by rfl, ?_⟩) hHeld ?_
  · (intro w hSw; (try dsimp only at hSw); go_simp)
  simp only [Act.put, List.setIfInBounds_toArray, List.set_cons_zero, List.set_cons_succ]
  refine wpAnyH_take (i := 9) (oi := ⟨some 73, .load 58 (.tmp 72), 58, _, #[⟨8, .data⟩], none⟩) (v := .agg #[.int .u64 0, .int .u64 0, .pointer none, .int .u16 k.d]) rfl (by kernel_rfl) (by kernel_rfl) (by kernel_rfl) (fun _ _ _ h => h) (Or.inl ⟨by rfl, ?_⟩) hHeld ?_
  · (intro w hSw; (try dsimp only at hSw); go_simp)
  simp only [Act.put, List.setIfInBounds_toArray, List.set_cons_zero, List.set_cons_succ]
  refine wpAnyH_take (i := 10) (oi := ⟨some 74, .move (.tmp 2), 75, _, #[], none⟩) (v := .string rs) rfl (by kernel_rfl) (by kernel_rfl) (by kernel_rfl) (fun _ _ _ h => h) (Or.inl ⟨by rfl, ?_⟩) hHeld ?_
  · (intro w hSw; (try dsimp only at hSw); go_simp)
  simp only [Act.put, List.setIfInBounds_toArray, List.set_cons_zero, List.set_cons_succ]
  refine wpAnyH_take (i := 11) (oi := ⟨some 75, .move (.tmp 1), 66, _, #[], none⟩) (v := P2 mb 0) rfl (by kernel_rfl) (by kernel_rfl) (by kernel_rfl) (fun _ _ _ h => h) (Or.inl ⟨by rfl, ?_⟩) hHeld ?_
  · (intro w hSw; (try dsimp only at hSw); go_simp)
  simp only [Act.put, List.setIfInBounds_toArray, List.set_cons_zero, List.set_cons_succ]
  refine wpAnyH_take (i := 12) (oi := ⟨some 76, .nilCheck (.tmp 75), 0, _, #[⟨11, .data⟩], none⟩) (v := P2 mb 0) rfl (by kernel_rfl) (by kernel_rfl) (by kernel_rfl) (fun _ _ _ h => h) (Or.inl ⟨by rfl, ?_⟩) hHeld ?_
  · (intro w hSw; (try dsimp only at hSw); go_simp)
  simp only [Act.put, List.setIfInBounds_toArray, List.set_cons_zero, List.set_cons_succ]
  refine wpAnyH_take (i := 13) (oi := ⟨some 77, .fieldAddr 71 (.tmp 76) 8, 0, _, #[⟨12, .data⟩], none⟩) (v := P2 mb 20) rfl (by kernel_rfl) (by kernel_rfl) (by kernel_rfl) (fun _ _ _ h => h) (Or.inl ⟨by rfl, ?_⟩) hHeld ?_
  · (intro w hSw; (try dsimp only at hSw); go_simp)
  simp only [Act.put, List.setIfInBounds_toArray, List.set_cons_zero, List.set_cons_succ]
  refine wpAnyH_take (i := 14) (oi := ⟨some 78, .load 3 (.tmp 77), 3, _, #[⟨13, .data⟩], none⟩) (v := .int .i64 frag) rfl (by kernel_rfl) (by kernel_rfl) (by kernel_rfl) (fun _ _ _ h => h) (Or.inl ⟨by rfl, ?_⟩) hHeld ?_
  · (intro w hSw; (try dsimp only at hSw); go_simp)
  simp only [Act.put, List.setIfInBounds_toArray, List.set_cons_zero, List.set_cons_succ]
  refine wpAnyH_take (i := 15) (oi := ⟨some 79, .move (.tmp 1), 66, _, #[], none⟩) (v := P2 mb 0) rfl (by kernel_rfl) (by kernel_rfl) (by kernel_rfl) (fun _ _ _ h => h) (Or.inl ⟨by rfl, ?_⟩) hHeld ?_
  · (intro w hSw; (try dsimp only at hSw); go_simp)
  simp only [Act.put, List.setIfInBounds_toArray, List.set_cons_zero, List.set_cons_succ]
  refine wpAnyH_take (i := 16) (oi := ⟨some 80, .nilCheck (.tmp 79), 0, _, #[⟨15, .data⟩], none⟩) (v := P2 mb 0) rfl (by kernel_rfl) (by kernel_rfl) (by kernel_rfl) (fun _ _ _ h => h) (Or.inl ⟨by rfl, ?_⟩) hHeld ?_
  · (intro w hSw; (try dsimp only at hSw); go_simp)
  simp only [Act.put, List.setIfInBounds_toArray, List.set_cons_zero, List.set_cons_succ]
  refine wpAnyH_take (i := 17) (oi := ⟨some 81, .fieldAddr 71 (.tmp 80) 0, 0, _, #[⟨16, .data⟩], none⟩) (v := P2 mb 0) rfl (by kernel_rfl) (by kernel_rfl) (by kernel_rfl) (fun _ _ _ h => h) (Or.inl ⟨by rfl, ?_⟩) hHeld ?_
  · (intro w hSw; (try dsimp only at hSw); go_simp)
  simp only [Act.put, List.setIfInBounds_toArray, List.set_cons_zero, List.set_cons_succ]
  refine wpAnyH_take (i := 18) (oi := ⟨some 82, .fieldAddr 60 (.tmp 81) 2, 0, _, #[⟨17, .data⟩], none⟩) (v := P2 mb 8) rfl (by kernel_rfl) (by kernel_rfl) (by kernel_rfl) (fun _ _ _ h => h) (Or.inl ⟨by rfl, ?_⟩) hHeld ?_
  · (intro w hSw; (try dsimp only at hSw); go_simp)
  simp only [Act.put, List.setIfInBounds_toArray, List.set_cons_zero, List.set_cons_succ]
  refine wpAnyH_take (i := 19) (oi := ⟨some 83, .load 49 (.tmp 82), 49, _, #[⟨18, .data⟩], none⟩) (v := .int .u32 k.i) rfl (by kernel_rfl) (by kernel_rfl) (by kernel_rfl) (fun _ _ _ h => h) (Or.inl ⟨by rfl, ?_⟩) hHeld ?_
  · (intro w hSw; (try dsimp only at hSw); go_simp)
  simp only [Act.put, List.setIfInBounds_toArray, List.set_cons_zero, List.set_cons_succ]
  refine wpAnyH_take (i := 20) (oi := ⟨some 84, .build 88 #[(0, .tmp 68), (1, .tmp 73), (7, .const (.string ⟨#[100, 114, 111, 112]⟩)), (8, .tmp 74), (11, .tmp 78), (12, .tmp 83)], 88, _, #[⟨4, .data⟩, ⟨9, .data⟩, ⟨10, .data⟩, ⟨14, .data⟩, ⟨19, .data⟩], none⟩) (v := .agg (dg k vDrop rs frag)) rfl (by kernel_rfl) (by kernel_rfl) (by kernel_rfl) (fun _ _ _ h => h) (Or.inl ⟨by rfl, fun w _ => by kernel_rfl⟩) hHeld ?_
  simp only [Act.put, List.setIfInBounds_toArray, List.set_cons_zero, List.set_cons_succ]
  refine wpAnyH_ready (rs := [21]) (by kernel_rfl) (by simp) ?_
  refine AllReadyH.cons (i := 21) (rs := []) (o := ⟨some 7, .alloc 88, 0, _, #[], none⟩) rfl (fun K hK => ?_) AllReadyH.nil
  rw [if_pos (by rfl)]
  refine wp_of_run (v := .pointer (some ⟨wc.drew.heap.size, 0, none⟩)) (w' := wc.drew.alloc (.cells dz 88)) (by kernel_rfl) ?_
  refine hK.out _ _ (see2_alloc hHeld) (fun hHeld2 => ?_)
  clear hK K
  simp only [Act.put, List.setIfInBounds_toArray, List.set_cons_zero, List.set_cons_succ]
  refine wpAnyH_lastDg (w := wc.drew) (k := k) (ver := vDrop) (rs := rs) (frag := frag) (i := 22) (o := ⟨none, .store 88 (.tmp 7) (.tmp 84), 0, _, #[⟨21, .data⟩, ⟨20, .data⟩, ⟨0, .phase⟩, ⟨1, .phase⟩, ⟨2, .phase⟩, ⟨3, .phase⟩, ⟨4, .phase⟩, ⟨5, .phase⟩, ⟨6, .phase⟩, ⟨7, .phase⟩, ⟨8, .phase⟩, ⟨9, .phase⟩, ⟨10, .phase⟩, ⟨11, .phase⟩, ⟨12, .phase⟩, ⟨13, .phase⟩, ⟨14, .phase⟩, ⟨15, .phase⟩, ⟨16, .phase⟩, ⟨17, .phase⟩, ⟨18, .phase⟩, ⟨19, .phase⟩, ⟨20, .phase⟩, ⟨21, .phase⟩], none⟩) (.tmp 7) (.tmp 84) (by rfl) (by kernel_rfl) rfl (by kernel_rfl) (by kernel_rfl) (by kernel_rfl) (by kernel_rfl) (see2_alloc hHeld) ?_
  simp only [Act.put]
  have hc7 := hcut.drew.alloc (.cells (dg k vDrop rs frag) 88)
  have hdb := heap_alloc_new wc.drew (.cells (dg k vDrop rs frag) 88)
  have hle : w.heap.size < wc.drew.heap.size := hrlt
  clear hHeld2 hHeld hm0 n21 hmlt hrlt hcut
  generalize wc.drew.alloc (.cells (dg k vDrop rs frag) 88) = w7 at hc7 hdb ⊢
  generalize wc.drew.heap.size = db at hdb hle ⊢
  have hm7 := hc7.msg
  unfold Msg at hm7
  have n21 : w7.cell? ⟨mb, 21, none⟩ = some (.bool start) := by simp [World.cell?, hm7, msg]
  have hres := hc7.res
  rename_i Kx hKx
  refine hKx _ _ ?_
  clear hKx Kx hm7
  have c13 : w7.cell? ⟨db, 13, none⟩ = some (.string vDrop) := by simp [World.cell?, hdb, dg]
  have f13 : w7.frozen? ⟨db, 13, none⟩ = false := by simp [World.frozen?, hdb]
  cases start
  · go_upto_region 9 with fail
    refine wp_region_lit (ld88 rfl (.tmp 7) rfl db (by rfl) hdb ?_)
    simp only [Act.put, List.setIfInBounds_toArray, List.set_cons_zero, List.set_cons_succ]
    refine wpList_store_row rfl 88 (.tmp 6) (.tmp 90) rfl w.heap.size (dg k vDrop rs frag) (by rfl) (by rfl) 88 dz hres (by rw [info88, dg_size]) (by rw [dz_size, dg_size]) (dg_one ..) ?_
    refine wpList_nil ?_
    simp only [Act.put]
    rename_i Kx hKx
    refine hKx _ _ ?_
    clear hKx Kx
    refine wp_ret ?_
    refine bodyPost_ret (res88 (by rfl) (setRow_heap _ _ _ _ _ _ hres)) rfl ?_
    exact hRf _ (hc7.fin hdb (Nat.le_of_lt hle) rfl rfl rfl (setRow_size ..) fun j _ h2 => setRow_other _ _ _ _ h2)
  · go_upto_region 9 with fail
    rw [setCell_eq_setRow w7 db 13 _ _ _ _ hdb, dg_ver]
    have hdb8 := setRow_heap w7 db _ (dg k vDeliver rs frag) _ _ hdb
    have hres8 : (w7.setRow db (dg k vDeliver rs frag)).heap[w.heap.size]? = some (.cells dz 88 (0, 0)) := (setRow_other _ _ _ _ (by omega)).trans hres
    refine wp_region_lit (ld88 (k := k) (ver := vDeliver) (rs := rs) (frag := frag) rfl (.tmp 7) rfl db (by rfl) hdb8 ?_)
    simp only [Act.put, List.setIfInBounds_toArray, List.set_cons_zero, List.set_cons_succ]
    refine wpList_store_row rfl 88 (.tmp 6) (.tmp 90) rfl w.heap.size (dg k vDeliver rs frag) (by rfl) (by rfl) 88 dz hres8 (by rw [info88, dg_size]) (by rw [dz_size, dg_size]) (dg_one ..) ?_
    refine wpList_nil ?_
    simp only [Act.put]
    rename_i Kx hKx
    refine hKx _ _ ?_
    clear hKx Kx
    refine wp_ret ?_
    refine bodyPost_ret (res88 (by rfl) (setRow_heap _ _ _ _ _ _ hres8)) rfl ?_
    refine hRf _ (hc7.fin hdb (Nat.le_of_lt hle) rfl rfl rfl ?_ ?_)
    · exact (setRow_size ..).trans (setRow_size ..)
    · exact fun j h1 h2 => (setRow_other _ _ _ _ h2).trans (setRow_other _ _ _ _ h1)
end Go.Proofs.Ybulkakzc

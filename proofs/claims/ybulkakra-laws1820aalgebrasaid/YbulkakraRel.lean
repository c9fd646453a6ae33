/-
  THE LIST OF RELATIONS of seat b1820a (made out of YbulkakraList by program).
-/
import Derived.Test.YbulkakraList
namespace Go.Proofs.Ybulkakra
open Go.RowKit
set_option linter.unusedSimpArgs false
set_option linter.unusedVariables false

set_option maxRecDepth 100000 in
set_option maxHeartbeats 400000 in
theorem rel_more (w : World) (d o ob cb n c0 : Nat) (x y z u : Int)
    (h0 : w.cell? ⟨d, o, none⟩ = some (.slice (some ⟨ob, 0, none⟩) 1 c0)) (h1 : w.cell? ⟨d, o + 1, none⟩ = some (.int .i64 (n : Int))) (f1 : w.frozen? ⟨d, o + 1, none⟩ = false)
    (h2 : w.cell? ⟨ob, 0, none⟩ = some (.slice (some ⟨cb, 0, none⟩) n 65536)) (f2 : w.frozen? ⟨ob, 0, none⟩ = false) (hn : n < 65536)
    (hs : ∀ j, j < 4 → (w.cell? ⟨cb, n * 4 + j, none⟩).isSome = true ∧ w.frozen? ⟨cb, n * 4 + j, none⟩ = false) (n1 : d ≠ ob) (n2 : cb ≠ d) (n3 : cb ≠ ob) :
    Calls Yba.prog 14 #[.pointer (some ⟨d, o, none⟩), .agg #[.int .u32 x, .int .u32 y, .int .u32 z, .int .u32 u]] w fun e w' => e = .returned (.tuple #[]) ∧ ∃ N, w' = (((((w.alloc (.cells #[.int .u32 x, .int .u32 y, .int .u32 z, .int .u32 u] 72)).drewN N).alloc (.cells #[.int .u32 x, .int .u32 y, .int .u32 z, .int .u32 u] 72)).setCells cb (n * 4) [.int .u32 x, .int .u32 y, .int .u32 z, .int .u32 u]).setCell ⟨ob, 0, none⟩ (.slice (some ⟨cb, 0, none⟩) (n + 1) 65536)).setCell ⟨d, o + 1, none⟩ (.int .i64 ((n : Int) + 1)) := by
  have e1 : decide ((n : Int) = 65536) = false := by simp; omega
  have e2 : ((n : Int) == 65536) = false := by simp; omega
  have k0 := cellA h0 (.cells #[.int .u32 x, .int .u32 y, .int .u32 z, .int .u32 u] 72)
  have k1 := cellA h1 (.cells #[.int .u32 x, .int .u32 y, .int .u32 z, .int .u32 u] 72)
  have k2 := cellA h2 (.cells #[.int .u32 x, .int .u32 y, .int .u32 z, .int .u32 u] 72)
  have g1 := frozA (World.block_lt_of_cell? _ _ h1) f1 (.cells #[.int .u32 x, .int .u32 y, .int .u32 z, .int .u32 u] 72)
  have g2 := frozA (World.block_lt_of_cell? _ _ h2) f2 (.cells #[.int .u32 x, .int .u32 y, .int .u32 z, .int .u32 u] 72)
  have hs' : ∀ j, j < 4 → ((w.alloc (.cells #[.int .u32 x, .int .u32 y, .int .u32 z, .int .u32 u] 72)).cell? ⟨cb, n * 4 + j, none⟩).isSome = true ∧ (w.alloc (.cells #[.int .u32 x, .int .u32 y, .int .u32 z, .int .u32 u] 72)).frozen? ⟨cb, n * 4 + j, none⟩ = false := fun j hj => by
    obtain ⟨v, hv⟩ := Option.isSome_iff_exists.1 (hs j hj).1
    exact ⟨by rw [cellA hv]; rfl, frozA (World.block_lt_of_cell? _ _ hv) (hs j hj).2 _⟩
  have kb := Row.new w #[.int .u32 x, .int .u32 y, .int .u32 z, .int .u32 u] 72 4 (fun i => (#[Value.int .u32 x, .int .u32 y, .int .u32 z, .int .u32 u][i]?).getD (.bool true)) (fun i hi => by
    rcases i with _ | _ | _ | _ | i <;> first | rfl | omega)
  have b0 := (kb 0 (by omega)).1
  have b1 := (kb 1 (by omega)).1
  have b2 := (kb 2 (by omega)).1
  have b3 := (kb 3 (by omega)).1
  clear kb
  dsimp only at b0 b1 b2 b3
  go_enter Yba.func14, Yba.ntmps14
  go_upto_region 1 with fail
  generalize hw1 : w.alloc (.cells #[.int .u32 x, .int .u32 y, .int .u32 z, .int .u32 u] 72) = w1 at *
  have HW : Hid _ := hw1
  clear hw1
  go_upto_region 4 with fail
  have q0 : ∀ N, (w1.drewN N).cell? ⟨d, o, none⟩ = some (.slice (some ⟨ob, 0, none⟩) 1 c0) := fun N => k0
  have q5 : ∀ N O, ((w1.drewN N).alloc O).cell? ⟨ob, 0, none⟩ = some (.slice (some ⟨cb, 0, none⟩) n 65536) := fun N O => cellA (w := w1.drewN N) k2 O
  have q1 : ∀ N O vs, (((w1.drewN N).alloc O).setCells cb (n * 4) vs).cell? ⟨ob, 0, none⟩ = some (.slice (some ⟨cb, 0, none⟩) n 65536) := fun N O vs => cellS (cellA (w := w1.drewN N) k2 O) (Ne.symm n3) _ _
  have q2 : ∀ N O vs, (((w1.drewN N).alloc O).setCells cb (n * 4) vs).frozen? ⟨ob, 0, none⟩ = false := fun N O vs => (frozen_setCells _ _ _ _ _).trans (frozA (w := w1.drewN N) (World.block_lt_of_cell? _ _ k2) g2 O)
  have q3 : ∀ N O vs, (((w1.drewN N).alloc O).setCells cb (n * 4) vs).cell? ⟨d, o + 1, none⟩ = some (.int .i64 (n : Int)) := fun N O vs => cellS (cellA (w := w1.drewN N) k1 O) (Ne.symm n2) _ _
  have q4 : ∀ N O vs, (((w1.drewN N).alloc O).setCells cb (n * 4) vs).frozen? ⟨d, o + 1, none⟩ = false := fun N O vs => (frozen_setCells _ _ _ _ _).trans (frozA (w := w1.drewN N) (World.block_lt_of_cell? _ _ k1) g1 O)
  have hw : IntKind.i64.wrap ((n : Int) + 1) = ((n + 1 : Nat) : Int) := by rw [IntKind.wrap_i64]; omega
  have n1' := n1.symm
  go_quiet (fail)
  go_upto_region 5 with fail
  go_region_law (refine step_room (by rfl) (.tmp 49) (.tmp 51) 89 72 4 elem89 (by rfl) _ _ cb n 65536 1 (by simp [Act.eval, Act.put]) (by simp [Act.eval, Act.put]) (by rfl) (by simp [Value.oneCell']) (by omega) (by intro j hj; exact hs' j hj) ?_)
  all_goals (go_wp2; go_end0; refine ⟨rfl, nq + 1, ?_⟩; rw [HW.out])
theorem rel_first_rel {w w1 wA : World} {d o nd gb cap' rO rC : Nat} {C f0 f' F3 : Nat → Value} {tg tg0 tg' : Nat → Nat} {cs : Array Value} {T : TypeId} (H1 : Row w1 d nd C) (H2 : Fr (· = tg d) tg w (tagAt tg w.heap.size 0) w1) (H3 : Row w1 w.heap.size 4 F3) (H5 : ∀ i, i < 65536 * 4 → cs[i]? = some (f0 i)) (H6 : w1.heap.size = w.heap.size + 1) (H7 : ∀ j, j < ((w1.alloc (.cells cs 72)).alloc (.cells #[.slice (some ⟨w1.heap.size, 0, none⟩) 0 65536] T)).heap.size → wA.heap[j]? = ((w1.alloc (.cells cs 72)).alloc (.cells #[.slice (some ⟨w1.heap.size, 0, none⟩) 0 65536] T)).heap[j]?) (H8 : ((w1.alloc (.cells cs 72)).alloc (.cells #[.slice (some ⟨w1.heap.size, 0, none⟩) 0 65536] T)).heap.size ≤ gb)
    (HT : tg0 = tagAt (tagAt (tagAt tg w.heap.size 0) (w1.heap.size) rC) (w1.heap.size + 1) 0) (HA : Sl tg' wA rO 1 (.slice (some ⟨gb, 0, none⟩) (0 + 1) cap') (0 + 1) cap' f')
    (HO : ∀ j u, [(Value.slice (some ⟨w1.heap.size, 0, none⟩) 0 65536)][j]? = some u → f' (0 * 1 + j) = u) (HF : Fr (· = rO) tg0 ((w1.alloc (.cells cs 72)).alloc (.cells #[.slice (some ⟨w1.heap.size, 0, none⟩) 0 65536] T)) tg' wA) (HR : Row wA gb (cap' * 1) f') (hgl : gb < wA.heap.size) (hgt : tg' gb = rO)
    (hdl : d < w.heap.size) (hcs : cs.size = 65536 * 4) (hrO : rO ≠ tg d) (hrC : rC ≠ tg d) (hrr : rO ≠ rC) (ho : o + 1 < nd) :
    Row (wA.setCell ⟨d, o, none⟩ (.slice (some ⟨gb, 0, none⟩) 1 cap')) d nd (up1 C o (.slice (some ⟨gb, 0, none⟩) 1 cap')) ∧ Row (wA.setCell ⟨d, o, none⟩ (.slice (some ⟨gb, 0, none⟩) 1 cap')) gb cap' f' ∧ 1 ≤ cap' ∧ f' 0 = .slice (some ⟨w1.heap.size, 0, none⟩) 0 65536 ∧ Row (wA.setCell ⟨d, o, none⟩ (.slice (some ⟨gb, 0, none⟩) 1 cap')) w1.heap.size (65536 * 4) f0 ∧ tg' gb = rO ∧ tg' w1.heap.size = rC ∧ Fr (· = tg d) tg w tg' (wA.setCell ⟨d, o, none⟩ (.slice (some ⟨gb, 0, none⟩) 1 cap')) ∧ w.heap.size < gb ∧ w.heap.size < w1.heap.size ∧ Row (wA.setCell ⟨d, o, none⟩ (.slice (some ⟨gb, 0, none⟩) 1 cap')) w.heap.size 4 F3 := by
  have s1 := World.size_alloc w1 (.cells cs 72)
  have s2 := World.size_alloc (w1.alloc (.cells cs 72)) (.cells #[.slice (some ⟨w1.heap.size, 0, none⟩) 0 65536] T)
  have t1 : ∀ b, b < w.heap.size → tg0 b = tg b := fun b hb => by rw [HT, tagAt_other _ (by omega), tagAt_other _ (by omega), tagAt_other _ (by omega)]
  have t2 : tg0 w.heap.size = 0 := by rw [HT, tagAt_other _ (by omega), tagAt_other _ (by omega), tagAt_same]
  have t3 : tg0 w1.heap.size = rC := by rw [HT, tagAt_other _ (by omega), tagAt_same]
  have t4 : tg0 (w1.heap.size + 1) = 0 := by rw [HT, tagAt_same]
  have hbig : w.heap.size < gb := by omega
  have e1 : d ≠ gb := by omega
  have B : ∀ b, b < w1.heap.size → wA.heap[b]? = w1.heap[b]? := fun b hb => by
    rw [H7 b (by omega), Below.heap_alloc _ _ _ (by omega), Below.heap_alloc _ _ _ hb]
  refine ⟨?_, ?_, by have := HA.le; omega, ?_, ?_, hgt, ?_, ?_, hbig, by omega, ?_⟩
  · exact (H1.of_block (B d (by omega))).set o _
  · rw [Nat.mul_one] at HR
    exact HR.setOther (a := ⟨d, o, none⟩) (Ne.symm e1) _
  · exact HO 0 _ rfl
  · refine Row.setOther (a := ⟨d, o, none⟩) ?_ (by show w1.heap.size ≠ d; omega) _
    have hr := Row.new w1 cs 72 (65536 * 4) f0 H5
    refine hr.of_block ?_
    rw [H7 _ (by omega), Below.heap_alloc _ _ _ (by omega)]
  · rw [HF.tag _ (by omega), t3]
  · have hq : Fr (· = tg d) tg w tg' wA := ?_
    · exact hq.set (a := ⟨d, o, none⟩) (.inr rfl) _
    refine ⟨?_, ?_, ?_, ?_, ?_⟩
    · exact HF.os.trans H2.os
    · exact HF.output.trans H2.output
    · have := HF.size; omega
    · intro b hb
      rw [HF.tag b (by omega), t1 b hb]
    · intro b hb hr
      rw [B b (by omega)]
      exact H2.block b hb hr
  · refine Row.setOther (a := ⟨d, o, none⟩) ?_ (by show w.heap.size ≠ d; omega) _
    exact H3.of_block (B _ (by omega))

set_option maxRecDepth 100000 in
set_option maxHeartbeats 400000 in
theorem rel_first (w : World) (d o nd : Nat) (C : Nat → Value) (x y z u : Int) (tg : Nat → Nat) (rO rC : Nat) (hrO : rO ≠ tg d) (hrC : rC ≠ tg d) (hrr : rO ≠ rC)
    (hd : Row w d nd C) (ho : o + 1 < nd) (h0 : C o = .slice none 0 0) (h1 : C (o + 1) = .int .i64 0)  :
    Calls Yba.prog 14 #[.pointer (some ⟨d, o, none⟩), .agg #[.int .u32 x, .int .u32 y, .int .u32 z, .int .u32 u]] w fun e w' => e = .returned (.tuple #[]) ∧ FirstP w w' d o nd C tg rO rC 4 [.int .u32 x, .int .u32 y, .int .u32 z, .int .u32 u] := by
  have k0 := cellA ((hd o (by omega)).1.trans (by rw [h0])) (.cells #[.int .u32 x, .int .u32 y, .int .u32 z, .int .u32 u] 72)
  have kb := Row.new w #[.int .u32 x, .int .u32 y, .int .u32 z, .int .u32 u] 72 4 (fun i => (#[Value.int .u32 x, .int .u32 y, .int .u32 z, .int .u32 u][i]?).getD (.bool true)) (fun i hi => by
    rcases i with _ | _ | _ | _ | i <;> first | rfl | omega)
  have hd1 := hd.alloc (by omega) (.cells #[.int .u32 x, .int .u32 y, .int .u32 z, .int .u32 u] 72)
  have hdl := hd.lt (by omega)
  have hF := (Fr.refl (· = tg d) tg w).alloc (.cells #[.int .u32 x, .int .u32 y, .int .u32 z, .int .u32 u] 72) 0
  have hsz := World.size_alloc w (.cells #[.int .u32 x, .int .u32 y, .int .u32 z, .int .u32 u] 72)
  obtain ⟨cs, f0, hcs, hcf, hmk⟩ := mk_any elem89 0 65536 (by omega) (by omega)
  have hmk' : ∀ w : World, Sem.run Yba.prog (Instr.makeSlice 89 (.int .i64 0) (.int .i64 65536)) w = .ok (.slice (some ⟨w.heap.size, 0, none⟩) 0 65536) (w.alloc (.cells cs 72)) := hmk
  clear hmk
  go_enter Yba.func14, Yba.ntmps14
  go_upto_region 1 with fail
  generalize hw1 : w.alloc (.cells #[.int .u32 x, .int .u32 y, .int .u32 z, .int .u32 u] 72) = w1 at *
  have HW : Hid _ := hw1
  clear hw1
  have H1 : Hid _ := hd1
  have H2 : Hid _ := hF
  have H3 : Hid _ := kb
  have H4 : Hid _ := hd
  have H5 : Hid _ := hcf
  have H6 : Hid _ := hsz
  clear hd1 hF kb hd hcf hsz
  go_upto_region 3 with fail
  have q0 : ∀ N, (w1.drewN N).cell? ⟨d, o, none⟩ = some (.slice none 0 0) := fun N => k0
  have q1 : ∀ u : Value, ((w1.alloc (.cells cs 72)).alloc (.cells #[u] 89)).cell? ⟨w1.heap.size + 1, 0, none⟩ = some u := fun u => by rw [← World.size_alloc w1 (.cells cs 72)]; exact cell_new0 _ _ _
  have q4 : ∀ o1 : Obj, (w1.alloc o1).cell? ⟨d, o, none⟩ = some (.slice none 0 0) := fun o1 => cellA k0 _
  have q2 : ∀ o1 : Obj, ((w1.alloc (.cells cs 72)).alloc o1).cell? ⟨d, o, none⟩ = some (.slice none 0 0) := fun o1 => cellA (cellA k0 _) _
  have q3 : ∀ o1 : Obj, ((w1.alloc (.cells cs 72)).alloc o1).frozen? ⟨d, o, none⟩ = false := fun o1 => frozA (World.block_lt_of_cell? _ _ (cellA k0 _)) (frozA (World.block_lt_of_cell? _ _ k0) ((H1.out o (by omega)).2) _) _
  obtain ⟨tg0, htg0⟩ : ∃ t, t = tagAt (tagAt (tagAt tg w.heap.size 0) (w1.heap.size) rC) (w1.heap.size + 1) 0 := ⟨_, rfl⟩
  have hd0 : tg0 d = tg d := by
    have := H6.out
    rw [htg0, tagAt_other _ (by omega), tagAt_other _ (by omega), tagAt_other _ (by omega)]
  have hrO' : ¬ (tg0 d = rO) := by rw [hd0]; exact Ne.symm hrO
  have HT : Hid _ := htg0
  clear htg0
  go_cut [] from 25 to 34 (fun wx => ∃ ob cb c0 tg' g, Row wx d nd (up1 C o (.slice (some ⟨ob, 0, none⟩) 1 c0)) ∧ Row wx ob c0 g ∧ 1 ≤ c0 ∧ g 0 = .slice (some ⟨cb, 0, none⟩) 0 65536 ∧ Row wx cb (65536 * 4) f0 ∧ tg' ob = rO ∧ tg' cb = rC ∧ Fr (· = tg d) tg w tg' wx ∧ w.heap.size < ob ∧ w.heap.size < cb ∧ Row wx w.heap.size 4 (fun i => (#[Value.int .u32 x, .int .u32 y, .int .u32 z, .int .u32 u][i]?).getD (.bool true)))
  case first =>
    go_region_law (refine step_app (by rfl) (.tmp 29) (.tmp 31) 57 89 1 elem57 (by omega) (by rfl) (Sl.nil tg0 _ rO 1 (fun _ => .bool true)) _ 1 _ (src_one elem57.1 (q1 _) rfl) (by simp [Act.eval, Act.put]) (by simp [Act.eval, Act.put]) (by omega) ?_; intro v' wA tg' cap' f' hA hold hnew hFr hcap; obtain ⟨gb, rfl, hgl, hgt, hgr⟩ := hA.pos (by omega); obtain ⟨⟨gb2, hgb2, hgb3⟩, H7'⟩ := hcap rfl (by omega); obtain rfl : gb = gb2 := slice_blk hgb2; have H7 : Hid _ := H7'; have H8 : Hid _ := hgb3; clear H7' hgb2 hgb3; have c1 : wA.cell? ⟨d, o, none⟩ = some (.slice none 0 0) := (hFr.cell (World.block_lt_of_cell? _ _ (q2 _)) hrO').trans (q2 _); have c2 : wA.frozen? ⟨d, o, none⟩ = false := (hFr.frozen (World.block_lt_of_cell? _ _ (q2 _)) hrO').trans (q3 _); have HA : Hid _ := hA; have HO : Hid _ := hnew; have HF : Hid _ := hFr; have HR : Hid _ := hgr; clear hA hold hnew hFr hgr hcap)
    all_goals (go_wp2_with fail; go_meet)
    all_goals (refine ⟨gb, w1.heap.size, cap', tg', f', ?_⟩; exact rel_first_rel H1.out H2.out H3.out H5.out H6.out H7.out H8.out HT.out HA.out HO.out HF.out.fromDrew HR.out hgl hgt hdl hcs hrO hrC hrr ho)
  case rest =>
    obtain ⟨ob, cb, c0, tg', g, hc1, hc2, hc3, hc4, hc5, hc6, hc7, hc8, hc9, hc10, hc11⟩ := hcut
    clear q0 q1 q2 q3 q4 k0 hmk'
    have k0 : wc.cell? ⟨d, o, none⟩ = some (.slice (some ⟨ob, 0, none⟩) 1 c0) := by rw [(hc1 o (by omega)).1, up1_same]
    have k1 : wc.cell? ⟨d, o + 1, none⟩ = some (.int .i64 0) := by rw [(hc1 (o + 1) ho).1, up1_other _ _ (by omega), h1]
    have g1 := (hc1 (o + 1) ho).2
    have k2 : wc.cell? ⟨ob, 0, none⟩ = some (.slice (some ⟨cb, 0, none⟩) 0 65536) := by rw [(hc2 0 hc3).1, hc4]
    have g2 := (hc2 0 hc3).2
    have hs' : ∀ j, j < 4 → (wc.cell? ⟨cb, 0 * 4 + j, none⟩).isSome = true ∧ wc.frozen? ⟨cb, 0 * 4 + j, none⟩ = false := fun j hj => by
      rw [Nat.zero_mul, Nat.zero_add]
      exact ⟨by rw [(hc5 j (by omega)).1]; rfl, (hc5 j (by omega)).2⟩
    have b0 := (hc11 0 (by omega)).1
    have b1 := (hc11 1 (by omega)).1
    have b2 := (hc11 2 (by omega)).1
    have b3 := (hc11 3 (by omega)).1
    dsimp only at b0 b1 b2 b3
    have hdt : tg' d = tg d := hc8.tag d hdl
    have n1 : d ≠ ob := by rintro rfl; omega
    have n1' := n1.symm
    have n2 : cb ≠ d := by rintro rfl; omega
    have n3 : cb ≠ ob := by rintro rfl; omega
    have q0 : ∀ N, (wc.drewN N).cell? ⟨d, o, none⟩ = some (.slice (some ⟨ob, 0, none⟩) 1 c0) := fun N => k0
    have q5 : ∀ N O, ((wc.drewN N).alloc O).cell? ⟨ob, 0, none⟩ = some (.slice (some ⟨cb, 0, none⟩) 0 65536) := fun N O => cellA (w := wc.drewN N) k2 O
    have q1 : ∀ N O vs, (((wc.drewN N).alloc O).setCells cb 0 vs).cell? ⟨ob, 0, none⟩ = some (.slice (some ⟨cb, 0, none⟩) 0 65536) := fun N O vs => cellS (cellA (w := wc.drewN N) k2 O) (Ne.symm n3) _ _
    have q2 : ∀ N O vs, (((wc.drewN N).alloc O).setCells cb 0 vs).frozen? ⟨ob, 0, none⟩ = false := fun N O vs => (frozen_setCells _ _ _ _ _).trans (frozA (w := wc.drewN N) (World.block_lt_of_cell? _ _ k2) g2 O)
    have q3 : ∀ N O vs, (((wc.drewN N).alloc O).setCells cb 0 vs).cell? ⟨d, o + 1, none⟩ = some (.int .i64 0) := fun N O vs => cellS (cellA (w := wc.drewN N) k1 O) (Ne.symm n2) _ _
    have q4 : ∀ N O vs, (((wc.drewN N).alloc O).setCells cb 0 vs).frozen? ⟨d, o + 1, none⟩ = false := fun N O vs => (frozen_setCells _ _ _ _ _).trans (frozA (w := wc.drewN N) (World.block_lt_of_cell? _ _ k1) g1 O)
    have J1 : Hid _ := hc1
    have J2 : Hid _ := hc2
    have J5 : Hid _ := hc5
    have J8 : Hid _ := hc8
    clear hc1 hc2 hc5 hc8 hc11
    go_upto_region 4 with fail
    go_quiet (fail)
    go_upto_region 5 with fail
    go_region_law (refine step_room (by rfl) (.tmp 49) (.tmp 51) 89 72 4 elem89 (by rfl) _ _ cb 0 65536 1 (by simp [Act.eval, Act.put]) (by simp [Act.eval, Act.put]) (by rfl) (by simp [Value.oneCell']) (by omega) (by intro j hj; exact hs' j hj) ?_)
    all_goals (go_wp2; go_end0)
    all_goals exact ⟨rfl, ob, cb, c0, tg', g, f0, first_end _ _ J1.out J2.out J5.out J8.out hc3 hc6 hc7 hc9 hc10 n1 n2 n3 (by omega) (by omega)⟩
end Go.Proofs.Ybulkakra

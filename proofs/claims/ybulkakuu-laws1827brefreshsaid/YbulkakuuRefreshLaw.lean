/-
  THE WALK of LawS1827BRefresh (3).
-/
import Derived.Test.YbulkakuuRefreshWalk
import Derived.Test.YbulkakuuRefStart
import Derived.OpenShut
import Derived.Deep.LoopGhost
import Derived.Deep.DeepCutAuto
import Derived.Deep.RegionHeld3
namespace Go.Proofs.Ybulkakuu.Ref
open Go.RowKit

theorem info3 : (Yba.prog.info? 3).map (fun i => (i.zero, i.size, i.bytes)) = some (some (.int .i64 0), 1, 8) := by kernel_rfl
theorem info4 : (Yba.prog.info? 4).map (fun i => (i.zero, i.size, i.bytes)) = some (some (.bool false), 1, 1) := by kernel_rfl

theorem wrap_bit (b : Bool) : wrap64 (if b then 1 else 0) = if b then 1 else 0 := by cases b <;> simp [wrap64]

theorem built68 : ∃ Z : Array Value, Yba.prog.built 68 [] = some Z ∧ 42 ≤ Z.size := by
  have h : (Yba.prog.built 68 []).map (fun z => decide (42 ≤ z.size)) = some true := by kernel_rfl
  cases hb : Yba.prog.built 68 [] with
  | none => rw [hb] at h; cases h
  | some Z => rw [hb] at h; exact ⟨Z, rfl, by simpa using h⟩

theorem wpList_build0 {P : Program} {ops : Array Oper} {rest : List Oper} {o : Oper} {a : Act} {w : World} {Q : Exit → Act → World → Prop} (hg : o.guard = none) (t : TypeId) (ho : o.op = .build t #[]) (Z : Array Value) (hZ : P.built t [] = some Z)
    (h : wpList P ops Q rest (a.put o.dst (.agg Z)) w) : wpList P ops Q (o :: rest) a w := by
  refine wpList_build hg t #[] ho ?_ ?_
  · simp [hZ]
  · simpa [hZ] using h

theorem cell_ex {Z : Array Value} (h : 42 ≤ Z.size) (i : Nat) (hi : i < 42) : ∃ v, Z[i]? = some v := ⟨Z[i], Array.getElem?_eq_getElem (by omega)⟩

set_option maxRecDepth 100000 in
set_option maxHeartbeats 4000000 in
theorem law_main (b off n cap : Nat) (zs : List Int) (a1 : Option Addr) (m cap1 : Nat) (us : List Int) (w : World) (hb : b < w.heap.size) (hn0 : 0 < n) (hn : n ≤ 1024) (hm : m ≤ 1024) 
    (hc : ∀ j, j < n → w.cell? ⟨b, off + j, none⟩ = some (.int .u8 (zs[j]?.getD 0))) (hw : ∀ x ∈ zs, (Lit.int .u8 x).wf = true) 
    (hus : 0 < m → ∃ b1 off1, a1 = some ⟨b1, off1, none⟩ ∧ b1 < w.heap.size ∧ ∀ j, j < m → w.cell? ⟨b1, off1 + j, none⟩ = some (.int .u16 (us[j]?.getD 0))) (hwu : ∀ x ∈ us, (Lit.int .u16 x).wf = true) :
    Calls Yba.prog 3 #[.slice (some ⟨b, off, none⟩) n cap, .slice a1 m cap1] w fun e w' => e = .returned (.bool true) ∧ Below w.heap.size w w' := by
  obtain ⟨W, hWd⟩ : ∃ W, W = wds n := ⟨_, rfl⟩
  have hdiv : ((n : Int) + 63) / 64 = (W : Int) := by rw [hWd]; unfold wds; omega
  have hW1 : W ≤ 16 := by rw [hWd]; unfold wds; omega
  have HW : Hid (W = wds n) := hWd
  clear hWd
  have hm29 := run_make_row' (P := Yba.prog) 29 3 (.int .i64 0) 8 Yba.underlying29 info3 rfl .i64 .i64 n (by omega) (by omega)
  have hm30 := run_make_row' (P := Yba.prog) 30 31 (.int .u64 0) 8 Yba.underlying30 info31 rfl .i64 .i64 W (by omega) (by omega)
  have hm45 := run_make_row' (P := Yba.prog) 45 4 (.bool false) 1 Yba.underlying45 info4 rfl .i64 .i64 n (by omega) (by omega)
  have e0 : ((n : Int) == 0) = false := beq_eq_false_iff_ne.2 (by omega)
  have e1 : decide ((1024 : Int) < (n : Int)) = false := by simp; omega
  have e2 : decide ((1024 : Int) < (m : Int)) = false := by simp; omega
  go_enter Yba.func3, Yba.ntmps3
  go_wp2_with fail
  refine (new_any n _ hn0 hn).mono ?_
  rintro e w1 ⟨r, rfl, hr, hrin, hbr⟩
  go_wp2_with fail
  refine (new_any n _ hn0 hn).mono ?_
  rintro e w2 ⟨q, rfl, hq, hqin, hbq⟩
  go_wp2_with fail
  refine (new_any n _ hn0 hn).mono ?_
  rintro e w3 ⟨f, rfl, hf, hfin, hbf⟩
  obtain ⟨Z, hZ, hZs⟩ := built68
  obtain ⟨v39, z39⟩ := cell_ex hZs 39 (by omega)
  obtain ⟨v40, z40⟩ := cell_ex hZs 40 (by omega)
  obtain ⟨v41, z41⟩ := cell_ex hZs 41 (by omega)
  obtain ⟨v28, z28⟩ := cell_ex hZs 28 (by omega)
  obtain ⟨v34, z34⟩ := cell_ex hZs 34 (by omega)
  obtain ⟨v35, z35⟩ := cell_ex hZs 35 (by omega)
  obtain ⟨v7, z7⟩ := cell_ex hZs 7 (by omega)
  obtain ⟨v8, z8⟩ := cell_ex hZs 8 (by omega)
  go_wp2_with (refine wpList_build0 rfl 68 rfl Z hZ ?_)
  simp only [Nat.add_assoc, Nat.reduceAdd, hdiv]
  clear hdiv
  obtain ⟨cs, hcs⟩ : ∃ cs : List (Array Value), cs = [#[.slice none 0 0, .int .i64 0, .slice none 0 0, .int .u64 0, .int .i64 0, r.sl n, q.sl n, f.sl n],
      (((((((Z.setIfInBounds 39 (.slice (some ⟨w3.heap.size + 2, 0, none⟩) 1 1)).setIfInBounds 40 (.slice (some ⟨w3.heap.size + 3, 0, none⟩) n n)).setIfInBounds 41 (.slice (some ⟨w3.heap.size + 4, 0, none⟩) n n)).setIfInBounds 28 (.slice (some ⟨w3.heap.size + 5, 0, none⟩) W W)).setIfInBounds 34 (.slice (some ⟨w3.heap.size + 6, 0, none⟩) n n)).setIfInBounds 35 (.slice (some ⟨w3.heap.size + 7, 0, none⟩) n n)).setIfInBounds 7 (.slice (some ⟨w3.heap.size + 8, 0, none⟩) n n)).setIfInBounds 8 (.slice (some ⟨w3.heap.size + 9, 0, none⟩) n n),
      #[.pointer (some ⟨w3.heap.size, 0, none⟩)], madeCells #[.int .i64 0] n, madeCells #[.int .i64 0] n, madeCells #[.int .u64 0] W, madeCells #[.int .i64 0] n, madeCells #[.bool false] n, madeCells #[.bool false] n, madeCells #[.bool false] n, madeCells #[.bool false] n, madeCells #[.bool false] n, madeCells #[.bool false] n] := ⟨_, rfl⟩
  obtain ⟨ts, hts⟩ : ∃ ts : List TypeId, ts = [33, 68, 24, 3, 3, 31, 3, 4, 4, 4, 4, 4, 4] := ⟨_, rfl⟩
  have hstart := start_rel w w1 w2 w3 n W HW.out r q f Z zs hZs hr hrin hbr hq hqin hbq hf hfin hbf cs hcs ts hts
  rw [hcs, hts] at hstart
  simp only [cellsOf, List.zipWith, lay] at hstart
  rw [← hcs, ← hts] at hstart
  clear hcs hts
  clear z39 z40 z41 z28 z34 z35 z7 z8 v39 v40 v41 v28 v34 v35 v7 v8 hm29 hm30 hm45 hr hq hf hbr hbq hbf
  generalize hN : w3.heap.size = N at *
  generalize hw0 : ((((((((((((w3.alloc _).alloc _).alloc _).alloc _).alloc _).alloc _).alloc _).alloc _).alloc _).alloc _).alloc _).alloc _).alloc _ = w0 at hstart ⊢
  generalize hN1 : w1.heap.size = N1 at *
  generalize hN2 : w2.heap.size = N2 at *
  generalize htys : typs ts = ty at *
  generalize hlns : lens cs = ln at *
  clear hw0 hN hN1 hN2 htys hlns hrin hqin hfin hZ hZs
  go_loopg [93] n (fun g t wr => ∃ k : Nat, k ≤ n ∧ g = n - k ∧ t = .int .i64 k ∧ Rel1 w n N N1 N2 r q f ty ln zs k wr)
  case atStart => exact ⟨0, Nat.zero_le _, rfl, rfl, hstart⟩
  case round =>
    clear hstart
    obtain ⟨k, hk, hgk, rfl, C, R, RQ, RF, hM, hC, hBel⟩ := hrel
    have hBN : w.heap.size ≤ N := by have h1 := hM.inr.le; have h2 := hM.inq.le; have h3 := hM.inf.le; omega
    by_cases hlt : k < n
    · obtain ⟨x, hx⟩ : ∃ x, x = zs[k]?.getD 0 := ⟨_, rfl⟩
      have hcx : wr.cell? ⟨b, off + k, none⟩ = some (.int .u8 x) := by rw [hx]; exact (hBel.cell (by exact hb)).trans (hc k hlt)
      have hxr := range_u8 hw k
      rw [← hx] at hxr
      have HX : Hid (x = zs[k]?.getD 0) := hx
      clear hx
      have l1 := hC.l1
      have HC : Hid (Con n N r q f ln C (locK n k) (upTo k (bit zs 0)) (upTo k (bit zs 1)) (upTo k (bit zs 2)) (upTo k (bit zs 3)) (upTo k (bit zs 4)) R RQ RF) := hC
      have k41 := hM.cell 1 41 _ (by omega) (by omega) hC.s41
      have k4 := hM.cell 4 k _ (by omega) (by rw [hC.l4]; omega) (hC.c4 k hlt)
      have f4 := hM.free 4 k (by omega)
      clear hC
      obtain ⟨g0, g1, g2, g3, g4, g5, g6, g7⟩ := flags zs k x HX.out hxr
      have gs := flag_shift zs k x HX.out hxr
      obtain ⟨i, hi⟩ : ∃ i : Nat, i = n - 1 - k := ⟨_, rfl⟩
      have hin : i < n := by omega
      have hii : (n : Int) - 1 - (k : Int) = (i : Int) := by omega
      have hki : ((n - 1 - k : Nat) : Int) = (i : Int) := by omega
      have HI : Hid (i = n - 1 - k) := hi
      have HKI : Hid ((i : Int) = ((n - 1 - k : Nat) : Int)) := hki.symm
      clear hi hki
      go_upto_if 111 with fail
      have k28 := hM.cell 1 28 _ (by omega) (by omega) HC.out.s28
      have hk64 : k / 64 < wds n := by unfold wds; omega
      have k5 := hM.cell 5 (k / 64) _ (by omega) (by rw [HC.out.l5]; omega) (HC.out.c5 (k / 64) hk64)
      have f5 := hM.free 5 (k / 64) (by omega)
      have HO : Hid _ := or_word (upTo k (bit zs 0)) k
      have G : Hid (bits .and .u8 (x / 2) 1 = (if bit zs 1 k then 1 else 0) ∧ (bits .and .u8 x 4 != 0) = bit zs 2 k ∧ (bits .and .u8 x 8 != 0) = bit zs 3 k ∧ (bits .and .u8 x 16 != 0) = bit zs 4 k ∧ (bits .and .u8 x 32 != 0) = bit zs 5 k ∧ (bits .and .u8 x 64 != 0) = bit zs 6 k ∧ (bits .and .u8 x 128 != 0) = bit zs 7 k) := ⟨gs, g2, g3, g4, g5, g6, g7⟩
      clear gs g1 g2 g3 g4 g5 g6 g7
      go_cut [] (fun wx => Rel1a w n N N1 N2 r q f ty ln zs k wx)
      case first =>
        cases hb0 : bit zs 0 k
        · go_wp2
          go_meet
          case rel => exact ⟨_, R, RQ, RF, hM.store 4 k _, (HC.out.stepLoc hlt HKI.out).stepPlaNot hb0, hBel.setCell (by exact Nat.le_trans hBN (Nat.le_add_right _ _)) _⟩
        · go_wp2
          go_meet
          case rel => exact ⟨_, R, RQ, RF, (hM.store 4 k _).store 5 (k / 64) _, (HC.out.stepLoc hlt HKI.out).stepPla hb0 HO.out, (hBel.setCell (by exact Nat.le_trans hBN (Nat.le_add_right _ _)) _).setCell (by exact Nat.le_trans hBN (Nat.le_add_right _ _)) _⟩
      case rest =>
        clear HC hM hBel k41 k4 f4 k28 k5 f5 HO g0 hcx
        obtain ⟨C, R, RQ, RF, hM, hC, hBel⟩ := hcut
        have HC : Hid (Con n N r q f ln C (locK n (k + 1)) (upTo (k + 1) (bit zs 0)) (upTo k (bit zs 1)) (upTo k (bit zs 2)) (upTo k (bit zs 3)) (upTo k (bit zs 4)) R RQ RF) := hC
        obtain ⟨gs, g2, g3, g4, g5, g6, g7⟩ := G.out
        have GS : Hid _ := gs
        have k34 := hM.cell 1 34 _ (by omega) (by omega) hC.s34
        have k35 := hM.cell 1 35 _ (by omega) (by omega) hC.s35
        have k7 := hM.cell 1 7 _ (by omega) (by omega) hC.s7
        have k8 := hM.cell 1 8 _ (by omega) (by omega) hC.s8
        have d6 := hM.cell 6 k _ (by omega) (by rw [hC.l6]; omega) (hC.c6 k hlt)
        have d7 := hM.cell 7 k _ (by omega) (by rw [hC.l7]; omega) (hC.c7 k hlt)
        have d8 := hM.cell 8 k _ (by omega) (by rw [hC.l8]; omega) (hC.c8 k hlt)
        have d9 := hM.cell 9 k _ (by omega) (by rw [hC.l9]; omega) (hC.c9 k hlt)
        have f6 := hM.free 6 k (by omega)
        have f7 := hM.free 7 k (by omega)
        have f8 := hM.free 8 k (by omega)
        have f9 := hM.free 9 k (by omega)
        clear gs hC
        go_upto_if 165 with fail
        have hR : Rel1 w n N N1 N2 r q f ty ln zs (k + 1) ((((wc.setCell ⟨N + 6, k, none⟩ (.int .i64 (wrap64 (bits .and .u8 (x / 2) 1)))).setCell ⟨N + 7, k, none⟩ (.bool (bit zs 2 k))).setCell ⟨N + 8, k, none⟩ (.bool (bit zs 3 k))).setCell ⟨N + 9, k, none⟩ (.bool (bit zs 4 k))) :=
          ⟨_, R, RQ, RF, (((hM.store 6 k _).store 7 k _).store 8 k _).store 9 k _, (((HC.out.stepUnm (by rw [GS.out]; exact wrap_bit _)).stepPar rfl).stepQui rfl).stepFre rfl,
            (((hBel.setCell (by exact Nat.le_trans hBN (Nat.le_add_right _ _)) _).setCell (by exact Nat.le_trans hBN (Nat.le_add_right _ _)) _).setCell (by exact Nat.le_trans hBN (Nat.le_add_right _ _)) _).setCell (by exact Nat.le_trans hBN (Nat.le_add_right _ _)) _⟩
        generalize hwx : (((wc.setCell _ _).setCell _ _).setCell _ _).setCell _ _ = wx at hR ⊢
        clear hwx HC hM hBel k34 k35 k7 k8 d6 d7 d8 d9 f6 f7 f8 f9 GS
        clear C R RQ RF
        obtain ⟨C, R, RQ, RF, hM, hC, hBel⟩ := hR
        have p5 := hM.cell 0 5 _ (by omega) (by have := hC.l0; omega) hC.p5
        rw [Nat.add_zero] at p5
        have HC : Hid (Con n N r q f ln C (locK n (k + 1)) (upTo (k + 1) (bit zs 0)) (upTo (k + 1) (bit zs 1)) (upTo (k + 1) (bit zs 2)) (upTo (k + 1) (bit zs 3)) (upTo (k + 1) (bit zs 4)) R RQ RF) := hC
        clear hC
        go_cut [] (fun wx => Rel1 w n N N1 N2 r q f ty ln zs (k + 1) wx)
        case first =>
          cases hb5 : bit zs 5 k
          · go_wp2
            go_meet
            case rel => exact ⟨C, R, RQ, RF, hM, HC.out, hBel⟩
          · go_wp2_with fail
            refine (add_any n r i R _ hn hin hM.sr).mono ?_
            rintro e w5 ⟨rfl, hb1, hs1⟩
            have hBel1 := hBel.trans (hM.belowR hb1)
            have hM1 := hM.setR hb1 hs1
            have d := hM1.cell 10 i _ (by omega) (by rw [HC.out.l10]; omega) (HC.out.c10 i hin)
            have fr := hM1.free 10 i (by omega)
            clear hb1 hs1
            go_wp2
            go_meet
            case rel => exact ⟨_, ins R i, RQ, RF, hM1.store 10 i _, HC.out.insR, hBel1.setCell (by exact Nat.le_trans hBN (Nat.le_add_right _ _)) _⟩
        case rest =>
        clear HC hM hBel p5
        clear C R RQ RF
        obtain ⟨C, R, RQ, RF, hM, hC, hBel⟩ := hcut
        go_upto_if 177 with fail
        have p6 := hM.cell 0 6 _ (by omega) (by have := hC.l0; omega) hC.p6
        rw [Nat.add_zero] at p6
        have HC : Hid (Con n N r q f ln C (locK n (k + 1)) (upTo (k + 1) (bit zs 0)) (upTo (k + 1) (bit zs 1)) (upTo (k + 1) (bit zs 2)) (upTo (k + 1) (bit zs 3)) (upTo (k + 1) (bit zs 4)) R RQ RF) := hC
        clear hC
        go_cut [] (fun wx => Rel1 w n N N1 N2 r q f ty ln zs (k + 1) wx)
        case first =>
          cases hb6 : bit zs 6 k
          · go_wp2
            go_meet
            case rel => exact ⟨C, R, RQ, RF, hM, HC.out, hBel⟩
          · go_wp2_with fail
            refine (add_any n q i RQ _ hn hin hM.sq).mono ?_
            rintro e w5 ⟨rfl, hb1, hs1⟩
            have hBel1 := hBel.trans (hM.belowQ hb1)
            have hM1 := hM.setQ hb1 hs1
            have d := hM1.cell 11 i _ (by omega) (by rw [HC.out.l11]; omega) (HC.out.c11 i hin)
            have fr := hM1.free 11 i (by omega)
            clear hb1 hs1
            go_wp2
            go_meet
            case rel => exact ⟨_, R, ins RQ i, RF, hM1.store 11 i _, HC.out.insRQ, hBel1.setCell (by exact Nat.le_trans hBN (Nat.le_add_right _ _)) _⟩
        case rest =>
        clear HC hM hBel p6
        clear C R RQ RF
        obtain ⟨C, R, RQ, RF, hM, hC, hBel⟩ := hcut
        go_upto_if 189 with fail
        have p7 := hM.cell 0 7 _ (by omega) (by have := hC.l0; omega) hC.p7
        rw [Nat.add_zero] at p7
        have HC : Hid (Con n N r q f ln C (locK n (k + 1)) (upTo (k + 1) (bit zs 0)) (upTo (k + 1) (bit zs 1)) (upTo (k + 1) (bit zs 2)) (upTo (k + 1) (bit zs 3)) (upTo (k + 1) (bit zs 4)) R RQ RF) := hC
        clear hC
        cases hb7 : bit zs 7 k
        · go_wp2
          go_roundg (n - (k + 1))
          case measure => omega
          case rel => exact ⟨k + 1, by omega, rfl, by go_num, C, R, RQ, RF, hM, HC.out, hBel⟩
        · go_wp2_with fail
          refine (add_any n f i RF _ hn hin hM.sf).mono ?_
          rintro e w5 ⟨rfl, hb1, hs1⟩
          have hBel1 := hBel.trans (hM.belowF hb1)
          have hM1 := hM.setF hb1 hs1
          have d := hM1.cell 12 i _ (by omega) (by rw [HC.out.l12]; omega) (HC.out.c12 i hin)
          have fr := hM1.free 12 i (by omega)
          clear hb1 hs1
          go_wp2
          go_roundg (n - (k + 1))
          case measure => omega
          case rel => exact ⟨k + 1, by omega, rfl, by go_num, _, R, RQ, ins RF i, hM1.store 12 i _, HC.out.insRF, hBel1.setCell (by exact Nat.le_trans hBN (Nat.le_add_right _ _)) _⟩
    · have hkn : k = n := by omega
      subst hkn
      go_wp2_with fail
      have hR : Rel1 w k N N1 N2 r q f ty ln zs k wr := ⟨C, R, RQ, RF, hM, hC, hBel⟩
      clear hM hC hBel hlt hgk hk
      clear C R RQ RF
      go_loopg [202] m (fun g t wx => ∃ j : Nat, j ≤ m ∧ g = m - j ∧ t = .int .i64 j ∧ Rel1 w k N N1 N2 r q f ty ln zs k wx)
      case atStart => exact ⟨0, Nat.zero_le _, rfl, rfl, hR⟩
      case round =>
        clear hR
        obtain ⟨j, hj, hgj, rfl, C, R, RQ, RF, hM, hC, hBel⟩ := hrel
        by_cases hlt : j < m
        · obtain ⟨b1, off1, rfl, hb1, hcu⟩ := hus (by omega)
          obtain ⟨x, hx⟩ : ∃ x, x = us[j]?.getD 0 := ⟨_, rfl⟩
          have hcx : wr.cell? ⟨b1, off1 + j, none⟩ = some (.int .u16 x) := by rw [hx]; exact (hBel.cell (by exact hb1)).trans (hcu j hlt)
          have hxr := range_u16 hwu j
          rw [← hx] at hxr
          clear hx hcu
          have hm0 := Int.emod_nonneg x (by omega : (k : Int) ≠ 0)
          have hm1 := Int.emod_lt_of_pos x (by omega : (0 : Int) < (k : Int))
          go_upto_region 42 with fail
          obtain ⟨u, hu⟩ : ∃ u : Nat, x % (k : Int) = (u : Int) := ⟨(x % (k : Int)).toNat, by omega⟩
          rw [hu] at hm0 hm1 ⊢
          have huk : u < k := by omega
          clear hu hm0 hm1 hxr hcx
          obtain ⟨y, hy⟩ : ∃ y, y = zs[u]?.getD 0 := ⟨_, rfl⟩
          have hcy : wr.cell? ⟨b, off + u, none⟩ = some (.int .u8 y) := by rw [hy]; exact (hBel.cell (by exact hb)).trans (hc u huk)
          have hyr := range_u8 hw u
          rw [← hy] at hyr
          have HY : Hid (y = zs[u]?.getD 0) := hy
          clear hy
          obtain ⟨g0, g1, g2, g3, g4, g5, g6, g7⟩ := flags zs u y HY.out hyr
          have e0 : (bits .and .u8 y 1 == 0) = !bit zs 0 u := by rw [← g0, bne, Bool.not_not]
          have e1 : (bits .and .u8 y 2 == 0) = !bit zs 1 u := by rw [← g1, bne, Bool.not_not]
          have e2 : (bits .and .u8 y 4 == 0) = !bit zs 2 u := by rw [← g2, bne, Bool.not_not]
          obtain ⟨i, hi⟩ : ∃ i : Nat, i = k - 1 - u := ⟨_, rfl⟩
          have hik : i < k := by omega
          have hii : (k : Int) - 1 - (u : Int) = (i : Int) := by omega
          have hloc : locK k k u = (i : Int) := by unfold locK; rw [if_pos huk, hi]
          have hb0 : upTo k (bit zs 0) u = bit zs 0 u := by simp [upTo, huk]
          have hb1' : upTo k (bit zs 1) u = bit zs 1 u := by simp [upTo, huk]
          have hb2 : upTo k (bit zs 2) u = bit zs 2 u := by simp [upTo, huk]
          have hb3 : upTo k (bit zs 3) u = bit zs 3 u := by simp [upTo, huk]
          have hb4 : upTo k (bit zs 4) u = bit zs 4 u := by simp [upTo, huk]
          have HC : Hid (Con k N r q f ln C (locK k k) (upTo k (bit zs 0)) (upTo k (bit zs 1)) (upTo k (bit zs 2)) (upTo k (bit zs 3)) (upTo k (bit zs 4)) R RQ RF) := hC
          clear hC hi
          cases hgo : (!bit zs 0 u && !bit zs 1 u && !bit zs 2 u)
          · have HG : Hid ((!upTo k (bit zs 0) u && !upTo k (bit zs 1) u && !upTo k (bit zs 2) u) = false ∧ locK k k u = (i : Int)) := ⟨by rw [hb0, hb1', hb2]; exact hgo, hloc⟩
            have hgo' : (bit zs 0 u = true) ∨ (bit zs 0 u = false ∧ bit zs 1 u = true) ∨ (bit zs 0 u = false ∧ bit zs 1 u = false ∧ bit zs 2 u = true) := by
              cases h1 : bit zs 0 u <;> cases h2 : bit zs 1 u <;> cases h3 : bit zs 2 u <;> simp [h1, h2, h3] at hgo ⊢
            clear hgo hb0 hb1' hb2 hb3 hb4 hloc g0 g1 g2 g3 g4 g5 g6 g7
            rcases hgo' with hP | ⟨hP, hU⟩ | ⟨hP, hU, hK⟩
            all_goals
              go_wp2_with fail
              refine (refresh_no wr k N N1 N2 w.heap.size r q f ty ln C R RQ RF (locK k k) (upTo k (bit zs 0)) (upTo k (bit zs 1)) (upTo k (bit zs 2)) (upTo k (bit zs 3)) (upTo k (bit zs 4)) R RQ RF u i hn huk hik hM HC.out HG.out.2 HG.out.1).mono ?_
              rintro e w5 ⟨rfl, hbel5, hM5⟩
              have d10 := hM5.cell 10 i _ (by omega) (by rw [HC.out.l10]; omega) (HC.out.c10 i hik)
              have d11 := hM5.cell 11 i _ (by omega) (by rw [HC.out.l11]; omega) (HC.out.c11 i hik)
              have d12 := hM5.cell 12 i _ (by omega) (by rw [HC.out.l12]; omega) (HC.out.c12 i hik)
              have f10 := hM5.free 10 i (by omega)
              have f11 := hM5.free 11 i (by omega)
              have f12 := hM5.free 12 i (by omega)
              go_wp2
              go_roundg (m - (j + 1))
              case measure => omega
              case rel => exact ⟨j + 1, by omega, rfl, by go_num, _, del R i, del RQ i, del RF i, ((hM5.store 10 i _).store 11 i _).store 12 i _, ((HC.out.delR).delRQ).delRF, (((hBel.trans hbel5).setCell (by exact Nat.le_trans hBN (Nat.le_add_right _ _)) _).setCell (by exact Nat.le_trans hBN (Nat.le_add_right _ _)) _).setCell (by exact Nat.le_trans hBN (Nat.le_add_right _ _)) _⟩
          · have HG : Hid ((!upTo k (bit zs 0) u && !upTo k (bit zs 1) u && !upTo k (bit zs 2) u) = true ∧ locK k k u = (i : Int)) := ⟨by rw [hb0, hb1', hb2]; exact hgo, hloc⟩
            have HB : Hid (upTo k (bit zs 3) u = bit zs 3 u ∧ upTo k (bit zs 4) u = bit zs 4 u) := ⟨hb3, hb4⟩
            have hgo' : bit zs 0 u = false ∧ bit zs 1 u = false ∧ bit zs 2 u = false := by
              cases h1 : bit zs 0 u <;> cases h2 : bit zs 1 u <;> cases h3 : bit zs 2 u <;> simp [h1, h2, h3] at hgo ⊢
            clear hgo hb0 hb1' hb2 hb3 hb4 hloc g0 g1 g2 g5 g6 g7
            obtain ⟨hP, hU, hK⟩ := hgo'
            cases hQ : bit zs 3 u <;> cases hF : bit zs 4 u
            all_goals
              go_wp2_with fail
              refine (refresh_yes wr k N N1 N2 w.heap.size r q f ty ln C R RQ RF (locK k k) (upTo k (bit zs 0)) (upTo k (bit zs 1)) (upTo k (bit zs 2)) (upTo k (bit zs 3)) (upTo k (bit zs 4)) R RQ RF u i hn huk hik hM HC.out HG.out.2 HG.out.1).mono ?_
              rintro e w5 ⟨rfl, hbel5, hM5⟩
              rw [HB.out.1, HB.out.2, hQ, hF] at hM5
              have d10 := hM5.cell 10 i _ (by omega) (by rw [HC.out.l10]; omega) (HC.out.c10 i hik)
              have d11 := hM5.cell 11 i _ (by omega) (by rw [HC.out.l11]; omega) (HC.out.c11 i hik)
              have d12 := hM5.cell 12 i _ (by omega) (by rw [HC.out.l12]; omega) (HC.out.c12 i hik)
              have f10 := hM5.free 10 i (by omega)
              have f11 := hM5.free 11 i (by omega)
              have f12 := hM5.free 12 i (by omega)
              go_wp2
              go_roundg (m - (j + 1))
              case measure => omega
            case rel => exact ⟨j + 1, by omega, rfl, by go_num, _, ins R i, RQ, RF, hM5.store 10 i _, HC.out.insR, (hBel.trans hbel5).setCell (by exact Nat.le_trans hBN (Nat.le_add_right _ _)) _⟩
            case rel => exact ⟨j + 1, by omega, rfl, by go_num, _, ins R i, RQ, ins RF i, (hM5.store 10 i _).store 12 i _, (HC.out.insR).insRF, ((hBel.trans hbel5).setCell (by exact Nat.le_trans hBN (Nat.le_add_right _ _)) _).setCell (by exact Nat.le_trans hBN (Nat.le_add_right _ _)) _⟩
            case rel => exact ⟨j + 1, by omega, rfl, by go_num, _, ins R i, ins RQ i, RF, (hM5.store 10 i _).store 11 i _, (HC.out.insR).insRQ, ((hBel.trans hbel5).setCell (by exact Nat.le_trans hBN (Nat.le_add_right _ _)) _).setCell (by exact Nat.le_trans hBN (Nat.le_add_right _ _)) _⟩
            case rel => exact ⟨j + 1, by omega, rfl, by go_num, _, ins R i, ins RQ i, ins RF i, ((hM5.store 10 i _).store 11 i _).store 12 i _, ((HC.out.insR).insRQ).insRF, (((hBel.trans hbel5).setCell (by exact Nat.le_trans hBN (Nat.le_add_right _ _)) _).setCell (by exact Nat.le_trans hBN (Nat.le_add_right _ _)) _).setCell (by exact Nat.le_trans hBN (Nat.le_add_right _ _)) _⟩
        · go_wp2_with fail
          have hR : Rel1 w k N N1 N2 r q f ty ln zs k wr := ⟨C, R, RQ, RF, hM, hC, hBel⟩
          clear hM hC hBel hlt hj hgj
          clear C R RQ RF
          go_loopg [19] k (fun g t wx => ∃ i : Nat, i ≤ k ∧ g = k - i ∧ t = .int .i64 i ∧ Rel1 w k N N1 N2 r q f ty ln zs k wx)
          case atStart => exact ⟨0, Nat.zero_le _, rfl, rfl, hR⟩
          case round =>
            clear hR
            obtain ⟨i, hi, hgi, rfl, C, R, RQ, RF, hM, hC, hBel⟩ := hrel
            by_cases hik : i < k
            · have HC : Hid (Con k N r q f ln C (locK k k) (upTo k (bit zs 0)) (upTo k (bit zs 1)) (upTo k (bit zs 2)) (upTo k (bit zs 3)) (upTo k (bit zs 4)) R RQ RF) := hC
              clear hC
              have hii : (i : Int) < (k : Int) := by omega
              go_wp2_with fail
              go_region_held3 (fun w' => w'.cell? ⟨N, 5, none⟩ = some (r.sl k) ∧ w'.cell? ⟨N, 6, none⟩ = some (q.sl k) ∧ w'.cell? ⟨N, 7, none⟩ = some (f.sl k) ∧ w'.cell? ⟨N + 10, i, none⟩ = some (.bool (R i)) ∧ w'.cell? ⟨N + 11, i, none⟩ = some (.bool (RQ i)) ∧ w'.cell? ⟨N + 12, i, none⟩ = some (.bool (RF i)) ∧ Mem w' k N N1 N2 w.heap.size r q f ty ln C R RQ RF ∧ Below w.heap.size w w')
                (first | exact see hik HC.out hM.drew hBel.drew | exact see_alloc hik HC.out (by assumption))
                (first | (go_at_call_of 9 (Value.agg #[r.sl k]); refine (hasn_any k r i R _ hn hik ?_).mono ?_; exact see_r (by assumption); rintro e w5 ⟨rfl, o5, rfl⟩) | (go_at_call_of 9 (Value.agg #[q.sl k]); refine (hasn_any k q i RQ _ hn hik ?_).mono ?_; exact see_q (by assumption); rintro e w5 ⟨rfl, o5, rfl⟩) | (go_at_call_of 9 (Value.agg #[f.sl k]); refine (hasn_any k f i RF _ hn hik ?_).mono ?_; exact see_f (by assumption); rintro e w5 ⟨rfl, o5, rfl⟩))
              go_wp2
              go_roundg (k - (i + 1))
              case measure => omega
              case rel => rename_i hHH; exact ⟨i + 1, by omega, rfl, by go_num, C, R, RQ, RF, hHH.2.2.2.2.2.2.1, HC.out, hHH.2.2.2.2.2.2.2⟩
            · obtain ⟨p5, p6, p7, _, _, _, _, _⟩ := see (i := 0) (by omega) hC hM hBel
              go_wp2_with fail
              refine (sound_any k r R _ hn hM.sr).mono ?_
              rintro e w5 ⟨rfl, o5, rfl⟩
              have hM5 := hM.alloc o5
              obtain ⟨q5, q6, q7, _, _, _, _, _⟩ := see_alloc (o := o5) (i := 0) (by omega) hC (see (by omega) hC hM hBel)
              go_wp2_with fail
              refine (sound_any k q RQ _ hn hM5.sq).mono ?_
              rintro e w6 ⟨rfl, o6, rfl⟩
              have hM6 := hM5.alloc o6
              obtain ⟨t5, t6, t7, _, _, _, _, hBel6⟩ := see_alloc (o := o6) (i := 0) (by omega) hC (see_alloc (o := o5) (by omega) hC (see (by omega) hC hM hBel))
              go_wp2_with fail
              refine (sound_any k f RF _ hn hM6.sf).mono ?_
              rintro e w7 ⟨rfl, o7, rfl⟩
              obtain ⟨_, _, _, _, _, _, _, hBel7⟩ := see_alloc (o := o7) (i := 0) (by omega) hC (see_alloc (o := o6) (by omega) hC (see_alloc (o := o5) (by omega) hC (see (by omega) hC hM hBel)))
              go_wp2
              go_ret
              exact ⟨rfl, hBel7⟩
end Go.Proofs.Ybulkakuu.Ref

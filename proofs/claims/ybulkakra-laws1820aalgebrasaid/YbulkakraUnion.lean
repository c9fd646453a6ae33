/-
  Union of seat b1820a.
-/
import Derived.Test.YbulkakraPush
namespace Go.Proofs.Ybulkakra
open Go.RowKit
set_option linter.unusedSimpArgs false
set_option linter.unusedVariables false

theorem tru_same {N : List Nd} {a : Nat} (ha : a < N.length) : Tru N 1 a a a := ⟨ha, ha, ha, by omega, fun _ h _ => h, fun v l _ _ _ => by unfold opS; simp⟩
theorem tru_zero_r {N : List Nd} (hw : Wf N) {a : Nat} (ha : a < N.length) : Tru N 1 a 0 a := ⟨ha, by have := hw.two; omega, ha, by omega, fun _ h _ => h, fun v l _ _ _ => by unfold opS; simp [has_zero hw]⟩
theorem tru_zero_l {N : List Nd} (hw : Wf N) {b : Nat} (hb : b < N.length) : Tru N 1 0 b b := ⟨by have := hw.two; omega, hb, hb, by omega, fun _ _ h => h, fun v l _ _ _ => by unfold opS; simp [has_zero hw]⟩
theorem Tru.swap {N : List Nd} {a b r : Nat} (h : Tru N 1 b a r) : Tru N 1 a b r := ⟨h.b_lt, h.a_lt, h.r_lt, by have := h.lev; omega, fun e x y => h.pos e y x, fun v l e x y => by
  rw [h.sem v l e y x]
  unfold opS
  simp
  exact Or.comm⟩
theorem up_same {tg : Nat → Nat} {w : World} {d : Nat} {N : List Nd} {S : List Ed} {c a b r : Nat} (hS : St tg w d N S) (hw : Wf N) (t : Tru N 1 a b r) : UP tg w w d N S c a b r :=
  ⟨tg, N, hS, hw, List.prefix_refl _, t, by omega, by omega, Fr.refl _ _ _⟩
theorem union_early (tg : Nat → Nat) (w : World) (d : Nat) (N : List Nd) (S : List Ed) (c a b : Nat) (hS : St tg w d N S) (hw : Wf N) (ha : a < N.length) (hb : b < N.length) (h : a = b ∨ a = 0 ∨ b = 0) :
    Calls Yba.prog 6 #[.pointer (some ⟨d, 0, none⟩), .int .u32 (a : Int), .int .u32 (b : Int)] w fun e w' => ∃ r, e = .returned (.int .u32 ((r : Nat) : Int)) ∧ UP tg w w' d N S c a b r := by
  by_cases h1 : a = b
  · subst h1
    have HU : Hid _ := up_same (c := c) hS hw (tru_same ha)
    have e1 : ((a : Int) == (a : Int)) = true := by simp
    clear hS hw ha hb h
    go_enter Yba.func6, Yba.ntmps6
    go_wp2
    go_ret
    exact ⟨a, rfl, HU.out⟩
  · have e1 : ((a : Int) == (b : Int)) = false := by simp; omega
    by_cases h2 : b = 0
    · subst h2
      have e3 : ((a : Int) == 0) = false := by simp; omega
      have HU : Hid _ := up_same (c := c) hS hw (tru_zero_r hw ha)
      clear hS hw ha hb h h1
      go_enter Yba.func6, Yba.ntmps6
      go_wp2
      go_ret
      exact ⟨a, rfl, HU.out⟩
    · have h3 : a = 0 := by omega
      subst h3
      have e2 : ((b : Int) == 0) = false := by simp; omega
      have e3 : ((0 : Int) == (b : Int)) = false := by simp; omega
      have HU : Hid _ := up_same (c := c) hS hw (tru_zero_l hw hb)
      clear hS hw ha hb h h1 h2
      go_enter Yba.func6, Yba.ntmps6
      go_wp2
      go_ret
      exact ⟨b, rfl, HU.out⟩
set_option maxRecDepth 100000 in
set_option maxHeartbeats 1000000 in
theorem union_main (k f : Nat) (IH : UC k f) (tg : Nat → Nat) (w : World) (d : Nat) (N : List Nd) (S : List Ed) (a b : Nat) (hS : St tg w d N S) (hw : Wf N) (ha : a < N.length) (hb : b < N.length) (a0 : 0 < a) (b0 : 0 < b) (hne : a ≠ b) (hf : 3 ≤ f + 1 + min (lev N a) (lev N b)) (hk : Kd N k (f + 1) a b) (hc1 : N.length + cost k (f + 1) ≤ 65000) (hc2 : esum N + 4 * cost k (f + 1) ≤ 65536) (hSl : S.length + 8 * (f + 1) ≤ 1000) :
    Calls Yba.prog 6 #[.pointer (some ⟨d, 0, none⟩), .int .u32 (a : Int), .int .u32 (b : Int)] w fun e w' => ∃ r, e = .returned (.int .u32 ((r : Nat) : Int)) ∧ UP tg w w' d N S (cost k (f + 1)) a b r := by
  have e1 : ((a : Int) == (b : Int)) = false := by simp; omega
  have e2 : ((b : Int) == 0) = false := by simp; omega
  have e3 : ((a : Int) == 0) = false := by simp; omega
  have HS : Hid _ := hS
  have HW : Hid _ := hw
  have HK : Hid _ := hk
  have HIH : Hid _ := IH
  have HA : Hid (a < N.length ∧ b < N.length ∧ 0 < a ∧ 0 < b ∧ a ≠ b ∧ 3 ≤ f + 1 + min (lev N a) (lev N b) ∧ N.length + cost k (f + 1) ≤ 65000 ∧ esum N + 4 * cost k (f + 1) ≤ 65536 ∧ S.length + 8 * (f + 1) ≤ 1000) := ⟨ha, hb, a0, b0, hne, hf, hc1, hc2, hSl⟩
  clear hS hw hk IH ha hb a0 b0 hf hc1 hc2 hSl
  go_enter Yba.func6, Yba.ntmps6
  go_upto_if 30 with fail
  go_cut [1, 2] from 31 to 32 (fun v1 v2 wx => ∃ x y : Nat, v1 = .int .u32 (x : Int) ∧ v2 = .int .u32 (y : Int) ∧ wx = w ∧ ((x = a ∧ y = b) ∨ (x = b ∧ y = a)))
  case first =>
    by_cases hab : b < a
    · have h1 : decide ((b : Int) < (a : Int)) = true := by simp; omega
      go_wp2
      go_meet
      case rel => exact ⟨b, a, rfl, rfl, rfl, .inr ⟨rfl, rfl⟩⟩
    · have h1 : decide ((b : Int) < (a : Int)) = false := by simp; omega
      go_wp2
      go_meet
      case rel => exact ⟨a, b, rfl, rfl, rfl, .inl ⟨rfl, rfl⟩⟩
  case rest =>
    obtain ⟨x, y, rfl, rfl, rfl, hxy⟩ := hcut
    obtain ⟨w0, hw0⟩ : ∃ z, z = wc := ⟨_, rfl⟩
    subst hw0
    obtain ⟨A1, A2, A3, A4, A5, A6, A7, A8, A9⟩ := HA.out
    have hH : x < N.length ∧ y < N.length ∧ 0 < x ∧ 0 < y ∧ x ≠ y ∧ 3 ≤ f + 1 + min (lev N x) (lev N y) ∧ Kd N k (f + 1) x y := by
      rcases hxy with ⟨rfl, rfl⟩ | ⟨rfl, rfl⟩
      · exact ⟨A1, A2, A3, A4, A5, A6, HK.out⟩
      · exact ⟨A2, A1, A4, A3, Ne.symm A5, by omega, Kd.symm HK.out⟩
    have hUP : ∀ (w' : World) r, UP tg w0 w' d N S (cost k (f + 1)) x y r → UP tg w0 w' d N S (cost k (f + 1)) a b r := by
      rintro w' r ⟨tg', N', u1, u2, u3, u4, u5, u6, u7⟩
      refine ⟨tg', N', u1, u2, u3, ?_, u5, u6, u7⟩
      rcases hxy with ⟨rfl, rfl⟩ | ⟨rfl, rfl⟩
      · exact u4
      · exact u4.swap
    have HUP : Hid _ := hUP
    have HHH : Hid _ := hH
    clear hxy hUP hH A1 A2 A3 A4 A5 A6 HK hne e1 e2 e3 HA
    obtain ⟨C, hC⟩ := HS.out
    obtain ⟨cb, fc, hc⟩ := hC.cache
    have hcb : cb = d - 1 := by
      have h1 := hc.c
      rw [hC.cat] at h1
      simp at h1
      exact h1.symm
    have HCb : Hid _ := hcb
    have HCA : Hid _ := hc
    have HC : Hid _ := hC
    obtain ⟨H1, H2, H3, H4, H5, H6, H7⟩ := HHH.out
    have hcached := cached_any w0 d cb 1 x y (by rw [(hC.row 1030 (by omega)).1, hc.c]) (by omega) (by omega) (by omega) (fun k hk => by
      obtain ⟨op, a', b', r, f1, f2, f3, f4, _⟩ := hc.val k hk
      exact ⟨op, a', b', r, by rw [(hc.row (k * 4) (by omega)).1, f1], by rw [(hc.row (k * 4 + 1) (by omega)).1, f2], by rw [(hc.row (k * 4 + 2) (by omega)).1, f3], by rw [(hc.row (k * 4 + 3) (by omega)).1, f4]⟩)
    have HCd : Hid _ := hcached
    clear hC hc hcached hcb H1 H2 H3 H4 H5 H6 H7
    go_wp2_with fail
    refine Calls.mono HCd.out ?_
    rintro e w1 ⟨kk, op, x', y', r, hkk, g1, g2, g3, g4, rfl, M, rfl⟩
    dsimp only
    have G : Hid (w0.cell? ⟨cb, kk * 4, none⟩ = some (.int .u32 (op : Int)) ∧ w0.cell? ⟨cb, kk * 4 + 1, none⟩ = some (.int .u32 (x' : Int)) ∧ w0.cell? ⟨cb, kk * 4 + 2, none⟩ = some (.int .u32 (y' : Int)) ∧ w0.cell? ⟨cb, kk * 4 + 3, none⟩ = some (.int .u32 (r : Int))) := ⟨g1, g2, g3, g4⟩
    clear g1 g2 g3 g4 HCd
    by_cases hhit : op = 1 ∧ x' = x ∧ y' = y
    · have hdd : decide (op = 1 ∧ x' = x ∧ y' = y) = true := by simpa using hhit
      have HHit : Hid _ := hhit
      clear hhit
      generalize decide (op = 1 ∧ x' = x ∧ y' = y) = dd at *
      subst hdd
      go_wp2
      go_ret
      obtain ⟨rfl, rfl, rfl⟩ := HHit.out
      obtain ⟨op2, a2, b2, r2, f1, f2, f3, f4, _, _, _, _, f5⟩ := HCA.out.val kk hkk
      obtain ⟨g1, g2, g3, g4⟩ := G.out
      rw [(HCA.out.row (kk * 4) (by omega)).1, f1] at g1
      rw [(HCA.out.row (kk * 4 + 1) (by omega)).1, f2] at g2
      rw [(HCA.out.row (kk * 4 + 2) (by omega)).1, f3] at g3
      rw [(HCA.out.row (kk * 4 + 3) (by omega)).1, f4] at g4
      simp at g1 g2 g3 g4
      refine ⟨r, rfl, HUP.out _ _ ⟨tg, N, ⟨C, HC.out.jk ((Jk.refl _).drewN M)⟩, HW.out, List.prefix_refl _, ?_, by omega, by omega, ((Jk.refl _).drewN M).fr _ tg⟩⟩
      have : op2 = 1 := by omega
      have : a2 = x' := by omega
      have : b2 = y' := by omega
      have : r2 = r := by omega
      subst op2 a2 b2 r2
      rcases f5 with h | h
      · omega
      · exact h
    · have hdd : decide (op = 1 ∧ x' = x ∧ y' = y) = false := by simpa using hhit
      clear hhit
      generalize decide (op = 1 ∧ x' = x ∧ y' = y) = dd at *
      subst hdd
      have hJd : Jk w0 (w0.drewN M) := (Jk.refl _).drewN M
      have HJd : Hid _ := hJd
      clear hJd
      generalize w0.drewN M = wd at *
      have hCd := HC.out.jk HJd.out
      obtain ⟨nO, nC, c0, gN, hN, vN⟩ := hCd.nodes
      obtain ⟨H1, H2, H3, H4, H5, H6, H7⟩ := HHH.out
      have hnx := vN.at hCd.row (by omega) H1
      have hny := vN.at hCd.row (by omega) H2
      have HLx : Hid _ := level_any wd d nO nC N.length c0 x (lev N x) hnx.h0 hnx.h2 H1 (by omega) hnx.x0
      have HLy : Hid _ := level_any wd d nO nC N.length c0 y (lev N y) hny.h0 hny.h2 H2 (by omega) hny.x0
      have htop := hCd.top
      have kst := htop.cell
      obtain ⟨capS, fS, hslS, hfS⟩ := htop.sl
      obtain ⟨aoS, bS, hvS, _, _⟩ := hslS.is
      rw [hvS] at kst
      have HCd2 : Hid _ := hCd
      have HVS : Hid _ := hvS
      clear hCd vN hnx hny htop hslS hfS hvS H1 H2 H3 H4 H5 H6 H7
      generalize hlx : lev N x = lx at *
      generalize hly : lev N y = ly at *
      go_wp2_with fail
      refine Calls.mono HLx.out ?_
      rintro e w2 ⟨rfl, rfl⟩
      dsimp only
      go_wp2_with fail
      refine Calls.mono HLy.out ?_
      rintro e w2 ⟨rfl, rfl⟩
      dsimp only
      go_upto_if 59 with fail
      obtain ⟨l, hl⟩ : ∃ l, l = min lx ly := ⟨_, rfl⟩
      have hmin : (if ly < lx then (ly : Int) else (lx : Int)) = (l : Int) := by
        rw [hl]
        split
        · rw [Nat.min_eq_right (by omega)]
        · rw [Nat.min_eq_left (by omega)]
      rw [hmin]
      clear hmin
      have hxX := HHH.out.1
      have hxY := HHH.out.2.1
      have HES : Hid (esum N ≤ 65536) := by
        have : esum N ≤ 65536 := by omega
        exact this
      have HWf : Hid _ := HW.out
      have HLVX : Hid (lev N x = lx) := hlx
      have HLVY : Hid (lev N y = ly) := hly
      obtain ⟨hBP, hl2⟩ := union_pre (l := l) HW.out hxX hxY HHH.out.2.2.1 HHH.out.2.2.2.1 HHH.out.2.2.2.2.1 (by rw [hlx, hly]; exact hl) (by have := HHH.out.2.2.2.2.2.1; omega) HHH.out.2.2.2.2.2.2
      have HBP : Hid _ := hBP
      have HNEX : Hid (lx = l → 0 < (edg N x).length) := by
        intro h
        rcases HW.out.lev_term hxX with ⟨q1, q2⟩ | ⟨q1, q2⟩
        · exact List.length_pos_iff.2 (HW.out.ok x q1 hxX).ne
        · rw [hlx] at q2; unfold TT at q2; omega
      have HNEY : Hid (ly = l → 0 < (edg N y).length) := by
        intro h
        rcases HW.out.lev_term hxY with ⟨q1, q2⟩ | ⟨q1, q2⟩
        · exact List.length_pos_iff.2 (HW.out.ok y q1 hxY).ne
        · rw [hly] at q2; unfold TT at q2; omega
      have HLL : Hid _ := hl
      clear hl hBP hlx hly
      have HLEX : Hid (S.length ≤ 2000) := by
        have : S.length ≤ 2000 := by omega
        exact this
      go_cut [] from 59 to 81 (fun wx => PushP tg wd wx d N (S) (sideE N l x))
      case first =>
        have htop := HCd2.out.top
        obtain ⟨capT, fT, hslT, hfT⟩ := htop.sl
        rw [HVS.out] at hslT
        have HFT : Hid _ := hfT
        have HTd : Hid _ := htop.t
        have HFz : Hid _ := htop.froz
        have HSl : Hid (∀ W, Jk wd W → Sl tg W 3 2 (.slice aoS (S).length capS) (S).length capT fT) := fun W hJ => hslT.fr (hJ.fr (fun _ => False) _) (fun h => h)
        clear htop hslT hfT
        by_cases hxl : lx = l
        · have hbb : ((lx : Int) == (l : Int)) = true := by simp [hxl]
          obtain ⟨eb, eo, hEA, htE, hCE⟩ := store_edges_of tg wd d _ N _ x HCd2.out (by omega) HES.out hxX (HNEX.out hxl)
          have HEd : Hid _ := hCE
          have HSrc : Hid (∀ W, Jk wd W → Src Yba.prog 2 63 (.slice (some ⟨eb, eo, none⟩) (edg N x).length (edg N x).length) (edg N x).length (edCells (edg N x)) W) := fun W hJ => src_ed (hJ.edAt hEA)
          have hel4 := HWf.out.edg_len hxX
          have HELX : Hid (0 < (edg N x).length) := HNEX.out hxl
          have hside : Hid (sideE N l x = edg N x) := if_pos (by rw [HLVX.out]; exact hxl)
          clear hCE hEA hxl
          generalize hED : edg N x = EE at *
          go_wp2_with fail
          go_region_law (first
            | (refine step_call19 (by rfl) (.tmp 65) (.tmp 66) _ (by rfl) (.pointer (some ⟨d, 0, none⟩)) (.int .u32 (x : Int)) (by simp [Act.eval, Act.put]) (by simp [Act.eval, Act.put]) ?_; refine Calls.mono (HEd.out _ (by repeat (first | exact Jk.refl _ | apply Jk.drew | apply Jk.drewN))) ?_; rintro e9 w9 ⟨rfl, M9, rfl⟩; refine ⟨_, rfl, ?_⟩)
            | (refine step_app (by rfl) (.tmp 64) (.tmp 67) 63 80 2 elem63 (by omega) (by rfl) (HSl.out _ (by repeat (first | exact Jk.refl _ | apply Jk.drew | apply Jk.drewN))) _ _ _ (HSrc.out _ (by repeat (first | exact Jk.refl _ | apply Jk.drew | apply Jk.drewN))) (by simp [Act.eval, Act.put]) (by simp [Act.eval, Act.put]) (by have := HLEX.out; omega) ?_; intro v' wA tg' cap' f' hA hold hnew hFr hcap; obtain ⟨gb, rfl, hgl, hgt, hgr⟩ := hA.pos (by have := HELX.out; omega); have c1 : wA.cell? ⟨d, 1031, none⟩ = some (.slice aoS (S).length capS) := (hFr.cell (World.block_lt_of_cell? _ _ kst) (by have := HTd.out; show ¬ tg d = 3; omega)).trans kst; have c2 : wA.frozen? ⟨d, 1031, none⟩ = false := (hFr.frozen (World.block_lt_of_cell? _ _ kst) (by have := HTd.out; show ¬ tg d = 3; omega)).trans HFz.out; have HA9 : Hid _ := hA; have HO9 : Hid _ := hold; have HN9 : Hid _ := hnew; have HF9 : Hid _ := hFr; clear hA hold hnew hFr hgr hcap))
          all_goals (go_wp2_with fail; go_meet)
          all_goals (rw [hside.out]; exact push_rel HCd2.out (by repeat (first | exact Jk.refl _ | apply Jk.drew | apply Jk.drewN)) HFT.out HA9.out HO9.out HN9.out HF9.out)
        · have hbb : ((lx : Int) == (l : Int)) = false := by simp; omega
          have hside : Hid (sideE N l x = [(0, x)]) := if_neg (by rw [HLVX.out]; exact hxl)
          obtain ⟨v', wA, tg', cap', f', hrun, hA, hold, hnew, hFr, _, _⟩ := (HSl.out (wd.alloc (.cells #[.int .u32 ((0 : Nat) : Int), .int .u32 (x : Int)] 80)) ((Jk.refl _).alloc _)).append elem63 63 (by omega) _ _ _ (src_ed (c := 1) (edAt_new wd 0 x 80)) (by have := HLEX.out; simp; omega)
          obtain ⟨gb, rfl, hgl, hgt, hgr⟩ := hA.pos (by simp)
          have c1 : wA.cell? ⟨d, 1031, none⟩ = some (.slice aoS (S).length capS) := (hFr.cell (World.block_lt_of_cell? _ _ (cellA kst _)) (by have := HTd.out; show ¬ tg d = 3; omega)).trans (cellA kst _)
          have c2 : wA.frozen? ⟨d, 1031, none⟩ = false := (hFr.frozen (World.block_lt_of_cell? _ _ (cellA kst _)) (by have := HTd.out; show ¬ tg d = 3; omega)).trans (frozA (World.block_lt_of_cell? _ _ kst) HFz.out _)
          have HRun : Hid ((Builtin.append_ #[63, 63] 63 #[.slice aoS (S).length capS, .slice (some ⟨wd.heap.size, 0, none⟩) 1 1]).run Yba.prog (wd.alloc (.cells #[.int .u32 0, .int .u32 (x : Int)] 80)) = .ok (.slice (some ⟨gb, 0, none⟩) ((S).length + 1) cap') wA) := hrun
          have HA9 : Hid _ := hA
          have HO9 : Hid _ := hold
          have HN9 : Hid _ := hnew
          have HF9 : Hid _ := hFr
          clear hrun hA hold hnew hFr hgr hxl
          go_wp2_with (at_builtin; refine wpList_app63 rfl (.tmp 75) (.tmp 78) rfl rfl rfl HRun.out ?_)
          go_meet
          case rel =>
            rw [hside.out]
            exact push_rel HCd2.out ((Jk.refl _).alloc _) HFT.out HA9.out HO9.out HN9.out HF9.out
      case rest =>
        obtain ⟨tg1, C1, hC1, hF1⟩ := hcut
        obtain ⟨S1, hS1⟩ : ∃ S1, S1 = S ++ sideE N l x := ⟨_, rfl⟩
        rw [← hS1] at hC1
        obtain ⟨wc1, hwc1⟩ : ∃ z, z = wc := ⟨_, rfl⟩
        subst hwc1
        have htop := hC1.top
        have kst1 := htop.cell
        obtain ⟨cap1, f1, hsl1, hf1⟩ := htop.sl
        obtain ⟨ao1, b1, hv1, _, _⟩ := hsl1.is
        rw [hv1] at kst1
        have HVS1 : Hid _ := hv1
        have HC1 : Hid _ := hC1
        have HF1 : Hid _ := hF1
        have HS1 : Hid _ := hS1
        have HLEY : Hid (S1.length ≤ 2000) := by
          have h1 := (side_of HW.out hxX HHH.out.2.2.1 hl2 (by have := HLL.out; have := HLVX.out; omega)).len
          have : S1.length ≤ 2000 := by rw [hS1]; simp; omega
          exact this
        clear htop hsl1 hf1 hv1 hC1 hF1 kst hS1
        go_upto_if 84 with fail
        go_cut [] from 84 to 106 (fun wx => PushP tg1 wc1 wx d N (S1) (sideE N l y))
        case first =>
          have htop := HC1.out.top
          obtain ⟨capT, fT, hslT, hfT⟩ := htop.sl
          rw [HVS1.out] at hslT
          have HFT : Hid _ := hfT
          have HTd : Hid _ := htop.t
          have HFz : Hid _ := htop.froz
          have HSl : Hid (∀ W, Jk wc1 W → Sl tg1 W 3 2 (.slice ao1 (S1).length cap1) (S1).length capT fT) := fun W hJ => hslT.fr (hJ.fr (fun _ => False) _) (fun h => h)
          clear htop hslT hfT
          by_cases hxl : ly = l
          · have hbb : ((ly : Int) == (l : Int)) = true := by simp [hxl]
            obtain ⟨eb, eo, hEA, htE, hCE⟩ := store_edges_of tg1 wc1 d _ N _ y HC1.out (by omega) HES.out hxY (HNEY.out hxl)
            have HEd : Hid _ := hCE
            have HSrc : Hid (∀ W, Jk wc1 W → Src Yba.prog 2 63 (.slice (some ⟨eb, eo, none⟩) (edg N y).length (edg N y).length) (edg N y).length (edCells (edg N y)) W) := fun W hJ => src_ed (hJ.edAt hEA)
            have hel4 := HWf.out.edg_len hxY
            have HELY : Hid (0 < (edg N y).length) := HNEY.out hxl
            have hside : Hid (sideE N l y = edg N y) := if_pos (by rw [HLVY.out]; exact hxl)
            clear hCE hEA hxl
            generalize hED : edg N y = EE at *
            go_wp2_with fail
            go_region_law (first
              | (refine step_call19 (by rfl) (.tmp 90) (.tmp 91) _ (by rfl) (.pointer (some ⟨d, 0, none⟩)) (.int .u32 (y : Int)) (by simp [Act.eval, Act.put]) (by simp [Act.eval, Act.put]) ?_; refine Calls.mono (HEd.out _ (by repeat (first | exact Jk.refl _ | apply Jk.drew | apply Jk.drewN))) ?_; rintro e9 w9 ⟨rfl, M9, rfl⟩; refine ⟨_, rfl, ?_⟩)
              | (refine step_app (by rfl) (.tmp 89) (.tmp 92) 63 80 2 elem63 (by omega) (by rfl) (HSl.out _ (by repeat (first | exact Jk.refl _ | apply Jk.drew | apply Jk.drewN))) _ _ _ (HSrc.out _ (by repeat (first | exact Jk.refl _ | apply Jk.drew | apply Jk.drewN))) (by simp [Act.eval, Act.put]) (by simp [Act.eval, Act.put]) (by have := HLEY.out; omega) ?_; intro v' wA tg' cap' f' hA hold hnew hFr hcap; obtain ⟨gb, rfl, hgl, hgt, hgr⟩ := hA.pos (by have := HELY.out; omega); have c1 : wA.cell? ⟨d, 1031, none⟩ = some (.slice ao1 (S1).length cap1) := (hFr.cell (World.block_lt_of_cell? _ _ kst1) (by have := HTd.out; show ¬ tg1 d = 3; omega)).trans kst1; have c2 : wA.frozen? ⟨d, 1031, none⟩ = false := (hFr.frozen (World.block_lt_of_cell? _ _ kst1) (by have := HTd.out; show ¬ tg1 d = 3; omega)).trans HFz.out; have HA9 : Hid _ := hA; have HO9 : Hid _ := hold; have HN9 : Hid _ := hnew; have HF9 : Hid _ := hFr; clear hA hold hnew hFr hgr hcap))
            all_goals (go_wp2_with fail; go_meet)
            all_goals (rw [hside.out]; exact push_rel HC1.out (by repeat (first | exact Jk.refl _ | apply Jk.drew | apply Jk.drewN)) HFT.out HA9.out HO9.out HN9.out HF9.out)
          · have hbb : ((ly : Int) == (l : Int)) = false := by simp; omega
            have hside : Hid (sideE N l y = [(0, y)]) := if_neg (by rw [HLVY.out]; exact hxl)
            obtain ⟨v', wA, tg', cap', f', hrun, hA, hold, hnew, hFr, _, _⟩ := (HSl.out (wc1.alloc (.cells #[.int .u32 ((0 : Nat) : Int), .int .u32 (y : Int)] 80)) ((Jk.refl _).alloc _)).append elem63 63 (by omega) _ _ _ (src_ed (c := 1) (edAt_new wc1 0 y 80)) (by have := HLEY.out; simp; omega)
            obtain ⟨gb, rfl, hgl, hgt, hgr⟩ := hA.pos (by simp)
            have c1 : wA.cell? ⟨d, 1031, none⟩ = some (.slice ao1 (S1).length cap1) := (hFr.cell (World.block_lt_of_cell? _ _ (cellA kst1 _)) (by have := HTd.out; show ¬ tg1 d = 3; omega)).trans (cellA kst1 _)
            have c2 : wA.frozen? ⟨d, 1031, none⟩ = false := (hFr.frozen (World.block_lt_of_cell? _ _ (cellA kst1 _)) (by have := HTd.out; show ¬ tg1 d = 3; omega)).trans (frozA (World.block_lt_of_cell? _ _ kst1) HFz.out _)
            have HRun : Hid ((Builtin.append_ #[63, 63] 63 #[.slice ao1 (S1).length cap1, .slice (some ⟨wc1.heap.size, 0, none⟩) 1 1]).run Yba.prog (wc1.alloc (.cells #[.int .u32 0, .int .u32 (y : Int)] 80)) = .ok (.slice (some ⟨gb, 0, none⟩) ((S1).length + 1) cap') wA) := hrun
            have HA9 : Hid _ := hA
            have HO9 : Hid _ := hold
            have HN9 : Hid _ := hnew
            have HF9 : Hid _ := hFr
            clear hrun hA hold hnew hFr hgr hxl
            go_wp2_with (at_builtin; refine wpList_app63 rfl (.tmp 100) (.tmp 103) rfl rfl rfl HRun.out ?_)
            go_meet
            case rel =>
              rw [hside.out]
              exact push_rel HC1.out ((Jk.refl _).alloc _) HFT.out HA9.out HO9.out HN9.out HF9.out
        case rest =>
          obtain ⟨tg2, C2, hC2, hF2⟩ := hcut
          obtain ⟨wc2, hwc2⟩ : ∃ z, z = wc := ⟨_, rfl⟩
          subst hwc2
          have hst2 : St tg2 wc2 d N (S ++ (sideE N l x ++ sideE N l y)) := ⟨C2, by rw [← List.append_assoc, ← HS1.out]; exact hC2⟩
          have hsx := side_of HW.out hxX HHH.out.2.2.1 hl2 (by have := HLL.out; have := HLVX.out; omega)
          have hsy := side_of HW.out hxY HHH.out.2.2.2.1 hl2 (by have := HLL.out; have := HLVY.out; omega)
          have hbu := build_any k f HIH.out tg2 wc2 d N S (sideE N l x ++ sideE N l y) l hst2 HW.out HBP.out (by simp [hsx.ne]) (by have := hsx.len; have := hsy.len; simp; omega) A7 A8 (by omega)
          have HBu : Hid _ := hbu
          have HFT : Hid (Fr (fun r => r = 1 ∨ r = 3) tg w0 tg2 wc2) := ((HJd.out.fr _ tg).trans HF1.out).trans hF2
          have hend : ∀ w3 r, BP tg2 wc2 w3 d N S l (1 + k * cost k f) (sideE N l x ++ sideE N l y) r → (∃ v0 v1 v2 v3, w3.cell? ⟨cb, kk * 4, none⟩ = some v0 ∧ w3.cell? ⟨cb, kk * 4 + 1, none⟩ = some v1 ∧ w3.cell? ⟨cb, kk * 4 + 2, none⟩ = some v2 ∧ w3.cell? ⟨cb, kk * 4 + 3, none⟩ = some v3) ∧ (w3.frozen? ⟨cb, kk * 4, none⟩ = false ∧ w3.frozen? ⟨cb, kk * 4 + 1, none⟩ = false ∧ w3.frozen? ⟨cb, kk * 4 + 2, none⟩ = false ∧ w3.frozen? ⟨cb, kk * 4 + 3, none⟩ = false) ∧ UP tg w0 ((((w3.setCell ⟨cb, kk * 4, none⟩ (.int .u32 1)).setCell ⟨cb, kk * 4 + 1, none⟩ (.int .u32 (x : Int))).setCell ⟨cb, kk * 4 + 2, none⟩ (.int .u32 (y : Int))).setCell ⟨cb, kk * 4 + 3, none⟩ (.int .u32 (r : Int))) d N S (cost k (f + 1)) a b r := by
            rintro w3 r ⟨tg3, N3, ⟨C3, hC3⟩, hB, hF3⟩
            have hT := union_tru HW.out hxX hxY HHH.out.2.2.1 HHH.out.2.2.2.1 hl2 (by rw [HLVX.out, HLVY.out]; exact HLL.out) hB
            obtain ⟨cb3, f3, hc3⟩ := hC3.cache
            have hcb3 : cb3 = cb := by
              have h1 := hc3.c
              rw [hC3.cat] at h1
              simp at h1
              rw [← h1, HCb.out]
            subst hcb3
            have hN3 := hB.len
            have hcc : cost k (f + 1) = 1 + k * cost k f := rfl
            obtain ⟨e1, e2⟩ := hC3.entry hc3 hkk hT (by omega) (by omega)
            refine ⟨⟨_, _, _, _, (hc3.row (kk * 4) (by omega)).1, (hc3.row (kk * 4 + 1) (by omega)).1, (hc3.row (kk * 4 + 2) (by omega)).1, (hc3.row (kk * 4 + 3) (by omega)).1⟩, ⟨(hc3.row (kk * 4) (by omega)).2, (hc3.row (kk * 4 + 1) (by omega)).2, (hc3.row (kk * 4 + 2) (by omega)).2, (hc3.row (kk * 4 + 3) (by omega)).2⟩, HUP.out _ _ ⟨tg3, N3, ⟨C3, e1⟩, hB.wf, hB.ext, hT, hB.len, hB.es, ?_⟩⟩
            exact ((HFT.out.mono fun r h => by omega).trans hF3).trans (e2.mono fun r h => by omega)
          have HEnd : Hid _ := hend
          clear hend hbu hst2 hC2 hF2 hsx hsy
          go_wp2_with fail
          refine Calls.mono HBu.out ?_
          rintro e w3 ⟨r3, rfl, hBP3⟩
          dsimp only
          obtain ⟨⟨v0, v1, v2, v3, z0, z1, z2, z3⟩, ⟨y0, y1, y2, y3⟩, hfin⟩ := HEnd.out w3 r3 hBP3
          have HFin : Hid _ := hfin
          clear hfin hBP3
          go_wp2
          go_ret
          exact ⟨r3, rfl, HFin.out⟩
theorem union_all (k : Nat) (hk4 : k = 1 ∨ k = 4) : ∀ f, UC k f
  | 0 => by
    intro tg w d N S a b hS hw ha hb hf hk hc1 hc2 hSl
    refine union_early tg w d N S _ a b hS hw ha hb ?_
    have h1 : lev N a ≥ 3 := by omega
    have h2 : lev N b ≥ 3 := by omega
    rcases hw.lev_term ha with ⟨_, h⟩ | ⟨h3, _⟩
    · omega
    · rcases hw.lev_term hb with ⟨_, h⟩ | ⟨h4, _⟩
      · omega
      · omega
  | f + 1 => by
    intro tg w d N S a b hS hw ha hb hf hk hc1 hc2 hSl
    by_cases h : a = b ∨ a = 0 ∨ b = 0
    · exact union_early tg w d N S _ a b hS hw ha hb h
    · exact union_main k f (union_all k hk4 f) tg w d N S a b hS hw ha hb (by omega) (by omega) (by omega) hf hk hc1 hc2 hSl
end Go.Proofs.Ybulkakra

/-
  Diff of seat b1820a.
-/
import Derived.Test.YbulkakraGen
namespace Go.Proofs.Ybulkakra
open Go.RowKit
set_option linter.unusedSimpArgs false
set_option linter.unusedVariables false

theorem tru2_zero {N : List Nd} (hw : Wf N) {a b : Nat} (ha : a < N.length) (hb : b < N.length) (h : a = b ∨ a = 0) : Tru N 2 a b 0 := by
  refine ⟨ha, hb, by have := hw.two; omega, ?_, fun h => by omega, fun v l _ _ _ => ?_⟩
  · rw [lev_zero hw]
    rcases hw.lev_term ha with ⟨_, q⟩ | ⟨_, q⟩
    · unfold TT; omega
    · omega
  · unfold opS
    rcases h with rfl | rfl <;> simp [has_zero hw]
theorem tru2_same {N : List Nd} (hw : Wf N) {a : Nat} (ha : a < N.length) : Tru N 2 a 0 a := ⟨ha, by have := hw.two; omega, ha, Nat.min_le_left _ _, fun h => by omega, fun v l _ _ _ => by unfold opS; simp [has_zero hw]⟩
theorem diff_early (tg : Nat → Nat) (w : World) (d : Nat) (N : List Nd) (S : List Ed) (c a b : Nat) (hS : St tg w d N S) (hw : Wf N) (ha : a < N.length) (hb : b < N.length) (h : a = b ∨ a = 0 ∨ b = 0) :
    Calls Yba.prog 13 #[.pointer (some ⟨d, 0, none⟩), .int .u32 (a : Int), .int .u32 (b : Int)] w fun e w' => ∃ r, e = .returned (.int .u32 ((r : Nat) : Int)) ∧ GP 2 tg w w' d N S c a b r := by
  by_cases h1 : a = b
  · subst h1
    have HU : Hid _ := gp_same (c := c) hS hw (tru2_zero hw ha ha (.inl rfl))
    have e1 : ((a : Int) == (a : Int)) = true := by simp
    clear hS hw ha hb h
    go_enter Yba.func13, Yba.ntmps13
    go_wp2
    go_ret
    exact ⟨0, rfl, HU.out⟩
  · have e1 : ((a : Int) == (b : Int)) = false := by simp; omega
    by_cases h2 : a = 0
    · subst h2
      have HU : Hid _ := gp_same (c := c) hS hw (tru2_zero hw ha hb (.inr rfl))
      have e3 : ((0 : Int) == (b : Int)) = false := by simp; omega
      clear hS hw ha hb h h1
      go_enter Yba.func13, Yba.ntmps13
      go_wp2
      go_ret
      exact ⟨0, rfl, HU.out⟩
    · have h3 : b = 0 := by omega
      subst h3
      have HU : Hid _ := gp_same (c := c) hS hw (tru2_same hw ha)
      have e2 : ((a : Int) == 0) = false := by simp; omega
      clear hS hw ha hb h h1 h2
      go_enter Yba.func13, Yba.ntmps13
      go_wp2
      go_ret
      exact ⟨a, rfl, HU.out⟩
set_option maxRecDepth 100000 in
set_option maxHeartbeats 1000000 in
theorem diff_main (f : Nat) (IH : GC 2 13 f) (tg : Nat → Nat) (w : World) (d e : Nat) (N : List Nd) (S : List Ed) (a b : Nat) (hS : St tg w d N S) (hp : tg (d + 1) = 1000 + e) (hw : Wf N) (ha : a < N.length) (hb : b < N.length) (a0 : 0 < a) (b0 : 0 < b) (hne : a ≠ b) (hf : 3 ≤ f + 1 + min (lev N a) (lev N b)) (hc1 : N.length + gc (f + 1) ≤ 65000) (hc2 : esum N + 4 * gc (f + 1) ≤ 65536) (hSl : S.length + 8 * (f + 1) ≤ 1000) :
    Calls Yba.prog 13 #[.pointer (some ⟨d, 0, none⟩), .int .u32 (a : Int), .int .u32 (b : Int)] w fun e w' => ∃ r, e = .returned (.int .u32 ((r : Nat) : Int)) ∧ GP 2 tg w w' d N S (gc (f + 1)) a b r := by
  have e1 : ((a : Int) == (b : Int)) = false := by simp; omega
  have e2 : ((b : Int) == 0) = false := by simp; omega
  have e3 : ((a : Int) == 0) = false := by simp; omega
  have HS : Hid _ := hS
  have HW : Hid _ := hw
  have HIH : Hid _ := IH
  have HA : Hid (a < N.length ∧ b < N.length ∧ 0 < a ∧ 0 < b ∧ a ≠ b ∧ 3 ≤ f + 1 + min (lev N a) (lev N b) ∧ N.length + gc (f + 1) ≤ 65000 ∧ esum N + 4 * gc (f + 1) ≤ 65536 ∧ S.length + 8 * (f + 1) ≤ 1000) := ⟨ha, hb, a0, b0, hne, hf, hc1, hc2, hSl⟩
  have HP : Hid _ := hp
  clear hS hw IH ha hb a0 b0 hf hc1 hc2 hSl hp
  go_enter Yba.func13, Yba.ntmps13
  obtain ⟨w0, hw0⟩ : ∃ z, z = w := ⟨_, rfl⟩
  subst hw0
  obtain ⟨x, hx0⟩ : ∃ z, z = a := ⟨_, rfl⟩
  obtain ⟨y, hy0⟩ : ∃ z, z = b := ⟨_, rfl⟩
  subst hx0 hy0
  obtain ⟨A1, A2, A3, A4, A5, A6, A7, A8, A9⟩ := HA.out
  have HHH : Hid (x < N.length ∧ y < N.length ∧ 0 < x ∧ 0 < y ∧ x ≠ y ∧ 3 ≤ f + 1 + min (lev N x) (lev N y)) := ⟨A1, A2, A3, A4, A5, A6⟩
  have HUP : Hid (∀ (w' : World) r, GP 2 tg w0 w' d N S (gc (f + 1)) x y r → GP 2 tg w0 w' d N S (gc (f + 1)) x y r) := fun _ _ h => h
  clear A1 A2 A3 A4 A5 A6 hne HA
  obtain ⟨C, hC⟩ := HS.out
  obtain ⟨cb, fc, hc⟩ := hC.cache
  have hcb : cb = d - 1 := by
    have h1 := hc.c
    rw [hC.cat] at h1
    simp at h1
    exact h1.symm
  have HCb : Hid _ := hcb
  have HCA : Hid _ := hc
  have HC : Hid _ := hC
  obtain ⟨H1, H2, H3, H4, H5, H6⟩ := HHH.out
  have hcached := cached_any w0 d cb 2 x y (by rw [(hC.row 1030 (by omega)).1, hc.c]) (by omega) (by omega) (by omega) (fun k hk => by
    obtain ⟨op, a', b', r, f1, f2, f3, f4, _⟩ := hc.val k hk
    exact ⟨op, a', b', r, by rw [(hc.row (k * 4) (by omega)).1, f1], by rw [(hc.row (k * 4 + 1) (by omega)).1, f2], by rw [(hc.row (k * 4 + 2) (by omega)).1, f3], by rw [(hc.row (k * 4 + 3) (by omega)).1, f4]⟩)
  have HCd : Hid _ := hcached
  clear hC hc hcached hcb H1 H2 H3 H4 H5 H6
  go_wp2_with fail
  refine Calls.mono HCd.out ?_
  rintro e0 w1 ⟨kk, op, x', y', r, hkk, g1, g2, g3, g4, rfl, M, rfl⟩
  dsimp only
  have G : Hid (w0.cell? ⟨cb, kk * 4, none⟩ = some (.int .u32 (op : Int)) ∧ w0.cell? ⟨cb, kk * 4 + 1, none⟩ = some (.int .u32 (x' : Int)) ∧ w0.cell? ⟨cb, kk * 4 + 2, none⟩ = some (.int .u32 (y' : Int)) ∧ w0.cell? ⟨cb, kk * 4 + 3, none⟩ = some (.int .u32 (r : Int))) := ⟨g1, g2, g3, g4⟩
  clear g1 g2 g3 g4 HCd
  by_cases hhit : op = 2 ∧ x' = x ∧ y' = y
  · have hdd : decide (op = 2 ∧ x' = x ∧ y' = y) = true := by simpa using hhit
    have HHit : Hid _ := hhit
    clear hhit
    generalize decide (op = 2 ∧ x' = x ∧ y' = y) = dd at *
    subst hdd
    go_wp2
    go_ret
    obtain ⟨rfl, rfl, rfl⟩ := HHit.out
    obtain ⟨g1, g2, g3, g4⟩ := G.out
    exact ⟨r, rfl, HUP.out _ _ (g_hit (by omega) HC.out HW.out HCA.out hkk g1 g2 g3 g4)⟩
  · have hdd : decide (op = 2 ∧ x' = x ∧ y' = y) = false := by simpa using hhit
    clear hhit
    generalize decide (op = 2 ∧ x' = x ∧ y' = y) = dd at *
    subst hdd
    have hJd : Jk w0 (w0.drewN M) := (Jk.refl _).drewN M
    have HJd : Hid _ := hJd
    clear hJd
    generalize w0.drewN M = wd at *
    have hCd := HC.out.jk HJd.out
    obtain ⟨xw, hxw⟩ := hCd.work
    have HLk : Hid _ := look_any wd d xw (by rw [(hCd.row 1034 (by omega)).1, hxw]) (hCd.row 1034 (by omega)).2 (by rw [(hCd.row 1033 (by omega)).1, hCd.stop])
    have HCl : Hid (∃ Cl, StC tg (wd.setCell ⟨d, 1034, none⟩ (.int .u64 (IntKind.u64.wrap (xw + 1)))) d Cl N S) := ⟨_, hCd.looked _⟩
    have HFl : Hid (Fr (fun r => 1 ≤ r) tg w0 tg (wd.setCell ⟨d, 1034, none⟩ (.int .u64 (IntKind.u64.wrap (xw + 1))))) := (HJd.out.fr _ tg).set (a := ⟨d, 1034, none⟩) (.inr (by show 1 ≤ tg d; rw [hCd.t]; omega)) _
    clear hCd
    go_wp2_with fail
    refine Calls.mono HLk.out ?_
    rintro e0 w1 ⟨rfl, rfl⟩
    dsimp only
    clear HLk
    generalize wd.setCell ⟨d, 1034, none⟩ (.int .u64 (IntKind.u64.wrap (xw + 1))) = wl at *
    obtain ⟨Cl, hCl⟩ := HCl.out
    obtain ⟨nO, nC, c0, gN, hN, vN⟩ := hCl.nodes
    obtain ⟨H1, H2, H3, H4, H5, H6⟩ := HHH.out
    have hnx := vN.at hCl.row (by omega) H1
    have hny := vN.at hCl.row (by omega) H2
    have HLx : Hid _ := level_any wl d nO nC N.length c0 x (lev N x) hnx.h0 hnx.h2 H1 (by omega) hnx.x0
    have HLy : Hid _ := level_any wl d nO nC N.length c0 y (lev N y) hny.h0 hny.h2 H2 (by omega) hny.x0
    have hpl : d + 1 < wl.heap.size := hCl.pin.1
    have HCl2 : Hid _ := hCl
    have htop := hCl.top
    have kst := htop.cell
    obtain ⟨capS, fS, hslS, hfS⟩ := htop.sl
    obtain ⟨aoS, bS, hvS, _, _⟩ := hslS.is
    rw [hvS] at kst
    have HPL : Hid _ := hpl
    have hgc : gc (f + 1) = 4 * gc f + 1 := rfl
    have hend : ∀ w3 r, GP 2 tg wl w3 d N S (4 * gc f + 1) x y r → (∃ v0 v1 v2 v3, w3.cell? ⟨cb, kk * 4, none⟩ = some v0 ∧ w3.cell? ⟨cb, kk * 4 + 1, none⟩ = some v1 ∧ w3.cell? ⟨cb, kk * 4 + 2, none⟩ = some v2 ∧ w3.cell? ⟨cb, kk * 4 + 3, none⟩ = some v3) ∧ (w3.frozen? ⟨cb, kk * 4, none⟩ = false ∧ w3.frozen? ⟨cb, kk * 4 + 1, none⟩ = false ∧ w3.frozen? ⟨cb, kk * 4 + 2, none⟩ = false ∧ w3.frozen? ⟨cb, kk * 4 + 3, none⟩ = false) ∧ GP 2 tg w0 ((((w3.setCell ⟨cb, kk * 4, none⟩ (.int .u32 2)).setCell ⟨cb, kk * 4 + 1, none⟩ (.int .u32 (x : Int))).setCell ⟨cb, kk * 4 + 2, none⟩ (.int .u32 (y : Int))).setCell ⟨cb, kk * 4 + 3, none⟩ (.int .u32 (r : Int))) d N S (gc (f + 1)) x y r := by
      intro w3 r h
      obtain ⟨q1, q2, q3⟩ := g_tail (op := 2) (by omega) HCb.out hkk (by omega) (h.from HFl.out)
      exact ⟨q1, q2, HUP.out _ _ q3⟩
    have HEnd : Hid _ := hend
    have HPar : Hid (N.length + (4 * gc f + 1) ≤ 65000 ∧ esum N + 4 * (4 * gc f + 1) ≤ 65536 ∧ S.length + 8 * (f + 1) ≤ 1000) := ⟨by omega, by omega, A9⟩
    have HX : Hid (x < N.length ∧ y < N.length ∧ 0 < x ∧ 0 < y) := ⟨H1, H2, H3, H4⟩
    clear vN hnx hny hend HCl hCl htop hslS hfS hvS hpl HFl HCb HUP HC HCA HJd G H1 H2 H3 H4 H5 hgc A7 A8 A9
    generalize hlx : lev N x = lx at *
    generalize hly : lev N y = ly at *
    have HLVX : Hid _ := hlx
    have HLVY : Hid _ := hly
    clear hlx hly
    go_wp2_with fail
    refine Calls.mono HLx.out ?_
    rintro e0 w2 ⟨rfl, rfl⟩
    dsimp only
    go_wp2_with fail
    refine Calls.mono HLy.out ?_
    rintro e0 w2 ⟨rfl, rfl⟩
    dsimp only
    clear HLx HLy
    by_cases hlt : ly < lx
    · have hcd2 : ly < lx := hlt
      obtain ⟨X1, X2, X3, X4⟩ := HX.out
      have hl2 : ly ≤ 2 := by
        have q1 := HLVX.out
        have q2 := HLVY.out
        rcases HW.out.lev_term X2 with ⟨_, q⟩ | ⟨_, q⟩
        · omega
        · rcases HW.out.lev_term X1 with ⟨_, p⟩ | ⟨_, p⟩ <;> omega
      have HBel : Hid (Calls Yba.prog 25 #[.pointer (some ⟨d, 0, none⟩), .int .u32 (y : Int), .int .u32 (ly : Int), .int .u32 0] wl fun e w' => ∃ t, e = .returned (.int .u32 ((t : Nat) : Int)) ∧ Blw N y ly 0 t ∧ Jk wl w') := below_any tg wl d y ly 0 Cl N S HCl2.out HW.out X2 hl2 (by have := HLVY.out; omega) (by have := HPar.out; omega) (by have := HPar.out; omega)
      have HLO : Hid (ly < lx ∧ ly ≤ 2) := ⟨hlt, hl2⟩
      clear X1 X2 X3 X4 hl2 hlt
      go_wp2_with fail
      refine Calls.mono HBel.out ?_
      rintro e0 w1 ⟨t, rfl, hB, hJ⟩
      dsimp only
      obtain ⟨X1, X2, X3, X4⟩ := HX.out
      obtain ⟨P1, P2, P3⟩ := HPar.out
      have HRec : Hid _ := HIH.out tg w1 d e N S x t ⟨Cl, HCl2.out.jk hJ⟩ HP.out HW.out X1 hB.1 (by have q1 := HLO.out; have q2 := HLVX.out; have q3 := HLVY.out; have q4 := hB.2.1; omega) (by omega) (by omega) (by omega)
      have HK : Hid (∀ w2 r, GP 2 tg w1 w2 d N S (gc f) x t r → GP 2 tg wl w2 d N S (4 * gc f + 1) x y r) := fun w2 r h => (h.low (.inl rfl) HW.out X1 X2 HLO.out.2 (by rw [HLVX.out]; exact HLO.out.1) HLVY.out hB).from (hJ.fr _ tg)
      clear hB hJ X1 X2 X3 X4 P1 P2 P3 HBel
      go_wp2_with fail
      refine Calls.mono HRec.out ?_
      rintro e0 w2 ⟨r, rfl, hG⟩
      dsimp only
      obtain ⟨⟨v0, v1, v2, v3, z0, z1, z2, z3⟩, ⟨y0, y1, y2, y3⟩, hfin⟩ := HEnd.out _ _ (HK.out _ _ hG)
      have HFin : Hid _ := hfin
      clear hfin
      go_wp2
      go_ret
      exact ⟨_, rfl, HFin.out⟩
    · have hcd : ¬ ly < lx := hlt
      have hge : lx ≤ ly := by omega
      obtain ⟨X1, X2, X3, X4⟩ := HX.out
      obtain ⟨P1, P2, P3⟩ := HPar.out
      have hl2 : lx ≤ 2 := by
        have q1 := HLVX.out
        have q2 := HLVY.out
        rcases HW.out.lev_term X1 with ⟨_, q⟩ | ⟨_, q⟩
        · omega
        · rcases HW.out.lev_term X2 with ⟨_, p⟩ | ⟨p1, p2⟩
          · rw [q1] at q; rw [q2] at p; unfold TT at q; omega
          · exfalso
            have := HHH.out.2.2.2.2.1
            omega
      have hx2 := wf_two HW.out X1 hl2 HLVX.out
      have hne : 0 < (edg N x).length := List.length_pos_iff.2 (HW.out.ok x hx2 X1).ne
      have hlen := HW.out.edg_len X1
      have HEd : Hid _ := (store_edges_pin tg wl d e Cl N S x HCl2.out HP.out (by omega) (by omega) X1 hne).2.2 wl (Jk.refl _)
      have HNE : Hid _ := hne
      have HL2 : Hid _ := hl2
      obtain ⟨n, hn⟩ : ∃ n, n = (edg N x).length := ⟨_, rfl⟩
      rw [← hn] at HEd hlen
      have HN : Hid _ := hn
      clear X1 X2 X3 X4 P1 P2 P3 hl2 hx2 hne hn
      go_wp2_with fail
      refine Calls.mono HEd.out ?_
      rintro e0 w1 ⟨rfl, M1, rfl⟩
      dsimp only
      have HStart : Hid (GI 2 tg wl d N S x y lx (gc f) 0 tg (wl.drewN M1) N []) := GI.start (.inl rfl) HW.out ⟨Cl, HCl2.out⟩ ((Jk.refl _).drewN M1)
      clear HEd
      generalize wl.drewN M1 = ws at *
      go_wp2_with fail
      go_loopg [66] n (fun g t wr => ∃ i tgr Nr F, g = n - i ∧ t = .int .i64 ((i : Nat) : Int) ∧ GI 2 tg wl d N S x y lx (gc f) i tgr wr Nr F)
      case atStart => exact ⟨0, tg, N, [], rfl, rfl, HStart.out⟩
      case round =>
        obtain ⟨i, tgr, Nr, F, hgk, rfl, hG⟩ := hrel
        clear HStart
        by_cases hin : i < n
        · obtain ⟨X1, X2, X3, X4⟩ := HX.out
          obtain ⟨P1, P2, P3⟩ := HPar.out
          obtain ⟨S1, S2⟩ := hG.size 4 (by omega)
          have hEd := hG.edges HP.out HPL.out X1 HNE.out (by omega) (by omega)
          obtain ⟨x1, x2⟩ := hEd i (by rw [← HN.out]; exact hin)
          have hBel := fun v W hJ => hG.below X2 HL2.out (by have := HLVY.out; omega) (by omega) (by omega) (.cells #[.int .u32 (vE (edg N x) i : Int), .int .u32 (tE (edg N x) i : Int)] 80) v W hJ
          have hAg := fun s B W hJ => hG.again HIH.out (.inl rfl) HP.out HPL.out HW.out X1 X2 HL2.out HLVX.out (by rw [← HN.out]; exact hin) (by have q1 := HHH.out.2.2.2.2.2; have q2 := HLVX.out; omega) P1 P2 P3 _ _ rfl rfl s B W hJ
          have hfl := hG.flen
          have hiw : IntKind.i64.wrap ((i : Int) + 1) = ((i + 1 : Nat) : Int) := by rw [IntKind.wrap_i64]; omega
          have HBel : Hid _ := hBel
          have HAg : Hid _ := hAg
          have HSz : Hid (S.length ≤ 1000) := by
            have : S.length ≤ 1000 := by omega
            exact this
          clear hBel hAg hEd X1 X2 X3 X4 P1 P2 P3 S1 S2
          generalize hv0 : vE (edg N x) i = v0 at *
          generalize ht0 : tE (edg N x) i = t0 at *
          clear hv0 ht0
          obtain ⟨O, hO⟩ : ∃ O, O = Obj.cells #[.int .u32 (v0 : Int), .int .u32 (t0 : Int)] 80 := ⟨_, rfl⟩
          have kb0 : (wr.alloc O).cell? ⟨wr.heap.size, 0, none⟩ = some (.int .u32 (v0 : Int)) := by
            rw [hO]
            unfold World.cell?
            rw [heap_alloc_new]
            rfl
          have kb1 : (wr.alloc O).cell? ⟨wr.heap.size, 1, none⟩ = some (.int .u32 (t0 : Int)) := by
            rw [hO]
            unfold World.cell?
            rw [heap_alloc_new]
            rfl
          go_upto_region 17 with fail
          rw [← hO] at HBel HAg
          rw [← hO]
          clear hO x1 x2
          generalize wr.alloc O = wb at *
          go_cut [16] from 70 to 79 (fun v wx => ∃ r : Nat, v = .int .u32 (r : Int) ∧ GR 2 tg wl d N S x y lx (gc f) i v0 wr.heap.size F r wx)
          case first =>
            have HG : Hid _ := hG
            clear hG HEnd HIH HSz hiw kst
            go_region_with (first
              | (go_at_call 25; refine Calls.mono (HBel.out v0 _ (by repeat (first | exact Jk.refl _ | apply Jk.drew | apply Jk.drewN))) ?_; rintro e9 w9 ⟨s9, rfl, hB9, hJ9⟩; dsimp only; have HB9 : Hid _ := hB9; have HJ9 : Hid (Jk wb w9) := Jk.trans (by repeat (first | exact Jk.refl _ | apply Jk.drew | apply Jk.drewN)) hJ9; have k91 := HJ9.out.cell kb1; have k90 := HJ9.out.cell kb0; clear hB9 hJ9)
              | (go_at_call 13; refine Calls.mono (HAg.out _ HB9.out _ (by repeat (first | exact HJ9.out | apply Jk.drew | apply Jk.drewN))) ?_; rintro e8 w8 ⟨r8, rfl, hG8⟩; dsimp only; have HG8 : Hid _ := hG8; clear hG8))
            all_goals (go_wp2_with fail; go_meet)
            all_goals exact ⟨_, rfl, HG8.out⟩
          case rest =>
            obtain ⟨r, rfl, tg2, N2, ⟨C2, hC2⟩, hD2, hF2, kq⟩ := hcut
            obtain ⟨S1, hS1⟩ : ∃ S1, S1 = S ++ F := ⟨_, rfl⟩
            rw [← hS1] at hC2
            obtain ⟨wc1, hwc1⟩ : ∃ z, z = wc := ⟨_, rfl⟩
            subst hwc1
            have htop := hC2.top
            have kst1 := htop.cell
            obtain ⟨cap1, f1, hsl1, hf1⟩ := htop.sl
            obtain ⟨ao1, b1, hv1, _, _⟩ := hsl1.is
            rw [hv1] at kst1 hsl1
            have hdl := World.block_lt_of_cell? _ _ kst1
            have HFT : Hid _ := hf1
            have HTd : Hid _ := htop.t
            have HFz : Hid _ := htop.froz
            have HC2 : Hid _ := hC2
            have HD2 : Hid _ := hD2
            have HF2 : Hid _ := hF2
            have HS1 : Hid _ := hS1
            have HSl : Hid (∀ W, Jk wc1 W → Sl tg2 W 3 2 (.slice ao1 S1.length cap1) S1.length cap1 f1) := fun W hJ => hsl1.fr (hJ.fr (fun _ => False) _) (fun h => h)
            have HSrc : Hid (∀ W, Jk (wc1.alloc (.cells #[.int .u32 (v0 : Int), .int .u32 (r : Int)] 80)) W → Src Yba.prog 2 63 (.slice (some ⟨wc1.heap.size, 0, none⟩) 1 1) 1 (edCells [(v0, r)]) W) := fun W hJ => src_ed (c := 1) (hJ.edAt (edAt_new wc1 v0 r 80))
            have HLen : Hid (S1.length ≤ 2000) := by
              have : S1.length ≤ 2000 := by
                have q := HSz.out
                rw [hS1]
                simp
                omega
              exact this
            have kstA : ∀ O, (wc1.alloc O).cell? ⟨d, 1031, none⟩ = some (.slice ao1 S1.length cap1) := fun O => cellA kst1 O
            have kqA : ∀ O, (wc1.alloc O).cell? ⟨wr.heap.size, 0, none⟩ = some (.int .u32 (v0 : Int)) := fun O => cellA kq O
            have HG : Hid _ := hG
            clear hG HEnd HIH HSz kst htop hsl1 hf1 hv1 hC2 hD2 hF2 hS1 HBel HAg kb0 kb1
            go_wp2_with fail
            go_region_law (refine step_app (by rfl) (.tmp 84) (.tmp 89) 63 80 2 elem63 (by omega) (by rfl) (HSl.out _ (by repeat (first | exact Jk.refl _ | apply Jk.alloc | apply Jk.drew | apply Jk.drewN))) _ 1 _ (HSrc.out _ (by repeat (first | exact Jk.refl _ | apply Jk.alloc | apply Jk.drew | apply Jk.drewN))) (by simp [Act.eval, Act.put]) (by simp [Act.eval, Act.put]) (by have := HLen.out; omega) ?_; intro v' wA tg' cap' f' hA hold hnew hFr hcap; obtain ⟨gb, rfl, hgl, hgt, hgr⟩ := hA.pos (by omega); have c1 : wA.cell? ⟨d, 1031, none⟩ = some (.slice ao1 S1.length cap1) := (hFr.cell (World.block_lt_of_cell? _ _ (kstA _)) (by have := HTd.out; show ¬ tg2 d = 3; omega)).trans (kstA _); have c2 : wA.frozen? ⟨d, 1031, none⟩ = false := (hFr.frozen (World.block_lt_of_cell? _ _ (kstA _)) (by have := HTd.out; show ¬ tg2 d = 3; omega)).trans (frozA hdl HFz.out _); have HA9 : Hid _ := hA; have HO9 : Hid _ := hold; have HN9 : Hid _ := hnew; have HF9 : Hid _ := hFr; clear hA hold hnew hFr hgr hcap)
            all_goals (go_wp2; go_roundg (n - (i + 1)))
            all_goals first
              | omega
              | (have p := push_rel (E := [(v0, r)]) HC2.out (by repeat (first | exact Jk.refl _ | apply Jk.alloc | apply Jk.drew | apply Jk.drewN)) HFT.out HA9.out HO9.out HN9.out HF9.out
                 obtain ⟨tgr', hg⟩ := GI.next HD2.out HF2.out (by rw [← HN.out]; exact hin) HS1.out p
                 exact ⟨i + 1, tgr', N2, F ++ [(v0, r)], rfl, rfl, hg⟩)
        · have hni : i = n := by
            have := hG.le
            rw [← HN.out] at this
            omega
          obtain ⟨X1, X2, X3, X4⟩ := HX.out
          obtain ⟨P1, P2, P3⟩ := HPar.out
          have HB : Hid _ := hG.build (.inl rfl) HW.out X1 X2 HL2.out HLVX.out (by have := HLVY.out; omega) (hni.trans HN.out) P1 P2 (by omega)
          clear hG X1 X2 X3 X4 P1 P2 P3
          go_wp2_with fail
          refine Calls.mono HB.out ?_
          rintro e0 w2 ⟨r3, rfl, hG⟩
          dsimp only
          obtain ⟨⟨v0, v1, v2, v3, z0, z1, z2, z3⟩, ⟨y0, y1, y2, y3⟩, hfin⟩ := HEnd.out _ _ hG
          have HFin : Hid _ := hfin
          clear hfin
          go_wp2
          go_ret
          exact ⟨_, rfl, HFin.out⟩
theorem diff_all : ∀ f, GC 2 13 f
  | 0 => by
    intro tg w d e N S a b hS hp hw ha hb hf hc1 hc2 hSl
    refine diff_early tg w d N S _ a b hS hw ha hb ?_
    have h1 : lev N a ≥ 3 := by omega
    have h2 : lev N b ≥ 3 := by omega
    rcases hw.lev_term ha with ⟨_, h⟩ | ⟨h3, _⟩
    · omega
    · rcases hw.lev_term hb with ⟨_, h⟩ | ⟨h4, _⟩
      · omega
      · omega
  | f + 1 => by
    intro tg w d e N S a b hS hp hw ha hb hf hc1 hc2 hSl
    by_cases h : a = b ∨ a = 0 ∨ b = 0
    · exact diff_early tg w d N S _ a b hS hw ha hb h
    · exact diff_main f (diff_all f) tg w d e N S a b hS hp hw ha hb (by omega) (by omega) (by omega) hf hc1 hc2 hSl
end Go.Proofs.Ybulkakra

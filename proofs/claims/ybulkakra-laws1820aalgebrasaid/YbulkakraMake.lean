/-
  make of seat b1820a.
-/
import Derived.Test.YbulkakraGetN
namespace Go.Proofs.Ybulkakra
open Go.RowKit
set_option linter.unusedSimpArgs false
set_option linter.unusedVariables false

theorem make1_any (w : World) (x y : Nat) : Calls Yba.prog 46 #[.agg #[.int .u32 (x : Int), .int .u32 (y : Int)]] w fun e w' => e = .returned (.bool (decide (y = 0))) ∧ Jk w w' := by
  have h : ((y : Int) == 0) = decide (y = 0) := by
    by_cases e : y = 0
    · subst e; rfl
    · simp [e]
  have hk := (Jk.refl w).alloc (.cells #[.int .u32 (x : Int), .int .u32 (y : Int)] 80)
  have HK : Hid _ := hk
  clear hk
  generalize decide (y = 0) = z at *
  go_enter Yba.func46, Yba.ntmps46
  go_wp2
  go_ret
  exact ⟨rfl, HK.out⟩
theorem tE_mem {E : List Ed} {j : Nat} (h : j < E.length) : (vE E j, tE E j) ∈ E := by
  unfold vE tE
  rw [List.getD_eq_getElem?_getD, List.getElem?_eq_getElem h]
  exact List.getElem_mem h
theorem index_none (w : World) (b o c : Nat) (E : List Ed) (hE : EdAt w b o E) (hlen : E.length ≤ 1000) (hz : ∀ e ∈ E, e.2 ≠ 0) :
    Calls Yba.prog 59 #[.slice (some ⟨b, o, none⟩) E.length c, .func (.func 46) #[] #[]] w fun e w' => e = .returned (.int .i64 (-1)) ∧ Jk w w' := by
  obtain ⟨n, hn⟩ : ∃ n, n = E.length := ⟨_, rfl⟩
  rw [← hn] at hlen ⊢
  have HE : Hid _ := hE
  have HN : Hid _ := hn
  have HV : Hid _ := hz
  clear hE hn hz
  go_enter Yba.func59, Yba.ntmps59
  go_wp2_with fail
  go_loopg [8] n (fun g t wr => ∃ k : Nat, k ≤ n ∧ g = n - k ∧ t = .int .i64 (k : Int) ∧ Jk w wr)
  case atStart => exact ⟨0, by omega, rfl, rfl, Jk.refl _⟩
  case round =>
    obtain ⟨k, hk, hgk, rfl, hJ⟩ := hrel
    by_cases hlt : k < n
    · obtain ⟨x1, x2⟩ := hJ.edAt HE.out k (by rw [← HN.out]; exact hlt)
      have hdec : decide ((k : Int) < (n : Int)) = true := by simp; omega
      have hi : k < n := hlt
      have hkw : IntKind.i64.wrap ((k : Int) + 1) = ((k + 1 : Nat) : Int) := by rw [IntKind.wrap_i64]; omega
      have hz0 : decide (tE E k = 0) = false := by
        have := HV.out _ (tE_mem (E := E) (j := k) (by rw [← HN.out]; exact hlt))
        simpa using this
      have HZ : Hid _ := hz0
      have HJ : Hid _ := hJ
      clear hJ hz0
      generalize vE E k = v0 at *
      generalize tE E k = t0 at *
      go_wp2_with fail
      refine (make1_any wr v0 t0).mono ?_
      rintro e w1 ⟨rfl, hJ1⟩
      rw [HZ.out]
      dsimp only
      have HJ1 : Hid _ := HJ.out.trans hJ1
      clear hJ1
      go_wp2
      go_roundg (n - (k + 1))
      case measure => omega
      case rel => exact ⟨k + 1, by omega, rfl, rfl, HJ1.out⟩
    · have hdec : decide ((k : Int) < (n : Int)) = false := by simp; omega
      have HJ : Hid _ := hJ
      clear hJ
      go_wp2
      go_ret
      exact ⟨rfl, HJ.out⟩
theorem delete_none (w : World) (b o c : Nat) (E : List Ed) (hE : EdAt w b o E) (hlen : E.length ≤ 1000) (hz : ∀ e ∈ E, e.2 ≠ 0) :
    Calls Yba.prog 45 #[.slice (some ⟨b, o, none⟩) E.length c, .func (.func 46) #[] #[]] w fun e w' => e = .returned (.slice (some ⟨b, o, none⟩) E.length c) ∧ Jk w w' := by
  have HI : Hid _ := index_none w b o c E hE hlen hz
  clear hE hz
  go_enter Yba.func45, Yba.ntmps45
  go_wp2_with fail
  refine Calls.mono HI.out ?_
  rintro e w1 ⟨rfl, hJ⟩
  dsimp only
  have HJ : Hid _ := hJ
  clear hJ
  go_wp2
  go_ret
  exact ⟨rfl, HJ.out⟩
/-- What make leaves. -/
def MkP (tg : Nat → Nat) (w w' : World) (d : Nat) (C : Nat → Value) (N : List Nd) (S : List Ed) (l : Nat) (E : List Ed) (r : Nat) : Prop :=
  ∃ tg' C' N', Made N l E N' r ∧ StC tg' w' d C' N' S ∧ C' 1031 = C 1031 ∧ Fr (fun r => r = 1 ∨ (4 ≤ r ∧ r ≤ 7) ∨ 10 ≤ r) tg w tg' w'
/-- The count of steps does not matter. -/
theorem StC.looked {tg : Nat → Nat} {w : World} {d : Nat} {C : Nat → Value} {N : List Nd} {S : List Ed} (v : StC tg w d C N S) (x : Int) : StC tg (w.setCell ⟨d, 1034, none⟩ (.int .u64 x)) d (up1 C 1034 (.int .u64 x)) N S := by
  have k : Fr (fun r => r = 1) tg w tg (w.setCell ⟨d, 1034, none⟩ (.int .u64 x)) := (Fr.refl _ tg w).set (a := ⟨d, 1034, none⟩) (.inr v.t) _
  have e : ∀ i, i ≠ 1034 → up1 C 1034 (.int .u64 x) i = C i := fun i h => up1_other _ _ h
  refine ⟨v.row.set 1034 _, v.t, v.nodes.fr k (by omega) (by omega) (e _ (by omega)) (e _ (by omega)), v.edges.fr k (by omega) (by omega) (e _ (by omega)), v.parts.fr k (by omega) (fun i h1 h2 => e _ (by omega)), ?_, v.stack.fr k (by omega) (e _ (by omega)), (e _ (by omega)).trans v.stop, ⟨x, up1_same ..⟩, (e _ (by omega)).trans v.cat, v.pin.fr k (by omega) (e _ (by omega))⟩
  obtain ⟨cb, f, c⟩ := v.cache
  exact ⟨cb, f, c.fr k (by omega) (e _ (by omega))⟩
theorem make_weak (tg : Nat → Nat) (w : World) (d : Nat) (C : Nat → Value) (N : List Nd) (S : List Ed) (l b o c : Nat) (E : List Ed) (hS : StC tg w d C N S) (hw : Wk N) (hl : l < 4294967296) (hl4 : E.length ≤ 4) (hH : ∀ e ∈ E, e.1 < 4294967296 ∧ 0 < e.2 ∧ e.2 < N.length) (h0 : E ≠ []) (hE : EdAt w b o E) (hb : b ≠ d) (hs : esum N + 4 ≤ 65536) (hNl : N.length < 65536) :
    Calls Yba.prog 33 #[.pointer (some ⟨d, 0, none⟩), .int .u32 (l : Int), .slice (some ⟨b, o, none⟩) E.length c] w fun e w' => ∃ r, e = .returned (.int .u32 ((r : Nat) : Int)) ∧ MkP tg w w' d C N S l E r := by
  have hlen0 : 0 < E.length := List.length_pos_iff.2 h0
  have HD : Hid _ := delete_none w b o c E hE (by omega) (fun e he => by have := (hH e he).2.1; omega)
  obtain ⟨x1, x2⟩ := hE 0 hlen0
  have e0 : ((E.length : Int) == 0) = false := by simp; omega
  by_cases hsp : ∃ t, E = [(0, t)]
  · obtain ⟨t, rfl⟩ := hsp
    have HR : Hid (StC tg w d C N S) := hS
    clear hS hE hH e0
    simp only [vE, tE, List.getD_cons_zero] at x1 x2
    have hlen : ([(0, t)] : List Ed).length = 1 := rfl
    rw [hlen] at HD ⊢
    clear hlen hlen0 hl4 h0
    go_enter Yba.func33, Yba.ntmps33
    go_wp2_with fail
    refine Calls.mono HD.out ?_
    rintro e w1 ⟨rfl, hJ⟩
    dsimp only
    have y1 := hJ.cell x1
    have y2 := hJ.cell x2
    have HJ : Hid _ := hJ
    clear hJ x1 x2
    simp only [Nat.zero_mul, Nat.add_zero, Nat.zero_add] at y1 y2
    go_wp2
    go_ret
    exact ⟨t, rfl, tg, C, N, .inr (.inl ⟨t, rfl, rfl, rfl⟩), HR.out.jk HJ.out, rfl, HJ.out.fr _ tg⟩
  · have hno : ∀ t, E ≠ [(0, t)] := fun t e => hsp ⟨t, e⟩
    have hv0 : E.length = 1 → ((vE E 0 : Int) == 0) = false := by
      intro h1
      obtain ⟨⟨v, t⟩, rfl⟩ := List.length_eq_one_iff.1 h1
      simp [vE]
      rintro rfl
      exact hno t rfl
    have HG : Hid _ := fun (w1 : World) (hJ : Jk w w1) (x : Int) => get_weak tg (w1.setCell ⟨d, 1034, none⟩ (.int .u64 x)) d (up1 C 1034 (.int .u64 x)) N S l b o c E ((hS.jk hJ).looked x) hw h0 hl4 hl (fun e he => ⟨(hH e he).1, (hH e he).2.2⟩) (fun j hj => by
      obtain ⟨a1, a2⟩ := hJ.edAt hE j hj
      exact ⟨by rw [World.cell?_of_block (Below.heap_setCell _ _ _ _ hb)]; exact a1, by rw [World.cell?_of_block (Below.heap_setCell _ _ _ _ hb)]; exact a2⟩) hb (by omega) hNl
    have HR : Hid (StC tg w d C N S) := hS
    have HK : Hid (∀ w1 w2 x r, Jk w w1 → GetP tg (w1.setCell ⟨d, 1034, none⟩ (.int .u64 x)) w2 d (up1 C 1034 (.int .u64 x)) N S l E r → MkP tg w w2 d C N S l E r) := by
      intro w1 w2 x r hJ ⟨tg', C', N', g1, g2, g3, g4⟩
      refine ⟨tg', C', N', .inr (.inr ⟨h0, hno, g1⟩), g2, g3.trans (up1_other _ _ (by omega)), ?_⟩
      exact (((hJ.fr _ tg).set (a := ⟨d, 1034, none⟩) (.inr (.inl hS.t)) _)).trans g4
    obtain ⟨xw, hxw⟩ := hS.work
    have c1 : ∀ w1, Jk w w1 → w1.cell? ⟨d, 1034, none⟩ = some (.int .u64 xw) := fun w1 hJ => hJ.cell (by rw [(hS.row 1034 (by omega)).1, hxw])
    have c2 : ∀ w1, Jk w w1 → w1.cell? ⟨d, 1033, none⟩ = some (.chan none) := fun w1 hJ => hJ.cell (by rw [(hS.row 1033 (by omega)).1, hS.stop])
    have c3 : ∀ w1, Jk w w1 → w1.frozen? ⟨d, 1034, none⟩ = false := fun w1 hJ => ((hJ.row hS.row) 1034 (by omega)).2
    have C1 : Hid _ := c1
    have C2 : Hid _ := c2
    have C3 : Hid _ := c3
    clear hS hE hH c1 c2 c3 hsp hno hxw
    simp only [Nat.zero_mul, Nat.add_zero, Nat.zero_add] at x1 x2
    go_enter Yba.func33, Yba.ntmps33
    go_wp2_with fail
    refine Calls.mono HD.out ?_
    rintro e w1 ⟨rfl, hJ⟩
    dsimp only
    have y1 := hJ.cell x1
    have y2 := hJ.cell x2
    have hL := look_any w1 d xw (C1.out _ hJ) (C3.out _ hJ) (C2.out _ hJ)
    have HJ : Hid _ := hJ
    have HL : Hid _ := hL
    clear hJ x1 x2 hL
    by_cases h1 : E.length = 1
    · have hv := hv0 h1
      have e1 : ((E.length : Int) == 1) = true := by simp [h1]
      have hlt1 : 0 < E.length := hlen0
      clear hv0 h1
      go_wp2_with fail
      refine Calls.mono HL.out ?_
      rintro e w2 ⟨rfl, rfl⟩
      dsimp only
      generalize IntKind.u64.wrap (xw + 1) = yw at *
      have HG1 : Hid _ := HG.out w1 HJ.out yw
      go_wp2_with fail
      refine Calls.mono HG1.out ?_
      rintro e w3 ⟨r, rfl, hG⟩
      dsimp only
      have HGP : Hid _ := HK.out _ _ _ _ HJ.out hG
      clear hG
      go_wp2
      go_ret
      exact ⟨r, rfl, HGP.out⟩
    · have e1 : ((E.length : Int) == 1) = false := by simp; omega
      clear hv0 h1
      go_wp2_with fail
      refine Calls.mono HL.out ?_
      rintro e w2 ⟨rfl, rfl⟩
      dsimp only
      generalize IntKind.u64.wrap (xw + 1) = yw at *
      have HG1 : Hid _ := HG.out w1 HJ.out yw
      go_wp2_with fail
      refine Calls.mono HG1.out ?_
      rintro e w3 ⟨r, rfl, hG⟩
      dsimp only
      have HGP : Hid _ := HK.out _ _ _ _ HJ.out hG
      clear hG
      go_wp2
      go_ret
      exact ⟨r, rfl, HGP.out⟩
theorem make_any (tg : Nat → Nat) (w : World) (d : Nat) (C : Nat → Value) (N : List Nd) (S : List Ed) (l b o c : Nat) (E : List Ed) (hS : StC tg w d C N S) (hw : Wf N) (hl : l ≤ 2) (hi : Inc E) (hH : Hang N l E) (h0 : E ≠ []) (hE : EdAt w b o E) (hb : b ≠ d) (hs : esum N + 4 ≤ 65536) (hNl : N.length < 65536) :
    Calls Yba.prog 33 #[.pointer (some ⟨d, 0, none⟩), .int .u32 (l : Int), .slice (some ⟨b, o, none⟩) E.length c] w fun e w' => ∃ r, e = .returned (.int .u32 ((r : Nat) : Int)) ∧ MkP tg w w' d C N S l E r :=
  make_weak tg w d C N S l b o c E hS hw.wk (by omega) (hang_inc_len hH hi) (fun e he => by
    obtain ⟨h1, h2, h3, _⟩ := hH e he
    exact ⟨by omega, h2, h3⟩) h0 hE hb hs hNl
end Go.Proofs.Ybulkakra

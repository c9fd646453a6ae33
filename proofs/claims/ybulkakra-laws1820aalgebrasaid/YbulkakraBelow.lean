/-
  below of seat b1820a.
-/
import Derived.Test.YbulkakraPush
import Derived.Test.YbulkakraCanon
namespace Go.Proofs.Ybulkakra
open Go.RowKit
set_option linter.unusedSimpArgs false
set_option linter.unusedVariables false

theorem bl1_any (w : World) (v t x : Nat) : Calls Yba.prog 36 #[.agg #[.int .u32 (v : Int), .int .u32 (t : Int)], .int .u32 (x : Int)] w fun e w' => e = .returned (.int .i64 (cmp3 (v : Int) (x : Int))) ∧ Jk w w' := by
  have hk := (Jk.refl w).alloc (.cells #[.int .u32 (v : Int), .int .u32 (t : Int)] 80)
  have HK : Hid _ := hk
  clear hk
  go_enter Yba.func36, Yba.ntmps36
  go_wp2_with fail
  refine (compare_any _ _ _).mono ?_
  rintro e w1 ⟨rfl, rfl⟩
  dsimp only
  go_wp2
  go_ret
  exact ⟨rfl, HK.out⟩
/-- What the search found. -/
def Fnd (E : List Ed) (x i : Nat) (f : Bool) : Prop := (f = true → i < E.length ∧ vE E i = x) ∧ (f = false → ∀ e ∈ E, e.1 ≠ x)
theorem inc_vE {E : List Ed} (h : Inc E) {p q : Nat} (hpq : p < q) (hq : q < E.length) : vE E p < vE E q := by
  unfold vE
  rw [List.getD_eq_getElem?_getD, List.getD_eq_getElem?_getD, List.getElem?_eq_getElem (by omega), List.getElem?_eq_getElem hq]
  exact (List.pairwise_iff_getElem.1 h) p q (by omega) hq hpq
theorem fnd_no {E : List Ed} {x i : Nat} (h1 : ∀ k, k < i → vE E k < x) (h2 : ∀ k, i ≤ k → k < E.length → x ≤ vE E k) (hI : Inc E) (hn : i < E.length → vE E i ≠ x) : Fnd E x i false := by
  refine ⟨fun h => (by cases h), fun _ e he => ?_⟩
  obtain ⟨k, hk, rfl⟩ := List.getElem_of_mem he
  have hv : vE E k = (E[k]).1 := by
    unfold vE
    rw [List.getD_eq_getElem?_getD, List.getElem?_eq_getElem hk]
    rfl
  rw [← hv]
  rcases Nat.lt_trichotomy k i with h | h | h
  · have := h1 k h; omega
  · subst h; exact hn hk
  · have := inc_vE hI h hk
    have := h2 i (by omega) (by omega)
    omega
set_option maxRecDepth 100000 in
set_option maxHeartbeats 400000 in
theorem search_any (w : World) (b o c x : Nat) (E : List Ed) (hE : EdAt w b o E) (hI : Inc E) (hl : E.length ≤ 1000) :
    Calls Yba.prog 35 #[.slice (some ⟨b, o, none⟩) E.length c, .int .u32 (x : Int), .func (.func 36) #[] #[]] w fun e w' => ∃ i f, e = .returned (.tuple #[.int .i64 ((i : Nat) : Int), .bool f]) ∧ Fnd E x i f ∧ Jk w w' := by
  obtain ⟨n, hn⟩ : ∃ n, n = E.length := ⟨_, rfl⟩
  rw [← hn] at hl ⊢
  have HE : Hid _ := hE
  have HN : Hid _ := hn
  have HI : Hid _ := hI
  clear hE hn hI
  go_enter Yba.func35, Yba.ntmps35
  go_upto_region 3 with fail
  go_loopg [9, 10] n (fun g t u wr => ∃ i j : Nat, g = j - i ∧ t = .int .i64 (i : Int) ∧ u = .int .i64 (j : Int) ∧ i ≤ j ∧ j ≤ n ∧ (∀ k, k < i → vE E k < x) ∧ (∀ k, j ≤ k → k < n → x ≤ vE E k) ∧ Jk w wr)
  case atStart => exact ⟨0, n, by omega, rfl, rfl, by omega, by omega, fun k hk => by omega, fun k h1 h2 => by omega, Jk.refl _⟩
  case round =>
    obtain ⟨i, j, hgk, rfl, rfl, hij, hjn, hlo, hhi, hJ⟩ := hrel
    by_cases hlt : i < j
    · obtain ⟨h, hh⟩ : ∃ h, h = (i + j) / 2 := ⟨_, rfl⟩
      have h1 : i ≤ h := by omega
      have h2 : h < j := by omega
      have h3 : h < n := by omega
      obtain ⟨m, hm⟩ : ∃ m, m = i + j := ⟨_, rfl⟩
      have k1 : IntKind.i64.wrap ((i : Int) + (j : Int)) = (m : Int) := by rw [IntKind.wrap_i64]; omega
      have k2 : IntKind.u64.wrap (m : Int) = (m : Int) := by rw [IntKind.wrap_u64]; omega
      have k3 : (m : Int) / 2 = (h : Int) := by omega
      have k4 : IntKind.i64.wrap (h : Int) = (h : Int) := by rw [IntKind.wrap_i64]; omega
      have k5 : IntKind.i64.wrap ((h : Int) + 1) = ((h + 1 : Nat) : Int) := by rw [IntKind.wrap_i64]; omega
      obtain ⟨x1, x2⟩ := hJ.edAt HE.out h (by rw [← HN.out]; exact h3)
      have HJ : Hid _ := hJ
      have HLo : Hid _ := hlo
      have HHi : Hid _ := hhi
      clear hJ hh hm hlo hhi
      generalize hv0 : vE E h = v0 at *
      generalize tE E h = t0 at *
      have HV0 : Hid _ := hv0
      clear hv0
      by_cases hvx : v0 < x
      · have hc : decide (cmp3 (v0 : Int) (x : Int) < 0) = true := by unfold cmp3; rw [if_pos (by omega)]; rfl
        have HVX : Hid _ := hvx
        clear hvx
        go_wp2_with fail
        refine (bl1_any wr v0 t0 x).mono ?_
        rintro e w1 ⟨rfl, hJ1⟩
        have HJ1 : Hid _ := HJ.out.trans hJ1
        clear hJ1
        dsimp only
        generalize cmp3 (v0 : Int) (x : Int) = cc at *
        go_wp2
        go_roundg (j - (h + 1))
        case measure => omega
        case rel =>
          refine ⟨h + 1, j, rfl, rfl, rfl, by omega, hjn, fun k hk => ?_, HHi.out, HJ1.out⟩
          rcases Nat.lt_or_ge k h with q | q
          · have := inc_vE HI.out q (by rw [← HN.out]; exact h3)
            rw [HV0.out] at this
            have := HVX.out
            omega
          · have : k = h := by omega
            rw [this, HV0.out]; exact HVX.out
      · have hc : decide (cmp3 (v0 : Int) (x : Int) < 0) = false := by
          unfold cmp3
          rw [if_neg (by omega)]
          split <;> rfl
        have HVX : Hid _ := hvx
        clear hvx
        go_wp2_with fail
        refine (bl1_any wr v0 t0 x).mono ?_
        rintro e w1 ⟨rfl, hJ1⟩
        have HJ1 : Hid _ := HJ.out.trans hJ1
        clear hJ1
        dsimp only
        generalize cmp3 (v0 : Int) (x : Int) = cc at *
        go_wp2
        go_roundg (h - i)
        case measure => omega
        case rel =>
          refine ⟨i, h, rfl, rfl, rfl, h1, by omega, HLo.out, fun k q1 q2 => ?_, HJ1.out⟩
          rcases Nat.lt_or_ge h k with q | q
          · have := inc_vE HI.out q (by rw [← HN.out]; exact q2)
            rw [HV0.out] at this
            have q3 : ¬ v0 < x := HVX.out
            omega
          · have : k = h := by omega
            rw [this, HV0.out]; have q3 : ¬ v0 < x := HVX.out; omega
    · have hij2 : i = j := by omega
      subst hij2
      by_cases hin : i < n
      · obtain ⟨x1, x2⟩ := hJ.edAt HE.out i (by rw [← HN.out]; exact hin)
        have HJ : Hid _ := hJ
        have HLo : Hid _ := hlo
        have HHi : Hid _ := hhi
        clear hJ hlo hhi
        generalize hv0 : vE E i = v0 at *
        generalize tE E i = t0 at *
        have HV0 : Hid _ := hv0
        clear hv0
        have hc : (cmp3 (v0 : Int) (x : Int) == 0) = decide (v0 = x) := by
          unfold cmp3
          by_cases q : v0 = x
          · subst q; simp
          · rcases Nat.lt_or_ge v0 x with q1 | q1
            · rw [if_pos (by omega)]; simp [q]
            · rw [if_neg (by omega), if_pos (by omega)]; simp [q]
        have hc2 : decide (cmp3 (v0 : Int) (x : Int) = 0) = decide (v0 = x) := by
          rw [← hc]; rfl
        have HFt : Hid (v0 = x → Fnd E x i true) := fun q => ⟨fun _ => ⟨by rw [← HN.out]; exact hin, by rw [HV0.out]; exact q⟩, fun q => (by cases q)⟩
        have HFf : Hid (v0 ≠ x → Fnd E x i false) := fun q => fnd_no HLo.out (fun k q1 q2 => HHi.out k q1 (by rw [HN.out]; exact q2)) HI.out (fun _ => by rw [HV0.out]; exact q)
        clear HV0 HLo HHi
        generalize hcc : cmp3 (v0 : Int) (x : Int) = cc at *
        have HCC : Hid _ := hcc
        clear hcc
        generalize hbb : decide (v0 = x) = bb at *
        have HBB : Hid _ := hbb
        clear hbb
        go_wp2_with fail
        refine (bl1_any wr v0 t0 x).mono ?_
        rintro e w1 ⟨rfl, hJ1⟩
        have HJ1 : Hid _ := HJ.out.trans hJ1
        clear hJ1
        rw [HCC.out]
        dsimp only
        go_wp2
        go_ret2
        refine ⟨i, bb, rfl, ?_, HJ1.out⟩
        by_cases q : v0 = x
        · have := HBB.out
          rw [decide_eq_true q] at this
          rw [← this]; exact HFt.out q
        · have := HBB.out
          rw [decide_eq_false q] at this
          rw [← this]; exact HFf.out q
      · have HF : Hid (Fnd E x i false) := fnd_no hlo (fun k q1 q2 => hhi k q1 (by rw [HN.out]; exact q2)) HI.out (fun q => absurd q (by rw [← HN.out]; exact hin))
        have HJ : Hid _ := hJ
        clear hJ hlo hhi
        go_wp2
        go_ret2
        exact ⟨i, false, rfl, HF.out, HJ.out⟩
set_option maxRecDepth 100000 in
theorem below_any (tg : Nat → Nat) (w : World) (d a l x : Nat) (C : Nat → Value) (N : List Nd) (S : List Ed) (hC : StC tg w d C N S) (hw : Wf N) (ha : a < N.length) (hl : l ≤ 2) (hla : l ≤ lev N a) (hn : N.length ≤ 65536) (he : esum N ≤ 65536) :
    Calls Yba.prog 25 #[.pointer (some ⟨d, 0, none⟩), .int .u32 (a : Int), .int .u32 (l : Int), .int .u32 (x : Int)] w fun e w' => ∃ t, e = .returned (.int .u32 ((t : Nat) : Int)) ∧ Blw N a l x t ∧ Jk w w' := by
  obtain ⟨nO, nC, c0, gN, hN, vN⟩ := hC.nodes
  have hnx := vN.at hC.row hn ha
  have HL : Hid _ := level_any w d nO nC N.length c0 a (lev N a) hnx.h0 hnx.h2 ha (by omega) hnx.x0
  by_cases hlv : lev N a = l
  · have h2 := wf_two hw ha hl hlv
    have hk := hw.ok a h2 ha
    have hne : 0 < (edg N a).length := List.length_pos_iff.2 hk.ne
    obtain ⟨eb, eo, hEA, htE, hCE⟩ := store_edges_of tg w d C N S a hC hn he ha hne
    have HSr : Hid (∀ w1, Jk w w1 → Calls Yba.prog 35 #[.slice (some ⟨eb, eo, none⟩) (edg N a).length (edg N a).length, .int .u32 (x : Int), .func (.func 36) #[] #[]] w1 fun e w' => ∃ i f, e = .returned (.tuple #[.int .i64 ((i : Nat) : Int), .bool f]) ∧ Fnd (edg N a) x i f ∧ Jk w1 w') := fun w1 hJ => search_any w1 eb eo _ x _ (hJ.edAt hEA) hk.inc (by have := hw.edg_len ha; omega)
    have hlen := hw.edg_len ha
    have HCE : Hid _ := hCE
    have HEA : Hid _ := hEA
    have HB1 : Hid (∀ i, Fnd (edg N a) x i true → Blw N a l x (tE (edg N a) i)) := fun i hf => by
      obtain ⟨q1, q2⟩ := hf.1 rfl
      have := tE_mem q1
      rw [q2] at this
      exact blw_at hw ha hl hlv this
    have HB0 : Hid (∀ i, Fnd (edg N a) x i false → Blw N a l x 0) := fun i hf => blw_none hw hl hlv (hf.2 rfl)
    have hbb : ((lev N a : Int) == (l : Int)) = true := by simp [hlv]
    have hbb2 : ((lev N a : Int) != (l : Int)) = false := by simp [hlv]
    have HLV : Hid _ := hlv
    clear hCE hEA hnx vN hC hw ha hk hne hla hlv
    generalize hlv : lev N a = lv at *
    generalize hed : edg N a = E at *
    obtain ⟨n, hnn⟩ : ∃ n, n = E.length := ⟨_, rfl⟩
    rw [← hnn] at HCE HSr hlen
    have HNN : Hid _ := hnn
    clear hed hlv hnn
    go_enter Yba.func25, Yba.ntmps25
    go_wp2_with fail
    refine Calls.mono HL.out ?_
    rintro e w1 ⟨rfl, rfl⟩
    dsimp only
    go_wp2_with fail
    refine Calls.mono (HCE.out _ (Jk.refl _)) ?_
    rintro e w1 ⟨rfl, M, rfl⟩
    dsimp only
    have hJd : Jk w (w.drewN M) := (Jk.refl _).drewN M
    have HJd : Hid _ := hJd
    have HSr2 : Hid _ := HSr.out _ hJd
    clear hJd HSr HCE HL
    generalize w.drewN M = wd at *
    go_wp2_with fail
    refine Calls.mono HSr2.out ?_
    rintro e w1 ⟨i, f, rfl, hF, hJ1⟩
    dsimp only
    have HJ1 : Hid _ := HJd.out.trans hJ1
    cases f with
    | true =>
      have hin : i < n := by rw [HNN.out]; exact (hF.1 rfl).1
      obtain ⟨x1, x2⟩ := HJ1.out.edAt HEA.out i (by rw [← HNN.out]; exact hin)
      have HB : Hid _ := HB1.out i hF
      clear hJ1 hF
      generalize vE E i = v0 at *
      generalize tE E i = t0 at *
      go_wp2
      go_ret
      exact ⟨t0, rfl, HB.out, HJ1.out⟩
    | false =>
      have HB : Hid _ := HB0.out i hF
      clear hJ1 hF
      go_wp2
      go_ret
      exact ⟨0, rfl, HB.out, HJ1.out⟩
  · have hbb : ((lev N a : Int) == (l : Int)) = false := by simp; omega
    have hbb2 : ((lev N a : Int) != (l : Int)) = true := by simp; omega
    have HB : Hid _ := blw_skip (x := x) hw ha hl (by omega)
    clear hnx vN hC hw ha hla hlv
    generalize hlv : lev N a = lv at *
    clear hlv
    go_enter Yba.func25, Yba.ntmps25
    go_wp2_with fail
    refine Calls.mono HL.out ?_
    rintro e w1 ⟨rfl, rfl⟩
    dsimp only
    by_cases hx : x = 0
    · subst hx
      rw [if_pos rfl] at HB
      go_wp2
      go_ret
      exact ⟨a, rfl, HB.out, Jk.refl _⟩
    · have hxx : ((x : Int) == 0) = false := by simp; omega
      rw [if_neg hx] at HB
      go_wp2
      go_ret
      exact ⟨0, rfl, HB.out, Jk.refl _⟩
end Go.Proofs.Ybulkakra

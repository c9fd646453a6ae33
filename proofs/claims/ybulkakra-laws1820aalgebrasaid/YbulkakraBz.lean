/-
  build of seat b1820a, for edges in order, of which some lead to Empty.
-/
import Derived.Test.YbulkakraMkz
namespace Go.Proofs.Ybulkakra
open Go.RowKit
set_option linter.unusedSimpArgs false
set_option linter.unusedVariables false

theorem srt_inc : ∀ {F : List Ed}, Srt F F.length → (F.map (·.1)).Nodup → Inc F
  | [], _, _ => List.Pairwise.nil
  | e :: F, hs, hn => by
    have h1 := List.nodup_cons.1 (by simpa using hn : (e.1 :: F.map (·.1)).Nodup)
    refine List.pairwise_cons.2 ⟨fun y hy => ?_, srt_inc (fun p q h1 h2 => ?_) h1.2⟩
    · obtain ⟨i, hi, rfl⟩ := List.getElem_of_mem hy
      have := hs 0 (i + 1) (by omega) (by simp; omega)
      unfold vE at this
      simp [hi] at this
      have hne : e.1 ≠ (F[i]).1 := fun h => h1.1 (by rw [h]; exact List.mem_map.2 ⟨_, List.getElem_mem hi, rfl⟩)
      omega
    · have := hs (p + 1) (q + 1) (by omega) (by simp; omega)
      unfold vE at this ⊢
      simpa using this
theorem srt_eq {E F : List Ed} (hp : F.Perm E) (hs : Srt F F.length) (hi : Inc E) : F = E :=
  inc_ext (srt_inc hs ((hp.map _).nodup_iff.2 (inc_nodup hi))) hi (fun _ => hp.mem_iff)
theorem set_same (A B : List Ed) (e : Ed) : (A ++ e :: B).set A.length e = A ++ e :: B := by
  rw [List.set_append_right _ _ (Nat.le_refl _), Nat.sub_self]
  rfl
theorem bz_keep {tg : Nat → Nat} {wr w2 : World} {d : Nat} {C : Nat → Value} {N : List Nd} {A B : List Ed} {e : Ed} {kp sb cap : Nat} {fs : Nat → Value} (hC : StC tg wr d C N (A ++ e :: B)) (hk : Stk tg wr C (A ++ e :: B) sb cap fs) (hJ : Jk wr w2) (hkp : kp = A.length) :
    StC tg ((w2.setCell ⟨sb, kp * 2, none⟩ (.int .u32 (e.1 : Int))).setCell ⟨sb, kp * 2 + 1, none⟩ (.int .u32 (e.2 : Int))) d C N (A ++ e :: B) ∧ Fr (fun r => 1 ≤ r) tg wr tg ((w2.setCell ⟨sb, kp * 2, none⟩ (.int .u32 (e.1 : Int))).setCell ⟨sb, kp * 2 + 1, none⟩ (.int .u32 (e.2 : Int))) := by
  have hC2 := hC.jk hJ
  have hk2 := hk.jk hJ
  have hkl : kp < (A ++ e :: B).length := by simp; omega
  have hrow := ((hk2.row.set (kp * 2) (.int .u32 (e.1 : Int))).set (kp * 2 + 1) (.int .u32 (e.2 : Int))).congr fun i _ => laid_set hkl e.1 e.2 i
  have hch : Chg (fun x => x = sb) w2 ((w2.setCell ⟨sb, kp * 2, none⟩ (.int .u32 (e.1 : Int))).setCell ⟨sb, kp * 2 + 1, none⟩ (.int .u32 (e.2 : Int))) := ((Chg.refl (fun x => x = sb) w2).set (a := ⟨sb, kp * 2, none⟩) (.inr rfl) _).set (a := ⟨sb, kp * 2 + 1, none⟩) (.inr rfl) _
  have hst := hC2.restack hk2 hch hrow (by simp)
  rw [hkp] at hst
  have e2 : ((e.1, e.2) : Ed) = e := rfl
  rw [e2, set_same] at hst
  refine ⟨hkp ▸ hst, (hJ.fr _ tg).trans (hch.fr fun x _ e => ?_)⟩
  rw [e, hk.t]
  omega
/-- What build leaves. -/
def BZ (tg : Nat → Nat) (w w' : World) (d : Nat) (N : List Nd) (S0 : List Ed) (l : Nat) (E : List Ed) (r : Nat) : Prop :=
  ∃ tg' N', St tg' w' d N' S0 ∧ BuiltZ N l E N' r ∧ Fr (fun r => 1 ≤ r) tg w tg' w'
set_option maxRecDepth 100000 in
set_option maxHeartbeats 1000000 in
theorem build_z (tg : Nat → Nat) (w : World) (d : Nat) (N : List Nd) (S0 E : List Ed) (l : Nat) (hS : St tg w d N (S0 ++ E)) (hw : Wf N) (hinc : Inc E) (hl : l ≤ 2) (hH : ∀ e ∈ E, e.1 < 4 ∧ e.2 < N.length ∧ l < lev N e.2) (h0 : E ≠ []) (hc1 : N.length + 1 ≤ 65000) (hc2 : esum N + 4 ≤ 65536) (hSl : S0.length + 8 ≤ 1000) :
    Calls Yba.prog 20 #[.pointer (some ⟨d, 0, none⟩), .int .u32 (l : Int), .int .i64 (S0.length : Int)] w fun e w' => ∃ r, e = .returned (.int .u32 ((r : Nat) : Int)) ∧ BZ tg w w' d N S0 l E r := by
  obtain ⟨C, hC⟩ := hS
  have hE0 : 0 < E.length := List.length_pos_iff.2 h0
  have h4 : E.length ≤ 4 := by
    have := pigeon (E.map (·.1)) (List.range 4) (inc_nodup hinc) (fun x hx => by
      obtain ⟨e, he, rfl⟩ := List.mem_map.1 hx
      exact List.mem_range.2 (hH e he).1)
    simpa using this
  obtain ⟨sb, cap, fs, hk⟩ := hC.stack.stk (by simp; omega)
  have hle := hk.le
  simp at hle
  have hmx := hk.max
  have hmx2 : cap ≤ 9223372036854775807 := hmx
  have k0 : w.cell? ⟨d, 1031, none⟩ = some (.slice (some ⟨sb, 0, none⟩) (S0 ++ E).length cap) := by rw [(hC.row 1031 (by omega)).1, hk.c]
  have hsrt := sort_any w sb (cap * 2) (S0.length * 2) (cap - S0.length) (laid fs 0 (S0 ++ E)) E (hk.row.congr fun i _ => laid_tail i) (by omega) (by omega) (by omega)
  obtain ⟨m, hm⟩ : ∃ m, m = S0.length := ⟨_, rfl⟩
  obtain ⟨t, ht⟩ : ∃ t, t = (S0 ++ E).length := ⟨_, rfl⟩
  have htl : t = m + E.length := by rw [ht, hm]; simp
  have hmc : m < cap := by omega
  have hmt : m ≤ t := by omega
  have htc : t ≤ cap := by omega
  have hmn : cap ≠ m := by omega
  have htm : t - m = E.length := by omega
  rw [← ht] at k0
  rw [← hm] at hsrt ⊢
  rw [← htm] at hsrt
  have HSrt : Hid _ := hsrt
  have HDl : Hid (d < w.heap.size) := hC.row.lt (by omega)
  have HC : Hid _ := hC
  have HK : Hid _ := hk
  have HW : Hid _ := hw
  have HP : Hid (Inc E ∧ l ≤ 2 ∧ ∀ e ∈ E, e.1 < 4 ∧ e.2 < N.length ∧ l < lev N e.2) := ⟨hinc, hl, hH⟩
  have HC1 : Hid _ := hc1
  have HC2 : Hid _ := hc2
  have HM : Hid _ := hm
  have HTL : Hid _ := htl
  have HSL : Hid _ := hSl
  have H8 : Hid (E.length ≤ 4 ∧ 0 < E.length) := ⟨h4, hE0⟩
  clear hsrt hC hk hw hinc hl hH hc1 hc2 hmx hm ht htl htm hle hE0 h4 hSl h0
  go_enter Yba.func20, Yba.ntmps20
  go_wp2_with fail
  refine Calls.mono HSrt.out ?_
  rintro e w1 ⟨rfl, F', hperm, hsrt, hrow, hchg⟩
  dsimp only
  have hFE : F' = E := srt_eq hperm hsrt HP.out.1
  subst hFE
  have hC1 : StC tg w1 d C N (S0 ++ F') := HC.out.restack HK.out hchg (f' := fs) (hrow.congr fun i _ => by rw [HM.out]; exact laid_app rfl i) (by simp)
  have hF1 : Fr (fun r => 1 ≤ r) tg w tg w1 := hchg.fr fun x _ e => by rw [e, HK.out.t]; omega
  have HX : Hid (StC tg w1 d C N (S0 ++ F') ∧ Fr (fun r => 1 ≤ r) tg w tg w1) := ⟨hC1, hF1⟩
  clear hC1 hF1 hperm hsrt hrow hchg HSrt HC HK k0
  go_wp2_with fail
  go_loopg [7, 8] F'.length (fun g a b wr => ∃ (P Q : List Ed) (i : Nat), F' = P ++ Q ∧ StC tg wr d C N (S0 ++ F') ∧ Fr (fun r => 1 ≤ r) tg w tg wr ∧ i = m + P.length ∧ g = Q.length ∧ a = .int .i64 (i : Int) ∧ b = .int .i64 (i : Int))
  case atStart =>
    obtain ⟨x1, x2⟩ := HX.out
    exact ⟨[], F', m, rfl, x1, x2, rfl, rfl, rfl, rfl⟩
  case round =>
    obtain ⟨P, Q, i, hsplit, hC', hFr, hi, hgk, rfl, rfl⟩ := hrel
    have hlen : P.length + Q.length = F'.length := by rw [hsplit]; simp
    have h8 := H8.out
    have hms := HM.out
    have hSlen : (S0 ++ F').length = m + F'.length := by simp; omega
    obtain ⟨sb', cap', fs', hk'⟩ := hC'.stack.stk (by rw [hSlen]; omega)
    have hle' := hk'.le
    rw [hSlen] at hle'
    obtain ⟨T, hT⟩ : ∃ T, T = m + F'.length := ⟨_, rfl⟩
    have k1 : wr.cell? ⟨d, 1031, none⟩ = some (.slice (some ⟨sb', 0, none⟩) T cap') := by rw [(hC'.row 1031 (by omega)).1, hk'.c, hSlen, hT]
    have hsl := HSL.out
    have hTs : T ≤ 1000 := by omega
    rcases Q with _ | ⟨e, Q'⟩
    · have hd : ¬ i < T := by simp at hlen; omega
      have hmc' : m < cap' := by omega
      have hmn' : cap' ≠ m := by omega
      have hTc : T ≤ cap' := by omega
      have hmkp : m ≤ i := by omega
      have hkpc : i ≤ cap' := by omega
      have hc1' := HC1.out
      have hc2' := HC2.out
      obtain ⟨p1, p2, p3⟩ := HP.out
      have hn4 : (nz F').length ≤ 4 := by have := nz_len F'; omega
      have hmk := make_z tg wr d C N S0 F' l sb' cap' (cap' - m) fs' hC' hk' HW.out p2 (fun e he => ⟨(p3 e he).1, (p3 e he).2.1⟩) hn4 (by omega) (by omega) (by omega) (by omega)
      rw [show F'.length = i - m by simp at hlen; omega, ← hms] at hmk
      have HMk : Hid _ := hmk
      have hfin : Hid (∀ w2 r, MkZ tg wr w2 d N S0 F' l r → ∃ sb2 cap2, T ≤ cap2 ∧ w2.cell? ⟨d, 1031, none⟩ = some (.slice (some ⟨sb2, 0, none⟩) T cap2) ∧ w2.frozen? ⟨d, 1031, none⟩ = false ∧ BZ tg w (w2.setCell ⟨d, 1031, none⟩ (.slice (some ⟨sb2, 0, none⟩) m cap2)) d N S0 l F' r) := by
        rintro w2 r ⟨tg2, C2, N2, Z, g1, g2, g3, g4⟩
        have hB := made_z HW.out p2 p1 (fun e he => (p3 e he).1) (fun e he => (p3 e he).2) g1
        have hSl2 : (S0 ++ (nz F' ++ Z)).length = T := by rw [List.length_append, g3, hT, hms]
        obtain ⟨sb2, cap2, fs2, hk2⟩ := g2.stack.stk (by rw [hSl2]; omega)
        have hle2 := hk2.le
        have hsh := g2.shrink hk2 m (by rw [hSl2]; omega)
        have hts : List.take m (S0 ++ (nz F' ++ Z)) = S0 := by
          rw [hms, List.take_append_of_le_length (Nat.le_refl _), List.take_length]
        rw [hts] at hsh
        refine ⟨sb2, cap2, by omega, by rw [(g2.row 1031 (by omega)).1, hk2.c, hSl2], (g2.row 1031 (by omega)).2, tg2, N2, ⟨_, hsh⟩, hB, ?_⟩
        exact (hFr.trans g4).set (a := ⟨d, 1031, none⟩) (.inr (by
          have := hC'.t
          show 1 ≤ tg d
          omega)) _
      have HFin : Hid _ := hfin.out
      clear hc1' hc2' hmk hfin p1 p2 p3 hn4
      have HG : Hid (i = m + P.length ∧ P.length + ([] : List Ed).length = F'.length ∧ T = m + F'.length) := ⟨hi, hlen, hT⟩
      clear hC' hk' hFr hlen h8 hms hSlen hle' hT hi hsl hsplit
      have hmT : m ≤ T := by have := HG.out; omega
      go_wp2_with fail
      refine Calls.mono HMk.out ?_
      rintro e w2 ⟨r, rfl, g1⟩
      dsimp only
      obtain ⟨sb2, cap2, z0, z1, z2, z3⟩ := HFin.out w2 r g1
      have hmc2 : m ≤ cap2 := by omega
      have Z3 : Hid _ := z3
      clear g1 z3
      go_wp2
      go_ret
      exact ⟨r, rfl, Z3.out⟩
    · have hiT : i < T := by simp at hlen; omega
      have hw1 : IntKind.i64.wrap ((i : Int) + 1) = ((i + 1 : Nat) : Int) := by rw [IntKind.wrap_i64]; omega
      have hSi : i = (S0 ++ P).length := by simp; omega
      have hSS : S0 ++ F' = (S0 ++ P) ++ e :: Q' := by rw [hsplit]; simp
      obtain ⟨a1, a2, a3, a4⟩ := hk'.cell (i := i) (by rw [hSlen]; omega)
      rw [hSS, hSi, (vE_at _ e Q').1, ← hSi] at a1
      rw [hSS, hSi, (vE_at _ e Q').2, ← hSi] at a2
      have HKp : Hid (∀ w2, Jk wr w2 → StC tg ((w2.setCell ⟨sb', i * 2, none⟩ (.int .u32 (e.1 : Int))).setCell ⟨sb', i * 2 + 1, none⟩ (.int .u32 (e.2 : Int))) d C N (S0 ++ F') ∧ Fr (fun r => 1 ≤ r) tg w tg ((w2.setCell ⟨sb', i * 2, none⟩ (.int .u32 (e.1 : Int))).setCell ⟨sb', i * 2 + 1, none⟩ (.int .u32 (e.2 : Int)))) := by
        intro w2 hJ
        have hb := bz_keep (A := S0 ++ P) (e := e) (B := Q') (kp := i) (by rw [← hSS]; exact hC') (by rw [← hSS]; exact hk') hJ hSi
        rw [← hSS] at hb
        exact ⟨hb.1, hFr.trans hb.2⟩
      have hsbd : sb' ≠ d := by
        intro e
        have h1 := hk'.t
        rw [e, hC'.t] at h1
        omega
      have hJa := (Jk.refl wr).alloc (.cells #[.int .u32 (e.1 : Int), .int .u32 (e.2 : Int)] 80)
      have b0 := (Row.new wr #[.int .u32 (e.1 : Int), .int .u32 (e.2 : Int)] 80 2 (fun i => (#[Value.int .u32 (e.1 : Int), .int .u32 (e.2 : Int)][i]?).getD (.bool true)) (fun i hi => by rcases i with _ | _ | i <;> first | rfl | omega) 0 (by omega)).1
      have b1 := (Row.new wr #[.int .u32 (e.1 : Int), .int .u32 (e.2 : Int)] 80 2 (fun i => (#[Value.int .u32 (e.1 : Int), .int .u32 (e.2 : Int)][i]?).getD (.bool true)) (fun i hi => by rcases i with _ | _ | i <;> first | rfl | omega) 1 (by omega)).1
      dsimp only at b0 b1
      have kA := hJa.cell k1
      have vA1 := hJa.cell a1
      have vA2 := hJa.cell a2
      have gA := hJa.row hk'.row
      have vA3 := (gA (i * 2) (by omega)).2
      have vA4 := (gA (i * 2 + 1) (by omega)).2
      have HJA : Hid _ := hJa
      clear hJa a3 a4 gA
      rcases List.eq_nil_or_concat P with hP0 | ⟨P0, ⟨x, t0⟩, hP0⟩
      · have hkm : ¬ m < i := by rw [hi, hP0]; simp
        have HI : Hid (i = m + P.length ∧ P.length + (e :: Q').length = F'.length ∧ T = m + F'.length ∧ gk = (e :: Q').length ∧ F' = P ++ e :: Q') := ⟨hi, hlen, hT, hgk, hsplit⟩
        clear hC' hk' hFr hlen h8 hms hSlen hle' hT hi hsl hSi hSS hP0 hgk hsplit
        go_upto_region 7 with fail
        generalize hwa : wr.alloc (.cells #[.int .u32 (e.1 : Int), .int .u32 (e.2 : Int)] 80) = wa at *
        clear hwa a1 a2 k1
        go_quiet (fail)
        go_upto_region 10 with fail
        go_region
        all_goals go_wp2
        all_goals (go_roundg Q'.length)
        case measure => have := HI.out; simp at this; omega
        case rel =>
          obtain ⟨z1, z2⟩ := HKp.out _ (HJA.out.drewN _)
          obtain ⟨i1, i2, i3, i4, i5⟩ := HI.out
          exact ⟨P ++ [e], Q', i + 1, by rw [i5]; simp, z1, z2, by simp; omega, rfl, rfl, rfl⟩
      · rw [List.concat_eq_append] at hP0
        obtain ⟨q, hq⟩ : ∃ q, q = m + P0.length := ⟨_, rfl⟩
        have hkq : i = q + 1 := by rw [hi, hP0, hq]; simp; omega
        have hkm : m < i := by omega
        have hqw : IntKind.i64.wrap ((i : Int) - 1) = (q : Int) := by rw [IntKind.wrap_i64]; omega
        have hqw2 : (i : Int) - 1 = (q : Int) := by omega
        have hqw3 : IntKind.i64.wrap (q : Int) = (q : Int) := by rw [IntKind.wrap_i64]; omega
        have hqT : q < T := by omega
        obtain ⟨v1, v2, v3, v4⟩ := hk'.cell (i := q) (by rw [hSlen]; omega)
        have hSq : S0 ++ F' = (S0 ++ P0) ++ (x, t0) :: (e :: Q') := by rw [hsplit, hP0]; simp
        have hql : q = (S0 ++ P0).length := by simp; omega
        rw [hSq, hql, (vE_at _ _ _).1, ← hql] at v1
        have xA1 := HJA.out.cell v1
        dsimp only at xA1
        clear v1 v2 v3 v4 hSq hql
        have hx : x < e.1 := by
          have := HP.out.1
          rw [hsplit, hP0] at this
          have := (List.pairwise_append.1 this).2.2 (x, t0) (by simp) e (by simp)
          exact this
        have hxe : ((x : Int) == (e.1 : Int)) = false := by simp; omega
        have HI : Hid (i = m + P.length ∧ P.length + (e :: Q').length = F'.length ∧ T = m + F'.length ∧ gk = (e :: Q').length ∧ F' = P ++ e :: Q') := ⟨hi, hlen, hT, hgk, hsplit⟩
        clear hC' hk' hFr hlen h8 hms hSlen hle' hT hi hsl hSi hSS hP0 hgk hsplit hq hkq hx
        go_upto_region 7 with fail
        generalize hwa : wr.alloc (.cells #[.int .u32 (e.1 : Int), .int .u32 (e.2 : Int)] 80) = wa at *
        clear hwa a1 a2 k1
        have p1 : ∀ n, (wa.drewN n).cell? ⟨d, 1031, none⟩ = some (.slice (some ⟨sb', 0, none⟩) T cap') := fun n => kA
        have p2 : ∀ n, (wa.drewN n).cell? ⟨sb', q * 2, none⟩ = some (.int .u32 (x : Int)) := fun n => xA1
        have p3 : ∀ n, (wa.drewN n).cell? ⟨wr.heap.size, 0, none⟩ = some (.int .u32 (e.1 : Int)) := fun n => b0
        go_quiet (fail)
        go_upto_region 10 with fail
        go_region
        all_goals go_wp2
        all_goals (go_roundg Q'.length)
        case measure => have := HI.out; simp at this; omega
        case rel =>
          obtain ⟨z1, z2⟩ := HKp.out _ (HJA.out.drewN _)
          obtain ⟨i1, i2, i3, i4, i5⟩ := HI.out
          exact ⟨P ++ [e], Q', i + 1, by rw [i5]; simp, z1, z2, by simp; omega, rfl, rfl, rfl⟩
end Go.Proofs.Ybulkakra

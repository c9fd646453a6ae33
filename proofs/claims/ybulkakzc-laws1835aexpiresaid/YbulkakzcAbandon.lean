/-
  THE REASSEMBLER of seat b1835a: abandon.
-/
import Derived.Test.YbulkakzcTail
namespace Go.Proofs.Ybulkakzc
open Go.RowKit
set_option linter.unusedSimpArgs false

set_option maxRecDepth 100000 in
set_option maxHeartbeats 2000000 in
theorem abandon_core (w : World) (rb pm am : Nat) (tmo mp nw ne held pk : Int) (pl al : List En) (st : List (Nat × Value)) (fl : List Fq) (mb : Nat) (k : K) (fw fe cost frag : Int) (start : Bool) (rs : ByteArray) (bs : List Nat)
    (hrel : Calls Yba.prog 27 #[P2 rb 0, P2 mb 0] (w.alloc (.cells dz 88)) fun e w' => e = .returned (.tuple #[]) ∧ Mid w w' rb pm am tmo mp nw ne held pk pl al st fl mb k fw fe cost frag start bs)
    (hfl : fl.length < 100000) (hmp : mp ≤ 100000) :
    Calls Yba.prog 15 #[P2 rb 0, P2 mb 0, .string rs] w fun e w' => ∃ al6 nb, e = .returned (.agg (dg k (ver start) rs frag)) ∧ keysOf al6 = kput k (keysOf (dropA mp al fl)) ∧ get k al6 = some (P2 nb 0) ∧
      Fin w w' rb pm am tmo mp nw ne held (if pk < ((dropF mp fl).length + 1 : Int) then ((dropF mp fl).length + 1 : Int) else pk) pl al6 st (dropF mp fl ++ [⟨nb, k, nw, ne⟩]) mb k fw fe cost frag start bs := by
  go_enter Yba.func15, Yba.ntmps15
  go_wp2_with fail
  refine hrel.mono ?_
  rintro e w1 ⟨rfl, hM⟩
  clear hrel
  go_wp2_with fail
  obtain ⟨C, hR⟩ := hM.rs
  have hl22 : C 22 = .int .i64 (fl.length : Int) := by have := hR.qf.len; rw [fgs_length] at this; exact this
  have HL : Hid (C 22 = .int .i64 (fl.length : Int)) := hl22
  clear hl22
  have hlim : 1 ≤ lim mp ∧ lim mp ≤ 100000 := by unfold lim; split <;> omega
  have hwr : IntKind.i64.wrap (16 * lim mp) = 16 * lim mp := by rw [IntKind.wrap_i64]; omega
  go_region_held3 (fun w' => w'.cell? ⟨rb, 0, none⟩ = some (.int .i64 0) ∧ w'.cell? ⟨rb, 1, none⟩ = some (.slice none 0 0) ∧ w'.cell? ⟨rb, 2, none⟩ = some (.bool false) ∧ w'.cell? ⟨rb, 3, none⟩ = some (.int .i64 0) ∧ w'.cell? ⟨rb, 4, none⟩ = some (.int .i64 tmo) ∧ w'.cell? ⟨rb, 5, none⟩ = some (.int .i64 mp) ∧ w'.cell? ⟨rb, 6, none⟩ = some (.int .i64 0) ∧ w'.cell? ⟨rb, 22, none⟩ = some (.int .i64 (fl.length : Int)) ∧ w'.rowIs rb 47 26 C)
    (first | exact seeDec hR.row.drew hR.rc HL.out | assumption | exact seeDec_alloc hR.rc HL.out (by assumption))
    (first | (go_at_call 10; refine (len_any _ rb 18 (fl.length : Int) ?_).mono ?_; exact see22 (by assumption); rintro e w5 ⟨rfl, rfl⟩) | (go_at_call 12; refine (maxp_any _ tmo mp).mono ?_; rintro e w5 ⟨rfl, o5, rfl⟩))
  go_upto_if 21 with fail
  have hM2 := (hM.alloc o5).drew
  generalize hw2 : (w1.alloc o5).drew = w2 at hM2 ⊢
  clear hw2 hM HL hR
  obtain ⟨C, hR⟩ := hM2.rs
  go_cut [] (fun wx => Mid w wx rb pm am tmo mp nw ne held pk pl (dropA mp al fl) st (dropF mp fl) mb k fw fe cost frag start bs)
  case first =>
    by_cases hfull : 16 * lim mp ≤ (fl.length : Int)
    · have HF : Hid (16 * lim mp ≤ (fl.length : Int)) := hfull
      cases fl with
      | nil => simp at hfull; omega
      | cons x fl =>
        have d4 := hR.row.cell (i := 22) (by omega)
        have d0 := hR.row.cell (i := 18) (by omega)
        have hl := hR.ringF.len
        have hh := hR.ringF.hd
        rw [show (18 + 4 : Nat) = 22 from rfl] at hl
        rw [hl] at d4
        rw [hh] at d0
        simp only [hdOf] at d0
        rw [show ((x.b, av x.k x.aw x.ae) :: List.map (fun x => (x.b, av x.k x.aw x.ae)) fl) = fgs (x :: fl) from rfl, fgs_length] at d4
        have hfull' : decide (16 * lim mp ≤ ((x :: fl).length : Int)) = true := by simpa using hfull
        go_wp2_with fail
        refine (front_some _ rb 18 (x :: fl).length (P2 x.b 0) (by simp) d4 d0).mono ?_
        rintro e w3 ⟨rfl, rfl⟩
        go_wp2_with fail
        refine (forget_any _ rb pm am _ tmo mp nw ne held pk pl al st (fgs fl) x.b x.k x.aw x.ae (by simp [fgs_length] at hfl ⊢; omega) hR).mono ?_
        rintro e w4 ⟨rfl, hR4, hz4, hF4⟩
        have hM4 := hM2.forget hR4 hF4
        go_wp2
        go_meet
        case rel =>
          have e1 : dropF mp (x :: fl) = fl := by unfold dropF; rw [if_pos HF.out]; rfl
          have e2 : dropA mp al (x :: fl) = dele x.k al := by unfold dropA; rw [if_pos HF.out]
          rw [e1, e2]
          exact hM4
    · have HF : Hid (¬ 16 * lim mp ≤ (fl.length : Int)) := hfull
      have hfull' : decide (16 * lim mp ≤ (fl.length : Int)) = false := by simpa using hfull
      go_wp2
      go_meet
      case rel =>
        have e1 : dropF mp fl = fl := by unfold dropF; rw [if_neg (by have := HF.out; omega)]
        have e2 : dropA mp al fl = al := by unfold dropA; rw [if_neg (by have := HF.out; omega)]
        rw [e1, e2]
        exact hM2
  case rest =>
    clear hM2 hR
    have hfl1 : (dropF mp fl).length ≤ fl.length := by unfold dropF; split <;> simp
    generalize hal1 : dropA mp al fl = al1 at hcut
    generalize hfl2 : dropF mp fl = fl1 at hcut hfl1
    obtain ⟨C1, hR1⟩ := hcut.rs
    obtain ⟨ca, ha⟩ := hR1.amap
    have hpb : am ∉ blks (fgs fl1) := ne_map_dq ha hR1.qf
    have har : am ≠ rb := ne_map_row ha hR1.row
    have hal := lt_of_block ha
    have HA : Hid (wc.heap[am]? = some (.map (ents al1) ca)) := ha
    clear ha
    go_wp2_with fail
    go_region_held3 (fun w' => w'.cell? ⟨rb, 17, none⟩ = some (.map (some am)) ∧ w'.cell? ⟨rb, 7, none⟩ = some (.int .u64 nw) ∧ w'.cell? ⟨rb, 8, none⟩ = some (.int .i64 ne) ∧ w'.cell? ⟨rb, 9, none⟩ = some (.pointer none) ∧ w'.cell? ⟨mb, 0, none⟩ = some (.int .u64 0) ∧ w'.cell? ⟨mb, 1, none⟩ = some (.int .u64 0) ∧ w'.cell? ⟨mb, 2, none⟩ = some (.pointer none) ∧ w'.cell? ⟨mb, 3, none⟩ = some (.int .u16 k.s) ∧ w'.cell? ⟨mb, 4, none⟩ = some (.int .u64 0) ∧ w'.cell? ⟨mb, 5, none⟩ = some (.int .u64 0) ∧ w'.cell? ⟨mb, 6, none⟩ = some (.pointer none) ∧ w'.cell? ⟨mb, 7, none⟩ = some (.int .u16 k.d) ∧ w'.cell? ⟨mb, 8, none⟩ = some (.int .u32 k.i))
      (first | exact seeKey hR1.row.drew hR1.rc hcut.drew.msg | assumption)
      (first | (go_at_call 7; refine (push_any _ rb 18 C1 (fgs fl1) 63 _ (by omega) hR1.row.drew hR1.drew.qf (by rw [fgs_length]; omega)).mono ?_; rintro e w5 ⟨rfl, hz5, C5, hr5, hRing5, hC5, hQ5⟩; obtain ⟨w6, c6, al6, hup, ho6, hb6, hk6, hg6, _⟩ := mapUpdate_run (w := w5) 43 37 Yba.underlying43 ((hQ5.block am hal har hpb).trans HA.out) k (P2 wc.heap.size 0); obtain ⟨hM6, hS5, hS6⟩ := hcut.drew.push hR1.drew hz5 hr5 hRing5 hC5 hQ5 ho6 hb6; have hup0 := hup 0; simp only [World.drewN_zero, kv, kc] at hup0; clear hup))
    generalize hfl3 : fl1 ++ [(⟨wc.drew.heap.size, k, nw, ne⟩ : Fq)] = fl3 at hM6
    obtain ⟨C6, hR6⟩ := hM6.rs
    have k25 := (hR6.row.cell (i := 25) (by omega)).trans (congrArg some hR6.rc.c25)
    have f25 := hR6.row.frozen 25
    have k22 := hR6.row.cell (i := 22) (by omega)
    have hl6 := hR6.qf.len
    rw [show (18 + 4 : Nat) = 22 from rfl, fgs_length] at hl6
    rw [hl6] at k22
    clear hl6
    go_wp2_with fail
    go_cut [] (fun wx => Mid w wx rb pm am tmo mp nw ne held (if pk < (fl3.length : Int) then (fl3.length : Int) else pk) pl al6 st fl3 mb k fw fe cost frag start bs)
    case first =>
      by_cases hpk : pk < (fl3.length : Int)
      · have HP : Hid (pk < (fl3.length : Int)) := hpk
        go_region_with (first | (go_at_call 10; refine (len_any _ rb 18 (fl3.length : Int) ?_).mono ?_; exact k22; rintro e w7 ⟨rfl, rfl⟩))
        all_goals
          go_wp2_with fail
          go_meet
          case rel => rw [if_pos HP.out]; exact (hM6.peak hR6 _).drew
      · have HP : Hid (¬ pk < (fl3.length : Int)) := hpk
        go_region_with (first | (go_at_call 10; refine (len_any _ rb 18 (fl3.length : Int) ?_).mono ?_; exact k22; rintro e w7 ⟨rfl, rfl⟩))
        all_goals
          go_wp2_with fail
          go_meet
          case rel => rw [if_neg (by have := HP.out; omega)]; exact (hM6.peak hR6 _).drew
    case rest =>
      clear hM6 hR6 k25 f25 k22 hS5 hS6 hup0 ho6 hb6 hr5 hRing5 hC5 hQ5 hz5
      generalize hpk : (if pk < (fl3.length : Int) then (fl3.length : Int) else pk) = pk3 at hcut
      apply_assumption
      refine abandon_tail w wc rb pm am tmo mp nw ne held pk3 pl al6 st fl3 mb k fw fe cost frag start rs bs _ _ _ _ _ _ _ _ _ _ _ _ _ _ _ _ _ _ _ _ _ _ _ _ _ _ _ _ _ _ _ _ _ _ _ _ _ _ _ _ _ _ _ _ _ _ _ _ _ _ _ _ _ _ _ _ _ _ _ _ _ _ _ _ _ _ _ _ _ _ _ _ _ _ _ _ _ _ _ _ _ _ _ _ hcut ?_
      intro w9 hF
      subst hpk hfl3 hfl2 hal1
      refine ⟨al6, _, rfl, hk6, hg6, ?_⟩
      rw [show ((dropF mp fl ++ [(⟨_, k, nw, ne⟩ : Fq)]).length : Int) = ((dropF mp fl).length : Int) + 1 by simp] at hF
      exact hF
end Go.Proofs.Ybulkakzc

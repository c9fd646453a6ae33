/-
  THE WALK of seat b1827a's refresh (8).
-/
import Derived.Test.YbulkakuuRefMem
namespace Go.Proofs.Ybulkakuu.Ref
open Go.RowKit

theorem bdrewN (B : Nat) (w : World) (k : Nat) : Below B w (w.drewN k) := ⟨rfl, rfl, rfl, Nat.le_refl _, fun _ _ => rfl⟩

set_option maxRecDepth 100000 in
set_option maxHeartbeats 2000000 in
theorem refresh_no (w : World) (n N N1 N2 B : Nat) (r q f : SetAt) (ty ln : Nat → Nat) (C : Nat → Nat → Value) (R RQ RF : Nat → Bool) (loc : Nat → Int) (P U K Q F ER EQ EF : Nat → Bool) (u i : Nat)
    (hn : n ≤ 1024) (hu : u < n) (hi : i < n) (hm : Mem w n N N1 N2 B r q f ty ln C R RQ RF) (hc : Con n N r q f ln C loc P U K Q F ER EQ EF) (hloc : loc u = (i : Int)) (hgo : (!P u && !U u && !K u) = false) :
    Calls Yba.prog 8 #[.pointer (some ⟨N + 1, 0, none⟩), .int .i64 (u : Int)] w fun e w' => e = .returned (.tuple #[]) ∧ Below B w w' ∧ Mem w' n N N1 N2 B r q f ty ln C (del R i) (del RQ i) (del RF i) := by
  have hui : (u : Int) < (n : Int) := by omega
  have hu64 : u / 64 < wds n := by unfold wds; omega
  have l1 := hc.l1
  have l0 := hc.l0
  have k39 := hm.cell 1 39 _ (by omega) (by omega) hc.s39
  have k40 := hm.cell 1 40 _ (by omega) (by omega) hc.s40
  have k41 := hm.cell 1 41 _ (by omega) (by omega) hc.s41
  have k28 := hm.cell 1 28 _ (by omega) (by omega) hc.s28
  have k34 := hm.cell 1 34 _ (by omega) (by omega) hc.s34
  have k35 := hm.cell 1 35 _ (by omega) (by omega) hc.s35
  have k2 := hm.cell 2 0 _ (by omega) (by rw [hc.l2]; omega) hc.c2
  have k3 := hm.cell 3 u _ (by omega) (by rw [hc.l3]; omega) (hc.c3 u hu)
  have k4 := hm.cell 4 u _ (by omega) (by rw [hc.l4]; omega) (hc.c4 u hu)
  have k6 := hm.cell 6 u _ (by omega) (by rw [hc.l6]; omega) (hc.c6 u hu)
  have k7 := hm.cell 7 u _ (by omega) (by rw [hc.l7]; omega) (hc.c7 u hu)
  rw [hloc] at k4
  have p5 := hm.cell 0 5 _ (by omega) (by omega) hc.p5
  have p6 := hm.cell 0 6 _ (by omega) (by omega) hc.p6
  have p7 := hm.cell 0 7 _ (by omega) (by omega) hc.p7
  rw [Nat.add_zero] at p5 p6 p7
  have k5 := hm.cell 5 (u / 64) _ (by omega) (by rw [hc.l5]; omega) (hc.c5 (u / 64) hu64)
  have HC : Hid (Con n N r q f ln C loc P U K Q F ER EQ EF) := hc
  have hz0 := hm.lt (j := 0) (by omega)
  have hz1 := hm.lt (j := 1) (by omega)
  clear hc
  have hgo' : (P u = true) ∨ (P u = false ∧ U u = true) ∨ (P u = false ∧ U u = false ∧ K u = true) := by
    cases hP : P u <;> cases hU : U u <;> cases hK : K u <;> simp [hP, hU, hK] at hgo ⊢
  clear hgo
  rcases hgo' with hP | ⟨hP, hU⟩ | ⟨hP, hU, hK⟩
  all_goals
    first | (rw [hU] at k6; simp only [if_true, Bool.false_eq_true, if_false] at k6) | skip
    go_enter Yba.func8, Yba.ntmps8
    go_wp2
    go_quiet (fail)
    go_wp2_with fail
    refine (placed_any (N + 1) (N + 5) (wds n) u P _ hu64 (by omega) (by exact k28) (by exact k5)).mono ?_
    rintro e w1 ⟨rfl, kd, rfl⟩
    go_wp2_with fail
    refine (rem_any n r i R _ hn hi ((hm.drewN _).sr)).mono ?_
    rintro e w1 ⟨rfl, hb1, hs1⟩
    have hbel1 := (hm.drewN _).belowR hb1
    have hm1 := (hm.drewN _).setR hb1 hs1
    have p6' := hm1.cell 0 6 _ (by omega) (by omega) HC.out.p6
    rw [Nat.add_zero] at p6'
    clear hb1 hs1
    go_wp2_with fail
    refine (rem_any n q i RQ _ hn hi hm1.sq).mono ?_
    rintro e w2 ⟨rfl, hb2, hs2⟩
    have hbel2 := hm1.belowQ hb2
    have hm2 := hm1.setQ hb2 hs2
    have p7' := hm2.cell 0 7 _ (by omega) (by omega) HC.out.p7
    rw [Nat.add_zero] at p7'
    clear hb2 hs2
    go_wp2_with fail
    refine (rem_any n f i RF _ hn hi hm2.sf).mono ?_
    rintro e w3 ⟨rfl, hb3, hs3⟩
    have hbel3 := hm2.belowF hb3
    have hm3 := hm2.setF hb3 hs3
    clear hb3 hs3
    go_wp2
    go_end0
    exact ⟨rfl, (((bdrewN _ _ _).trans hbel1).trans hbel2).trans hbel3, hm3⟩

set_option maxRecDepth 100000 in
set_option maxHeartbeats 2000000 in
theorem refresh_yes (w : World) (n N N1 N2 B : Nat) (r q f : SetAt) (ty ln : Nat → Nat) (C : Nat → Nat → Value) (R RQ RF : Nat → Bool) (loc : Nat → Int) (P U K Q F ER EQ EF : Nat → Bool) (u i : Nat)
    (hn : n ≤ 1024) (hu : u < n) (hi : i < n) (hm : Mem w n N N1 N2 B r q f ty ln C R RQ RF) (hc : Con n N r q f ln C loc P U K Q F ER EQ EF) (hloc : loc u = (i : Int)) (hgo : (!P u && !U u && !K u) = true) :
    Calls Yba.prog 8 #[.pointer (some ⟨N + 1, 0, none⟩), .int .i64 (u : Int)] w fun e w' => e = .returned (.tuple #[]) ∧ Below B w w' ∧ Mem w' n N N1 N2 B r q f ty ln C (ins R i) (if Q u then ins RQ i else RQ) (if F u then ins RF i else RF) := by
  have hui : (u : Int) < (n : Int) := by omega
  have hu64 : u / 64 < wds n := by unfold wds; omega
  have l1 := hc.l1
  have l0 := hc.l0
  have k39 := hm.cell 1 39 _ (by omega) (by omega) hc.s39
  have k40 := hm.cell 1 40 _ (by omega) (by omega) hc.s40
  have k41 := hm.cell 1 41 _ (by omega) (by omega) hc.s41
  have k28 := hm.cell 1 28 _ (by omega) (by omega) hc.s28
  have k34 := hm.cell 1 34 _ (by omega) (by omega) hc.s34
  have k35 := hm.cell 1 35 _ (by omega) (by omega) hc.s35
  have k77 := hm.cell 1 7 _ (by omega) (by omega) hc.s7
  have k88 := hm.cell 1 8 _ (by omega) (by omega) hc.s8
  have k2 := hm.cell 2 0 _ (by omega) (by rw [hc.l2]; omega) hc.c2
  have k3 := hm.cell 3 u _ (by omega) (by rw [hc.l3]; omega) (hc.c3 u hu)
  have k4 := hm.cell 4 u _ (by omega) (by rw [hc.l4]; omega) (hc.c4 u hu)
  have k6 := hm.cell 6 u _ (by omega) (by rw [hc.l6]; omega) (hc.c6 u hu)
  have k7 := hm.cell 7 u _ (by omega) (by rw [hc.l7]; omega) (hc.c7 u hu)
  rw [hloc] at k4
  have p5 := hm.cell 0 5 _ (by omega) (by omega) hc.p5
  have p6 := hm.cell 0 6 _ (by omega) (by omega) hc.p6
  have p7 := hm.cell 0 7 _ (by omega) (by omega) hc.p7
  rw [Nat.add_zero] at p5 p6 p7
  have k5 := hm.cell 5 (u / 64) _ (by omega) (by rw [hc.l5]; omega) (hc.c5 (u / 64) hu64)
  have HC : Hid (Con n N r q f ln C loc P U K Q F ER EQ EF) := hc
  have hz0 := hm.lt (j := 0) (by omega)
  have hz1 := hm.lt (j := 1) (by omega)
  clear hc
  have hgo' : P u = false ∧ U u = false ∧ K u = false := by
    cases hP : P u <;> cases hU : U u <;> cases hK : K u <;> simp [hP, hU, hK] at hgo ⊢
  clear hgo
  obtain ⟨hP, hU, hK⟩ := hgo'
  rw [hU] at k6
  simp only [Bool.false_eq_true, if_false] at k6
  cases hQ : Q u <;> cases hF : F u
  all_goals
    go_enter Yba.func8, Yba.ntmps8
    go_wp2
    go_quiet (fail)
    go_wp2_with fail
    refine (placed_any (N + 1) (N + 5) (wds n) u P _ hu64 (by omega) (by exact k28) (by exact k5)).mono ?_
    rintro e w1 ⟨rfl, kd, rfl⟩
    go_wp2_with fail
    refine (add_any n r i R _ hn hi ((hm.drewN _).sr)).mono ?_
    rintro e w1 ⟨rfl, hb1, hs1⟩
    have hbel1 := (hm.drewN _).belowR hb1
    have hm1 := (hm.drewN _).setR hb1 hs1
    have g7 := hm1.cell 1 7 _ (by omega) (by omega) HC.out.s7
    have g8 := hm1.cell 8 u _ (by omega) (by rw [HC.out.l8]; omega) (HC.out.c8 u hu)
    have p6' := hm1.cell 0 6 _ (by omega) (by omega) HC.out.p6
    have g88 := hm1.cell 1 8 _ (by omega) (by omega) HC.out.s8
    have g9 := hm1.cell 9 u _ (by omega) (by rw [HC.out.l9]; omega) (HC.out.c9 u hu)
    have p7' := hm1.cell 0 7 _ (by omega) (by omega) HC.out.p7
    rw [Nat.add_zero] at p6' p7'
    clear hb1 hs1
    go_wp2_with fail
  · refine bodyPost_ret (results_none rfl _ _ _) rfl ?_
    exact ⟨rfl, (bdrewN _ _ _).trans hbel1, hm1⟩
  · refine (add_any n f i RF _ hn hi hm1.sf).mono ?_
    rintro e w3 ⟨rfl, hb3, hs3⟩
    have hbel3 := hm1.belowF hb3
    have hm3 := hm1.setF hb3 hs3
    clear hb3 hs3
    go_wp2
    refine bodyPost_ret (results_none rfl _ _ _) rfl ?_
    exact ⟨rfl, ((bdrewN _ _ _).trans hbel1).trans hbel3, hm3⟩
  · refine (add_any n q i RQ _ hn hi hm1.sq).mono ?_
    rintro e w2 ⟨rfl, hb2, hs2⟩
    have hbel2 := hm1.belowQ hb2
    have hm2 := hm1.setQ hb2 hs2
    have g88' := hm2.cell 1 8 _ (by omega) (by omega) HC.out.s8
    have g9' := hm2.cell 9 u _ (by omega) (by rw [HC.out.l9]; omega) (HC.out.c9 u hu)
    clear hb2 hs2
    go_wp2
    refine bodyPost_ret (results_none rfl _ _ _) rfl ?_
    exact ⟨rfl, ((bdrewN _ _ _).trans hbel1).trans hbel2, hm2⟩
  · refine (add_any n q i RQ _ hn hi hm1.sq).mono ?_
    rintro e w2 ⟨rfl, hb2, hs2⟩
    have hbel2 := hm1.belowQ hb2
    have hm2 := hm1.setQ hb2 hs2
    have g88' := hm2.cell 1 8 _ (by omega) (by omega) HC.out.s8
    have g9' := hm2.cell 9 u _ (by omega) (by rw [HC.out.l9]; omega) (HC.out.c9 u hu)
    have p7'' := hm2.cell 0 7 _ (by omega) (by omega) HC.out.p7
    rw [Nat.add_zero] at p7''
    clear hb2 hs2
    go_wp2_with fail
    refine (add_any n f i RF _ hn hi hm2.sf).mono ?_
    rintro e w3 ⟨rfl, hb3, hs3⟩
    have hbel3 := hm2.belowF hb3
    have hm3 := hm2.setF hb3 hs3
    clear hb3 hs3
    go_wp2
    refine bodyPost_ret (results_none rfl _ _ _) rfl ?_
    exact ⟨rfl, (((bdrewN _ _ _).trans hbel1).trans hbel2).trans hbel3, hm3⟩
end Go.Proofs.Ybulkakuu.Ref

/-
  nodes.init, New of seat b1820a.
-/
import Derived.Test.YbulkakraInit
namespace Go.Proofs.Ybulkakra
open Go.RowKit
set_option linter.unusedSimpArgs false
set_option linter.unusedVariables false

def N0 : List Nd := [(TT, []), (TT, [])]
theorem N0_wf : Wf N0 := by
  refine ⟨by decide, rfl, rfl, fun i h1 h2 => ?_, fun i j h1 h2 => ?_⟩
  · simp [N0] at h2; omega
  · simp [N0] at h2; omega
/-- nodes.init. -/
structure NI (tg : Nat → Nat) (w : World) (d : Nat) (C : Nat → Value) (tg' : Nat → Nat) (w' : World) (C' : Nat → Value) : Prop where
  row : Row w' d 1035 C'
  out : ∀ i, 515 ≤ i → C' i = C i
  two : C' 2 = C 2
  nodes : NodesOk tg' w' C' N0
  parts : PartsOk tg' w' C' N0
  fr : Fr (fun r => r = 1 ∨ r = 4 ∨ r = 5) tg w tg' w'
theorem first_nodes {w w' : World} {d : Nat} {C : Nat → Value} {tg : Nat → Nat} (h : FirstP w w' d 0 1035 C tg 5 4 3 [.int .u32 (TT : Int), .int .u32 0, .int .u32 0]) (ht : tg d = 1) :
    ∃ tg' C', Row w' d 1035 C' ∧ (∀ i, i ≠ 0 → i ≠ 1 → C' i = C i) ∧ NodesOk tg' w' C' [(TT, [])] ∧ Fr (· = 1) tg w tg' w' := by
  obtain ⟨ob, cb, c0, tg', g, f0, r1, r2, r3, r4, r5, r6, r7, r8, r9⟩ := h
  refine ⟨tg', _, r1, fun i h1 h2 => by rw [up1_other _ _ h2, up1_other _ _ h1], ⟨ob, cb, c0, _, _, ?_, ?_, r3, r2, ?_, r4, r5, r6, ?_⟩, r9.mono fun r e => by rw [e, ht]⟩
  · rw [up1_other _ _ (by omega), up1_same]
  · exact up1_same ..
  · rw [up1_same]; rfl
  · intro i hi
    have : i = 0 := by simp at hi; omega
    subst this
    exact ⟨rfl, rfl, rfl⟩
theorem nodes_init (tg : Nat → Nat) (w : World) (d : Nat) (C : Nat → Value) (hd : Row w d 1035 C) (ht : tg d = 1) (h0 : C 0 = .slice none 0 0) (h1 : C 1 = .int .i64 0) :
    Calls Yba.prog 15 #[.pointer (some ⟨d, 0, none⟩)] w fun e w' => e = .returned (.tuple #[]) ∧ ∃ tg' C', NI tg w d C tg' w' C' := by
  have HA : Hid _ := nodes_add1 tg w d C TT hd ht h0 h1
  have hdl := hd.lt (by omega)
  have HTT : Hid (∀ (K : Value → Prop), K (.int .u32 (TT : Int)) → K (.int .u32 4294967295)) := fun K h => h
  clear hd
  have HA2 : Hid (Calls Yba.prog 26 #[.pointer (some ⟨d, 0, none⟩), .int .u32 4294967295, .slice none 0 0] w fun e w' => (∃ v, e = .returned v) ∧ FirstP w w' d 0 1035 C tg 5 4 3 [.int .u32 (TT : Int), .int .u32 0, .int .u32 0]) := HA.out
  clear HA HTT
  go_enter Yba.func15, Yba.ntmps15
  go_wp2_with fail
  refine Calls.mono HA2.out ?_
  rintro e w1 ⟨⟨v1, rfl⟩, hF⟩
  dsimp only
  obtain ⟨tg1, C1, a1, a2, a3, a4⟩ := first_nodes hF ht
  have t1 : tg1 d = 1 := (a4.tag d hdl).trans ht
  have HB : Hid (Calls Yba.prog 26 #[.pointer (some ⟨d, 0, none⟩), .int .u32 4294967295, .slice none 0 0] w1 fun e w' => (∃ v, e = .returned v) ∧ NAddP tg1 w1 w' d C1 [(TT, [])] (TT, [])) := nodes_add0 tg1 w1 d C1 [(TT, [])] TT a1 t1 a3 rfl (by simp)
  have A : Hid (Row w1 d 1035 C1 ∧ (∀ i, i ≠ 0 → i ≠ 1 → C1 i = C i) ∧ Fr (· = 1) tg w tg1 w1) := ⟨a1, a2, a4⟩
  clear hF a1 a2 a3 a4
  go_wp2_with fail
  refine Calls.mono HB.out ?_
  rintro e w2 ⟨⟨v2, rfl⟩, C2, b1, b2, b3, b4⟩
  dsimp only
  have hdl1 : d < w1.heap.size := A.out.1.lt (by omega)
  have HT : Hid _ := table_init tg1 w2 d 3 C2 (fun j => 10 + j) b1 (by omega)
  have B : Hid (Row w2 d 1035 C2 ∧ (∀ i, i ≠ 1 → C2 i = C1 i) ∧ NodesOk tg1 w2 C2 ([(TT, [])] ++ [(TT, [])]) ∧ Fr (fun r => r = 1 ∨ r = 4 ∨ r = 5) tg1 w1 tg1 w2) := ⟨b1, b2, b3, b4⟩
  clear b1 b2 b3 b4
  go_wp2_with fail
  refine Calls.mono HT.out ?_
  rintro e w3 ⟨rfl, tg3, C3, hTI⟩
  dsimp only
  have T : Hid _ := hTI
  clear hTI
  go_wp2
  go_end0
  obtain ⟨a1, a2, a4⟩ := A.out
  obtain ⟨b1, b2, b3, b4⟩ := B.out
  have hT := T.out
  have hf3 : Fr (fun r => r = 1) tg1 w2 tg3 w3 := hT.fr.mono fun r e => by rw [e, t1]
  refine ⟨rfl, tg3, C3, hT.row, fun i hi => ?_, ?_, ?_, fun j hj => ?_, ?_⟩
  · rw [hT.out i (by omega), b2 i (by omega), a2 i (by omega) (by omega)]
  · rw [hT.out 2 (by omega), b2 2 (by omega), a2 2 (by omega) (by omega)]
  · exact b3.fr hf3 (by omega) (by omega) (hT.out 0 (by omega)) (hT.out 1 (by omega))
  · obtain ⟨sb, e1, e2, e3, e4, e5⟩ := hT.parts j hj
    exact ⟨sb, 4, 0, fun _ => (0, 0), e1, e2, e3, e4, Tab.new 2 (by omega), by omega, by omega, by omega, fun k hk h => absurd rfl h, fun i h1 h2 => by simp [N0] at h2; omega⟩
  · exact ((a4.mono fun r h => .inl h).trans b4).trans (hf3.mono fun r h => .inl h)
/-- The cells of a new Store. -/
theorem store_cells : ∃ X : Value → Array Value, (∀ v, (X v).size = 1035) ∧ (∀ v, (X v)[0]? = some (.slice none 0 0)) ∧ (∀ v, (X v)[1]? = some (.int .i64 0)) ∧ (∀ v, (X v)[2]? = some (.slice none 0 0)) ∧ (∀ v, (X v)[515]? = some (.slice none 0 0)) ∧ (∀ v, (X v)[516]? = some (.int .i64 0)) ∧ (∀ v, (X v)[1030]? = some v) ∧ (∀ v, (X v)[1031]? = some (.slice none 0 0)) ∧ (∀ v, (X v)[1033]? = some (.chan none)) ∧ (∀ v, (X v)[1034]? = some (.int .u64 0)) ∧
    (∀ v, Yba.zeroCells68.setIfInBounds 1030 v = X v) :=
  ⟨fun v => Yba.zeroCells68.setIfInBounds 1030 v,
    fun v => by kernel_rfl, fun v => by kernel_rfl, fun v => by kernel_rfl, fun v => by kernel_rfl, fun v => by kernel_rfl, fun v => by kernel_rfl, fun v => by kernel_rfl, fun v => by kernel_rfl, fun v => by kernel_rfl, fun v => by kernel_rfl, fun v => rfl⟩
/-- What New leaves. -/
def NewP (w w' : World) (d : Nat) : Prop := ∃ tg, St tg w' d N0 [] ∧ Jk w w' ∧ (∀ b, b < w.heap.size → tg b = 0) ∧ w.heap.size ≤ d ∧ tg (d + 1) = 0
/-- The relations' list behind its first add. -/
theorem rel_again (tg : Nat → Nat) (w : World) (d : Nat) (C : Nat → Value) (ob cb c0 : Nat) (g h : Nat → Value) (x y z u : Int) (hd : Row w d 1035 C) (h0 : C 515 = .slice (some ⟨ob, 0, none⟩) 1 c0) (h1 : C 516 = .int .i64 1) (one : 1 ≤ c0) (ho : Row w ob c0 g) (g0 : g 0 = .slice (some ⟨cb, 0, none⟩) 1 65536) (hc : Row w cb (65536 * 4) h) (n1 : d ≠ ob) (n2 : cb ≠ d) (n3 : cb ≠ ob) (t1 : tg d = 1) (t2 : tg ob = 8) (t3 : tg cb = 9) :
    Calls Yba.prog 14 #[.pointer (some ⟨d, 515, none⟩), .agg #[.int .u32 x, .int .u32 y, .int .u32 z, .int .u32 u]] w fun e w' => e = .returned (.tuple #[]) ∧ Row w' d 1035 (up1 C 516 (.int .i64 2)) ∧ Fr (fun r => r = 1 ∨ r = 8 ∨ r = 9) tg w tg w' := by
  refine (rel_more w d 515 ob cb 1 c0 x y z u (by rw [(hd 515 (by omega)).1, h0]) (by rw [(hd 516 (by omega)).1, h1]; rfl) (hd 516 (by omega)).2 (by rw [(ho 0 one).1, g0]) (ho 0 one).2 (by omega) (fun j hj => ?_) n1 n2 n3).mono ?_
  · have := hc (1 * 4 + j) (by omega)
    exact ⟨by rw [this.1]; rfl, this.2⟩
  rintro e w' ⟨rfl, M, rfl⟩
  obtain ⟨O, hO⟩ : ∃ O, O = Obj.cells #[.int .u32 x, .int .u32 y, .int .u32 z, .int .u32 u] 72 := ⟨_, rfl⟩
  rw [← hO]
  have a1 : Row (((w.alloc O).drewN M).alloc O) d 1035 C := Row.alloc (w := (w.alloc O).drewN M) (hd.alloc (by omega) O) (by omega) O
  have a2 : Row (((w.alloc O).drewN M).alloc O) ob c0 g := Row.alloc (w := (w.alloc O).drewN M) (ho.alloc one O) one O
  have a3 : Row (((w.alloc O).drewN M).alloc O) cb (65536 * 4) h := Row.alloc (w := (w.alloc O).drewN M) (hc.alloc (by omega) O) (by omega) O
  obtain ⟨r1, r2, r3⟩ := add_rows (n := 1) (z := 4) (o := 515 + 1) [.int .u32 x, .int .u32 y, .int .u32 z, .int .u32 u] (.slice (some ⟨cb, 0, none⟩) (1 + 1) 65536) (.int .i64 (((1 : Nat) : Int) + 1)) a1 a2 a3 n1 n2 n3
  refine ⟨rfl, r1, ?_⟩
  exact ((Fr.setL (.inr (.inr (.inr t3))) _ ((((Fr.refl _ tg w).alloc0 O).drewN M).alloc0 O) _).set (a := ⟨ob, 0, none⟩) (.inr (.inr (.inl t2))) _).set (a := ⟨d, 515 + 1, none⟩) (.inr (.inl t1)) _
set_option maxRecDepth 100000 in
set_option maxHeartbeats 400000 in
theorem new_any (w : World) : Calls Yba.prog 5 #[] w fun e w' => ∃ d, e = .returned (.pointer (some ⟨d, 0, none⟩)) ∧ NewP w w' d := by
  obtain ⟨cs, hcs, hcf, hmk⟩ := mk_zero zero42 (by omega) 65536 65536 (by omega) (by omega)
  have hmk' : ∀ w : World, Sem.run Yba.prog (Instr.makeSlice 42 (.int .i64 65536) (.int .i64 65536)) w = .ok (.slice (some ⟨w.heap.size, 0, none⟩) 65536 65536) (w.alloc (.cells cs 83)) := hmk
  obtain ⟨X, x0, x1, x2, x3, x4, x5, x6, x7, x8, x9, hX⟩ := store_cells
  have HCF : Hid _ := hcf
  have HX : Hid _ := hX
  clear hcf hmk hX
  go_enter Yba.func5, Yba.ntmps5
  go_upto_region 2 with fail
  rw [HX.out]
  obtain ⟨cv, hcv⟩ : ∃ cv, cv = Value.slice (some ⟨w.heap.size, 0, none⟩) 65536 65536 := ⟨_, rfl⟩
  rw [← hcv]
  obtain ⟨d, hd⟩ : ∃ d, d = w.heap.size + 1 := ⟨_, rfl⟩
  obtain ⟨tg, htg⟩ : ∃ t, t = tagAt (tagAt (fun _ => 0) w.heap.size 2) (w.heap.size + 1) 1 := ⟨_, rfl⟩
  obtain ⟨C, hC⟩ : ∃ C : Nat → Value, C = fun i => ((X cv)[i]?).getD (.bool true) := ⟨_, rfl⟩
  have hsz1 := World.size_alloc w (.cells cs 83)
  have hsz2 := World.size_alloc (w.alloc (.cells cs 83)) (.cells (X cv) 68)
  have hrow : Row ((w.alloc (.cells cs 83)).alloc (.cells (X cv) 68)) d 1035 C := by
    have := Row.new (w.alloc (.cells cs 83)) (X cv) 68 1035 C (fun i hi => by
      rw [hC]
      show _ = some (((X cv)[i]?).getD _)
      rw [Array.getElem?_eq_getElem (by rw [x0]; exact hi)]
      rfl)
    rw [hsz1, ← hd] at this
    exact this
  have hcrow : Row ((w.alloc (.cells cs 83)).alloc (.cells (X cv) 68)) w.heap.size (65536 * 4) (fun _ => .int .u32 0) := (Row.new w cs 83 (65536 * 4) (fun _ => .int .u32 0) HCF.out).alloc (by omega) _
  have hjk : Jk w ((w.alloc (.cells cs 83)).alloc (.cells (X cv) 68)) := ((Jk.refl w).alloc _).alloc _
  have c0 : C 0 = .slice none 0 0 := by rw [hC]; show ((X cv)[0]?).getD _ = _; rw [x1]; rfl
  have c1 : C 1 = .int .i64 0 := by rw [hC]; show ((X cv)[1]?).getD _ = _; rw [x2]; rfl
  have c2 : C 2 = .slice none 0 0 := by rw [hC]; show ((X cv)[2]?).getD _ = _; rw [x3]; rfl
  have c515 : C 515 = .slice none 0 0 := by rw [hC]; show ((X cv)[515]?).getD _ = _; rw [x4]; rfl
  have c516 : C 516 = .int .i64 0 := by rw [hC]; show ((X cv)[516]?).getD _ = _; rw [x5]; rfl
  have c1030 : C 1030 = cv := by rw [hC]; show ((X cv)[1030]?).getD _ = _; rw [x6]; rfl
  have c1031 : C 1031 = .slice none 0 0 := by rw [hC]; show ((X cv)[1031]?).getD _ = _; rw [x7]; rfl
  have c1033 : C 1033 = .chan none := by rw [hC]; show ((X cv)[1033]?).getD _ = _; rw [x8]; rfl
  have c1034 : C 1034 = .int .u64 0 := by rw [hC]; show ((X cv)[1034]?).getD _ = _; rw [x9]; rfl
  have t1 : tg d = 1 := by rw [htg, hd, tagAt_same]
  have t2 : tg w.heap.size = 2 := by rw [htg, tagAt_other _ (by omega), tagAt_same]
  have t0 : ∀ b, b < w.heap.size → tg b = 0 := fun b hb => by rw [htg, tagAt_other _ (by omega), tagAt_other _ (by omega)]
  have HCs : Hid (C 0 = .slice none 0 0 ∧ C 1 = .int .i64 0 ∧ C 2 = .slice none 0 0 ∧ C 515 = .slice none 0 0 ∧ C 516 = .int .i64 0 ∧ C 1030 = cv ∧ C 1031 = .slice none 0 0 ∧ C 1033 = .chan none ∧ C 1034 = .int .u64 0) := ⟨c0, c1, c2, c515, c516, c1030, c1031, c1033, c1034⟩
  have HCV : Hid _ := hcv
  have HD : Hid _ := hd
  rw [← hd]
  have HR : Hid (Row ((w.alloc (.cells cs 83)).alloc (.cells (X cv) 68)) d 1035 C ∧ Row ((w.alloc (.cells cs 83)).alloc (.cells (X cv) 68)) w.heap.size (65536 * 4) (fun _ => .int .u32 0) ∧ Jk w ((w.alloc (.cells cs 83)).alloc (.cells (X cv) 68))) := ⟨hrow, hcrow, hjk⟩
  have HSz : Hid (((w.alloc (.cells cs 83)).alloc (.cells (X cv) 68)).heap.size = d + 1) := by
    show _ = d + 1
    omega
  clear x0 x1 x2 x3 x4 x5 x6 x7 x8 x9 HX hC htg hcv hd hsz1 hsz2 hrow hcrow hjk c0 c1 c2 c515 c516 c1030 c1031 c1033 c1034 hmk' HCF hcs
  generalize (w.alloc (.cells cs 83)).alloc (.cells (X cv) 68) = w2 at *
  generalize X cv = Xc at *
  have HF : Hid _ := rel_first w2 d 515 1035 C 4294967295 0 0 0 tg 8 9 (by omega) (by omega) (by omega) HR.out.1 (by omega) HCs.out.2.2.2.1 HCs.out.2.2.2.2.1
  go_wp2_with fail
  refine Calls.mono HF.out ?_
  rintro e w3 ⟨rfl, ob, cb, k0, tg3, g, f0, r1, r2, r3, r4, r5, r6, r7, r8, r9⟩
  dsimp only
  have hdl : d < w2.heap.size := HR.out.1.lt (by omega)
  have t3 : tg3 d = 1 := (r9.tag d hdl).trans t1
  have HG : Hid _ := rel_again tg3 w3 d _ ob cb k0 _ _ 4294967295 0 0 0 r1 (by rw [up1_other _ _ (by omega), up1_same]) (up1_same ..) r3 r2 (up1_same ..) r4 (by rintro rfl; omega) (by rintro rfl; omega) (by rintro rfl; omega) t3 r5 r6
  have HP3 : Hid (d + 1 < w3.heap.size) := by
    rcases Nat.lt_or_ge ob w2.heap.size with hlt | hge
    · exfalso
      have q := r9.tag ob hlt
      rw [r5] at q
      have hs := HSz.out
      have hdd := HD.out
      rcases Nat.lt_trichotomy ob w.heap.size with q1 | q1 | q1
      · rw [t0 ob q1] at q; omega
      · rw [q1, t2] at q; omega
      · have : ob = d := by omega
        rw [this, t1] at q; omega
    · have h1 := HSz.out
      have h2 := r7
      show d + 1 < w3.heap.size
      omega
  have HF3 : Hid (Fr (· = tg d) tg w2 tg3 w3) := r9
  have H3 : Hid (d < w3.heap.size) := r1.lt (by omega)
  clear r1 r2 r3 r4 r5 r6 r7 r8 r9 HF
  go_wp2_with fail
  refine Calls.mono HG.out ?_
  rintro e w4 ⟨rfl, s1, s2⟩
  dsimp only
  have HN : Hid _ := nodes_init (tagAt tg3 (d + 1) 0) w4 d _ s1 ((tagAt_other _ (by omega)).trans t3) (by rw [up1_other _ _ (by omega), up1_other _ _ (by omega), up1_other _ _ (by omega)]; exact HCs.out.1) (by rw [up1_other _ _ (by omega), up1_other _ _ (by omega), up1_other _ _ (by omega)]; exact HCs.out.2.1)
  have S2 : Hid _ := s2
  clear s1 s2 HG
  go_wp2_with fail
  refine Calls.mono HN.out ?_
  rintro e w5 ⟨rfl, tg5, C5, hNI⟩
  dsimp only
  have H4 : Hid (d < w4.heap.size) := Nat.lt_of_lt_of_le H3.out S2.out.size
  have t5 : tg5 d = 1 := (hNI.fr.tag d H4.out).trans ((tagAt_other _ (by omega)).trans t3)
  have HTI : Hid _ := table_init tg5 w5 d 518 C5 (fun _ => 9) hNI.row (by omega)
  have HNI : Hid _ := hNI
  clear hNI HN
  go_wp2_with fail
  refine Calls.mono HTI.out ?_
  rintro e w6 ⟨rfl, tg6, C6, hT⟩
  dsimp only
  have HT6 : Hid _ := hT
  clear hT HTI
  go_wp2
  go_ret
  refine ⟨d, rfl, ?_⟩
  obtain ⟨c0, c1, c2, c515, c516, c1030, c1031, c1033, c1034⟩ := HCs.out
  have hNI := HNI.out
  have hT := HT6.out
  have f6 : Fr (fun r => r = 1) tg5 w5 tg6 w6 := hT.fr.mono fun r e => by rw [e, t5]
  have F : Fr (fun r => r = 1 ∨ r = 4 ∨ r = 5 ∨ r = 8 ∨ r = 9) tg w2 tg6 w6 := ((((HF3.out.mono fun r e => by rw [e, t1]; exact .inl rfl).trans (S2.out.mono fun r h => by omega)).retag (d + 1) 0 (by have := HSz.out; omega)).trans (hNI.fr.mono fun r h => by omega)).trans (f6.mono fun r h => by omega)
  have e6 : ∀ i, 1030 ≤ i → C6 i = C i := fun i hi => by
    rw [hT.out i (by omega), hNI.out i (by omega), up1_other _ _ (by omega), up1_other _ _ (by omega), up1_other _ _ (by omega)]
  have hjk := HR.out.2.2
  have hp4 : d + 1 < w4.heap.size := Nat.lt_of_lt_of_le HP3.out S2.out.size
  have hp5 : d + 1 < w5.heap.size := Nat.lt_of_lt_of_le hp4 hNI.fr.size
  have hp6 : tg6 (d + 1) = 0 := (f6.tag _ hp5).trans ((hNI.fr.tag _ hp4).trans (tagAt_same ..))
  have hq6 : d + 1 < w6.heap.size := Nat.lt_of_lt_of_le hp5 f6.size
  have hwl : w.heap.size < w2.heap.size := HR.out.2.1.lt (by omega)
  refine ⟨tg6, ⟨C6, hT.row, (f6.tag d (hNI.row.lt (by omega))).trans t5, hNI.nodes.fr f6 (by omega) (by omega) (hT.out 0 (by omega)) (hT.out 1 (by omega)), .inl ⟨rfl, ?_⟩, hNI.parts.fr f6 (by omega) (fun i h1 h2 => hT.out i (by omega)), ⟨w.heap.size, _, ?_, HR.out.2.1.fr F hwl (by rw [t2]; omega), (F.tag _ hwl).trans t2, ?_⟩, ⟨0, fun _ => .bool true, ?_, fun i hi => by simp at hi⟩, (e6 1033 (by omega)).trans c1033, ⟨0, (e6 1034 (by omega)).trans c1034⟩, ?_, hq6, fun e he => by rw [hp6] at he; omega⟩, ?_, ?_, ?_, hp6⟩
  · rw [hT.out 2 (by omega), hNI.two, up1_other _ _ (by omega), up1_other _ _ (by omega), up1_other _ _ (by omega)]
    exact c2
  · rw [e6 1030 (by omega), c1030, HCV.out]
  · intro k hk
    exact ⟨0, 0, 0, 0, rfl, rfl, rfl, rfl, by omega, by omega, by omega, by omega, .inl rfl⟩
  · rw [e6 1031 (by omega), c1031]
    exact Sl.nil ..
  · rw [e6 1030 (by omega), c1030, HCV.out, HD.out]
    rfl
  · refine ⟨F.os.trans hjk.os, F.output.trans hjk.output, Nat.le_trans hjk.size F.size, fun b hb => ?_⟩
    rw [F.block b (Nat.lt_of_lt_of_le hb hjk.size) (by rw [t0 b hb]; omega), hjk.block b hb]
  · intro b hb
    rw [F.tag b (Nat.lt_of_lt_of_le hb hjk.size), t0 b hb]
  · have := HD.out
    omega
end Go.Proofs.Ybulkakra

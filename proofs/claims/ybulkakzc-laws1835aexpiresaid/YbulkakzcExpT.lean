/-
  EXPIRE (seat b1835a): its second loop.
-/
import Derived.Test.YbulkakzcExpB
import Derived.Test.YbulkakzcBody2
import Derived.BigQuiet
namespace Go.Proofs.Ybulkakzc
open Go.RowKit
set_option linter.unusedSimpArgs false

/-- What the test of the second loop reads. -/
def S2 (wA : World) (rb eb mb : Nat) (now fe : Int) (w' : World) : Prop :=
  Same wA w' ∧ w'.cell? ⟨rb, 7, none⟩ = some (.int .u64 0) ∧ w'.cell? ⟨rb, 8, none⟩ = some (.int .i64 now) ∧ w'.cell? ⟨rb, 9, none⟩ = some (.pointer none) ∧ w'.cell? ⟨eb, 3, none⟩ = some (.iface 66 (.pointer (some ⟨mb, 0, none⟩))) ∧ w'.cell? ⟨mb, 9, none⟩ = some (.int .u64 0) ∧ w'.cell? ⟨mb, 10, none⟩ = some (.int .i64 fe) ∧ w'.cell? ⟨mb, 11, none⟩ = some (.pointer none)

theorem sumc_bound : ∀ (l : List Ms), (∀ x ∈ l, 0 ≤ x.cost ∧ x.cost ≤ 1000) → 0 ≤ sumc l ∧ sumc l ≤ 1000 * (l.length : Int)
  | [], _ => ⟨Int.le_refl _, by simp [sumc]⟩
  | x :: l, h => by
    have h1 := h x List.mem_cons_self
    have h2 := sumc_bound l (fun y hy => h y (List.mem_cons_of_mem _ hy))
    simp only [sumc, List.length_cons]
    omega

/-- An append of lines whose run is known. -/
theorem wpList_app72 {ops : Array Oper} {rest : List Oper} {o : Oper} {a : Act} {w w' : World} {Q : Exit → Act → World → Prop} {v xv v' : Value} (hgd : o.guard = none) (s x : Operand) (ho : o.op = .call { callee := .builtin .append, args := #[s, x], argTypes := #[72, 72] })
    (hv : a.eval s = v) (hx : a.eval x = xv) (hrun : (Builtin.append_ #[72, 72] o.type #[v, xv]).run Yba.prog w = .ok v' w') (h : wpList Yba.prog ops Q rest (a.put o.dst v') w') : wpList Yba.prog ops Q (o :: rest) a w := by
  refine wpList_plain hgd fun K hK' => ?_
  unfold Oper.wp
  simp [execOp, ho, resolve, invoke, builtin, hv, hx, hrun, Result.andThen]
  exact hK' _ _ h

set_option maxRecDepth 100000 in
set_option maxHeartbeats 4000000 in
theorem expire_tail (w0 w : World) (B : List Nat) (rb pm am : Nat) (tmo mp now pk : Int) (al pl : List En) (ms : List Ms) (fl : List Fq) (v : Value) (b : Nat) (out : List Dg) (R : Ending → World → Prop) (v6 v7 v8 v9 v10 v11 v12 v13 v14 v15 v16 v17 v18 v19 v20 v21 v22 v23 v24 v25 v26 v27 v28 v29 v30 v31 v32 v33 v34 v35 v36 v37 v38 v39 v40 v41 v42 v43 v44 v45 v46 v47 v48 v49 v50 v51 v52 v53 v54 v55 v56 v57 v58 v59 v60 v61 v62 v63 v64 v65 v66 v67 v68 v69 v70 v71 v72 v73 v74 v75 v76 v77 v78 : Value)
    (hE : E2 w0 w B rb pm am tmo mp now pk al pl ms fl v b out) (hn0 : 0 ≤ now) (hn1 : now ≤ 300000) (hmp : mp ≤ 1000) (hfl : fl.length ≤ 2000) (hms : ms.length ≤ 2000) (hout : out.length ≤ 2000)
    (hmz : ∀ x ∈ ms, 0 ≤ x.fe ∧ x.fe ≤ 300000 ∧ 0 ≤ x.cost ∧ x.cost ≤ 1000)
    (hR : ∀ (w' : World) (k : Nat) (pk' : Int) (al' pl' : List En) (fl' : List Fq) (v' : Value) (b' : Nat), Lead (fun j => old (rto tmo) now ((ms.map (·.fe)).getD j 0)) ms.length k → ((fl'.length : Int), pk') = ev (16 * lim mp) k ((fl.length : Int), pk) → E2 w0 w' B rb pm am tmo mp now pk' al' pl' (ms.drop k) fl' v' b' (out ++ (ms.take k).map line) → R (.returned v') w') :
    Code.wp Yba.prog (fromR 6 (Yba.f8.body.getD .skip)) (bodyPost Yba.prog Yba.f8 R) ⟨#[P2 rb 0, v, undef, undef, .slice none 0 0, .int .i64 (rto tmo), v6, v7, v8, v9, v10, v11, v12, v13, v14, v15, v16, v17, v18, v19, v20, v21, v22, v23, v24, v25, v26, v27, v28, v29, v30, v31, v32, v33, v34, v35, v36, v37, v38, v39, v40, v41, v42, v43, v44, v45, v46, v47, v48, v49, v50, v51, v52, v53, v54, v55, v56, v57, v58, v59, v60, v61, v62, v63, v64, v65, v66, v67, v68, v69, v70, v71, v72, v73, v74, v75, v76, v77, v78], []⟩ w := by
  dsimp only
  conv => arg 2; whnf
  unfold P2
  obtain ⟨C, hRS⟩ := hE.rs
  have hfr := front_nx w rb 11 C (sts ms) (by omega) hRS.row hRS.qs
  have HE : Hid _ := hE
  have HR : Hid _ := hR
  have HMZ : Hid _ := hmz
  clear hE hR hRS hmz
  go_wp2_with fail
  refine hfr.mono ?_
  rintro e w2 ⟨rfl, rfl⟩
  dsimp only
  clear hfr
  obtain ⟨f0, hf0⟩ : ∃ f0, f0 = nx (sts ms) := ⟨_, rfl⟩
  rw [← hf0]
  have HF0 : Hid (f0 = nx (sts ms)) := hf0
  clear hf0
  go_wp2_with fail
  go_loopg [1, 7] ms.length (fun g vv e wr => ∃ (j : Nat) (pk' : Int) (al' pl' : List En) (fl' : List Fq) (b' : Nat), j ≤ ms.length ∧ g = ms.length - j ∧ e = nx (sts (ms.drop j)) ∧ (∀ i, i < j → old (rto tmo) now ((ms.map (·.fe)).getD i 0) = true) ∧ ((fl'.length : Int), pk') = ev (16 * lim mp) j ((fl.length : Int), pk) ∧ fl'.length ≤ 2000 + j ∧ E2 w0 wr B rb pm am tmo mp now pk' al' pl' (ms.drop j) fl' vv b' (out ++ (ms.take j).map line))
  case atStart =>
    refine ⟨0, pk, al, pl, fl, b, Nat.zero_le _, rfl, HF0.out, fun i hi => by omega, rfl, by omega, ?_⟩
    have := HE.out
    simpa using this
  case round =>
    obtain ⟨j, pk', al', pl', fl', b', hj, hg, rfl, holds, hev, hfl', hE⟩ := hrel
    have HE' : Hid _ := hE
    have HO : Hid _ := holds
    have HV : Hid _ := hev
    clear hE holds hev
    obtain ⟨C, hRS⟩ := HE'.out.rs
    by_cases hjn : j < ms.length
    · have hxm : ms[j] ∈ ms := List.getElem_mem hjn
      have hdr : ms.drop j = ms[j] :: ms.drop (j + 1) := List.drop_eq_getElem_cons hjn
      have hfe : (ms.map (·.fe)).getD j 0 = (ms[j]).fe := by simp [List.getD, hjn]
      have htk : ms.take (j + 1) = ms.take j ++ [ms[j]] := by rw [List.take_add_one]; simp [hjn]
      generalize ms[j] = x at hxm hdr hfe htk
      rw [hdr] at HE' hRS ⊢
      obtain ⟨hz1, hz2, hz3, hz4⟩ := HMZ.out x hxm
      have hmsg := HE'.out.msg x List.mem_cons_self
      have hblk := hRS.ringS.chain.1
      have k7 := (hRS.row.cell (i := 7) (by omega)).trans (congrArg some hRS.rc.c7)
      have k8 := (hRS.row.cell (i := 8) (by omega)).trans (congrArg some hRS.rc.c8)
      have k9 := (hRS.row.cell (i := 9) (by omega)).trans (congrArg some hRS.rc.c9)
      have hrlt := hRS.row.lt
      have HS : Hid (∀ w', Same wr w' → S2 wr rb x.eb x.mb now x.fe w') := by
        intro w' hS
        have c : ∀ i, w'.cell? ⟨rb, i, none⟩ = wr.cell? ⟨rb, i, none⟩ := fun i => World.cell?_of_block (a := ⟨rb, i, none⟩) (hS.block rb hrlt)
        have hb' := (hS.block x.eb (lt_of_block hblk)).trans hblk
        have hm' := (hS.block x.mb (lt_of_block hmsg)).trans hmsg
        exact ⟨hS, (c 7).trans k7, (c 8).trans k8, (c 9).trans k9, cell_of_heap hb' 3 _ rfl, cell_of_heap hm' 9 _ rfl, cell_of_heap hm' 10 _ rfl, cell_of_heap hm' 11 _ rfl⟩
      have HSUB : Hid (∀ w', S2 wr rb x.eb x.mb now x.fe w' → Calls Yba.prog 25 #[.agg #[.int .u64 0, .int .i64 now, .pointer none], .agg #[.int .u64 0, .int .i64 x.fe, .pointer none]] w' fun r w'' => r = .returned (.int .i64 ((now - x.fe) * 1000000000)) ∧ S2 wr rb x.eb x.mb now x.fe w'') := by
        intro w' hw'
        refine (sub_any w' now x.fe hn0 hn1 hz1 hz2).mono ?_
        rintro r w'' ⟨rfl, hS⟩
        exact ⟨rfl, HS.out _ (hw'.1.trans hS)⟩
      have HFE : Hid ((ms.map (·.fe)).getD j 0 = x.fe) := hfe
      have HTK : Hid (ms.take (j + 1) = ms.take j ++ [x]) := htk
      have HDR : Hid (ms.drop j = x :: ms.drop (j + 1)) := hdr
      clear hRS hblk k7 k8 k9 hmsg hfe htk hdr hxm
      simp only [sts, List.map_cons, nx]
      unfold P2
      have ta := assert66
      go_upto_region 7 with fail
      go_region_held3 (fun w' => Same wr w' ∧ w'.cell? ⟨rb, 7, none⟩ = some (.int .u64 0) ∧ w'.cell? ⟨rb, 8, none⟩ = some (.int .i64 now) ∧ w'.cell? ⟨rb, 9, none⟩ = some (.pointer none) ∧ w'.cell? ⟨x.eb, 3, none⟩ = some (.iface 66 (.pointer (some ⟨x.mb, 0, none⟩))) ∧ w'.cell? ⟨x.mb, 9, none⟩ = some (.int .u64 0) ∧ w'.cell? ⟨x.mb, 10, none⟩ = some (.int .i64 x.fe) ∧ w'.cell? ⟨x.mb, 11, none⟩ = some (.pointer none))
        (first | exact HS.out _ (Same.refl _).drew | assumption)
        (first | (go_at_call 25; refine (HSUB.out _ (by assumption)).mono ?_; rintro r w5 ⟨rfl, hS5⟩; unfold S2 at hS5))
      go_upto_if 63 with fail
      by_cases hold : rto tmo < (now - x.fe) * 1000000000
      · have e1 : decide (rto tmo < (now - x.fe) * 1000000000) = true := by simpa using hold
        simp only [e1]
        have HOL : Hid (old (rto tmo) now x.fe = true) := e1
        clear e1 hold
        have hE5 := HE'.out.same hS5.1
        obtain ⟨C5, hR5⟩ := hE5.rs
        have hm5 := hE5.msg x List.mem_cons_self
        have q3 := hS5.2.2.2.2.1
        have hsb := sumc_bound (ms.drop (j + 1)) (fun y hy => (HMZ.out y (List.mem_of_mem_drop hy)).2.2)
        have hlen5 : (ms.drop (j + 1)).length ≤ 2000 := by simp; omega
        have hab := abandon_some w5 rb pm am C5 tmo mp 0 now (sumc (x :: ms.drop (j + 1))) pk' pl' al' (sts (ms.drop (j + 1))) fl' x.eb x.mb (.iface 66 (P2 x.mb 0)) x.k 0 x.fe x.cost x.frag x.start rsT hR5 hm5 (by rw [List.length_cons, sts_length]; omega) hz3 (by simp only [sumc]; omega) (by simp only [sumc]; omega) (by omega) (by omega)
        have HE5 : Hid _ := hE5
        clear hE5 hR5 hm5 hS5 hsb
        unfold P2 at hab
        go_wp2_with fail
        refine hab.mono ?_
        clear hab
        intro e w6 hAP
        obtain ⟨he, al6, nb, hE6⟩ := HE5.out.abandon hAP
        subst he
        clear hAP
        dsimp only
        apply_assumption
        have hE7 := hE6.same ((Same.refl w6).alloc (.cells (dg x.k (ver x.start) rsT x.frag) 88))
        have hn7 := heap_alloc_new w6 (.cells (dg x.k (ver x.start) rsT x.frag) 88)
        obtain ⟨v8, w8, b8, happ, hD8, hb8, ho8, hu8, hz8, hB8⟩ := hE7.ds.push (line x) 72 72 88 Yba.underlying72 ⟨w6.heap.size, 0, none⟩ 1 (by
          intro i u hu
          have : i < 35 := by have := (List.getElem?_eq_some_iff.1 hu).1; rwa [Dg.cells_length] at this
          rw [Addr.add_lit, Nat.zero_add]
          exact cell_of_heap hn7 i u (by simpa [line, Dg.cells] using hu)) (by simp; omega)
        have hE8 := hE7.push hD8 hb8 ho8 hu8 hz8 hB8
        refine wpList_plain rfl fun Kn hKn => ?_
        refine wp_of_run (v := .slice (some ⟨w6.heap.size, 0, none⟩) 1 1) (w' := w6.alloc (.cells (dg x.k (ver x.start) rsT x.frag) 88)) (by kernel_rfl) ?_
        refine hKn _ _ ?_
        clear hKn Kn
        simp only [Act.put, List.setIfInBounds_toArray, List.set_cons_zero, List.set_cons_succ]
        refine wpList_app72 rfl (.tmp 68) (.tmp 76) rfl rfl rfl happ ?_
        simp only [Act.put, List.setIfInBounds_toArray, List.set_cons_zero, List.set_cons_succ]
        obtain ⟨C8, hR8⟩ := hE8.rs
        have hfr := front_nx w8 rb 11 C8 (sts (ms.drop (j + 1))) (by omega) hR8.row hR8.qs
        have HE8 : Hid _ := hE8
        clear hE7 hn7 happ hD8 hb8 ho8 hu8 hz8 hB8 hE8 hR8 hE6 q3 HE5
        unfold P2 at hfr
        go_wp2_with fail
        refine hfr.mono ?_
        rintro e w9 ⟨rfl, rfl⟩
        dsimp only
        clear hfr
        obtain ⟨f1, hf1⟩ : ∃ f1, f1 = nx (sts (ms.drop (j + 1))) := ⟨_, rfl⟩
        rw [← hf1]
        have HF1 : Hid (f1 = nx (sts (ms.drop (j + 1)))) := hf1
        clear hf1
        go_wp2
        go_roundg (ms.length - (j + 1))
        case measure => omega
        case rel =>
          refine ⟨j + 1, (if pk' < ((dropF mp fl').length + 1 : Int) then ((dropF mp fl').length + 1 : Int) else pk'), al6, dele x.k pl', dropF mp fl' ++ [⟨nb, x.k, 0, now⟩], b8, by omega, rfl, HF1.out, ?_, ?_, ?_, ?_⟩
          · intro i hi
            rcases Nat.lt_or_eq_of_le (Nat.le_of_lt_succ hi) with h1 | h1
            · exact HO.out i h1
            · rw [h1, HFE.out]
              exact HOL.out
          · have hl := dropF_len mp fl'
            show _ = evs (16 * lim mp) (ev (16 * lim mp) j ((fl.length : Int), pk))
            rw [← HV.out]
            simp only [evs, List.length_append, List.length_cons, List.length_nil, Nat.zero_add, Int.natCast_add, Int.natCast_one, hl]
          · have hl := (dropF_sublist mp fl').length_le
            simp only [List.length_append, List.length_cons, List.length_nil]
            omega
          · rw [HTK.out, List.map_append, ← List.append_assoc]
            exact HE8.out
      · have e1 : decide (rto tmo < (now - x.fe) * 1000000000) = false := by simpa using hold
        simp only [e1]
        have HOL : Hid (old (rto tmo) now x.fe = false) := e1
        clear e1 hold
        have hE5 := HE'.out.same hS5.1
        have HE5 : Hid _ := hE5
        clear hE5 hS5
        go_wp2
        refine HR.out _ j pk' al' pl' fl' u1 b' ⟨hj, HO.out, fun _ => ?_⟩ HV.out ?_
        · show old (rto tmo) now ((ms.map (·.fe)).getD j 0) = false
          rw [HFE.out]
          exact HOL.out
        · rw [HDR.out]
          exact HE5.out
    · have hdr : ms.drop j = [] := List.drop_eq_nil_of_le (by omega)
      rw [hdr]
      simp only [sts, List.map_nil, nx]
      clear hRS
      go_upto_region 7 with fail
      go_quiet (fail)
      have hE5 := HE'.out.same (same_drewN wr nq)
      have HE5 : Hid _ := hE5
      clear hE5
      go_wp2
      refine HR.out _ j pk' al' pl' fl' u1 b' ⟨hj, HO.out, fun hlt => by omega⟩ HV.out ?_
      exact HE5.out
end Go.Proofs.Ybulkakzc

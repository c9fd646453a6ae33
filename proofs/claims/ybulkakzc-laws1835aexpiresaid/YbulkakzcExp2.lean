/-
  EXPIRE (seat b1835a): its walk.
-/
import Derived.Test.YbulkakzcExpT
namespace Go.Proofs.Ybulkakzc
open Go.RowKit
set_option linter.unusedSimpArgs false

theorem field63b (w : World) (s d i aw ae : Int) : (Instr.field 63 (.agg #[.int .u64 0, .int .u64 0, .pointer none, .int .u16 s, .int .u64 0, .int .u64 0, .pointer none, .int .u16 d, .int .u32 i, .int .u64 aw, .int .i64 ae, .pointer none]) 1).run Yba.prog w =
    .ok (.agg #[.int .u64 aw, .int .i64 ae, .pointer none]) w := by kernel_rfl

/-- What the test of the first loop reads. -/
def S1 (wA : World) (rb xb : Nat) (now : Int) (k : K) (ae : Int) (w' : World) : Prop :=
  Same wA w' ∧ w'.cell? ⟨rb, 7, none⟩ = some (.int .u64 0) ∧ w'.cell? ⟨rb, 8, none⟩ = some (.int .i64 now) ∧ w'.cell? ⟨rb, 9, none⟩ = some (.pointer none) ∧ w'.cell? ⟨xb, 3, none⟩ = some (av k 0 ae)

/-- One abandonment has been forgotten. -/
theorem E2.forget {w0 w w' : World} {B : List Nat} {rb pm am : Nat} {tmo mp now pk : Int} {al pl : List En} {ms : List Ms} {x : Fq} {fl : List Fq} {v : Value} {b : Nat} {out : List Dg} (h : E2 w0 w B rb pm am tmo mp now pk al pl ms (x :: fl) v b out)
    (hr : ∃ C', RS w' rb pm am C' tmo mp 0 now (sumc ms) pk pl (dele x.k al) (sts ms) (fgs fl)) (far : Far rb pm am (x.b :: blks (fgs fl)) w w') : E2 w0 w' B rb pm am tmo mp now pk (dele x.k al) pl ms fl v b out := by
  obtain ⟨C, hR0⟩ := h.rs
  have hb5 : b ∉ (x.b :: blks (fgs fl)) := h.b5
  refine ⟨hr, ?_, h.pperm, ?_, h.mnod, ?_, h.fx.far far h.rB h.pB h.aB (fun y hy => h.fb y hy), fun y hy => h.fb y (List.mem_cons_of_mem _ hy), h.mB, h.ds.of_block far.size (fun hlt => far.block b hlt h.b1 h.b2 h.b3 hb5), h.b1, h.b2, h.b3, h.b4, fun hb => hb5 (List.mem_cons_of_mem _ hb), h.b6, Nat.lt_of_lt_of_le h.b7 far.size, h.b8, h.rB, h.pB, h.aB⟩
  · rw [keysOf_dele]
    exact kdel_head h.aperm
  · have hn := h.nod
    simp only [List.map_cons, List.cons_append, List.nodup_cons] at hn
    exact hn.2
  · intro y hy
    have hyw := h.msg y hy
    obtain ⟨r1, r2, r3, r4, r5⟩ := hR0.apart (by decide) (by decide) hyw
    exact (far.block y.mb (lt_of_block hyw) r1 r2 r3 r5).trans hyw

set_option maxRecDepth 100000 in
set_option maxHeartbeats 4000000 in
theorem expire_any (w : World) (rb pm am : Nat) (tmo mp now pk : Int) (pl al : List En) (ms : List Ms) (fl : List Fq) (v : Value) (b : Nat) (out : List Dg) (B : List Nat)
    (hE : E2 w w B rb pm am tmo mp now pk al pl ms fl v b out) (hz : ∀ x ∈ fl, x.aw = 0 ∧ 0 ≤ x.ae ∧ x.ae ≤ 300000) (hmz : ∀ x ∈ ms, 0 ≤ x.fe ∧ x.fe ≤ 300000 ∧ 0 ≤ x.cost ∧ x.cost ≤ 1000) (hn0 : 0 ≤ now) (hn1 : now ≤ 300000) (hmp : mp ≤ 1000) (hfl : fl.length ≤ 2000) (hms : ms.length ≤ 2000) (hout : out.length ≤ 2000) :
    Calls Yba.prog 8 #[P2 rb 0, v] w fun e w' => ∃ (k1 k : Nat) (pk' : Int) (al' pl' : List En) (fl' : List Fq) (v' : Value) (b' : Nat), e = .returned v' ∧ Lead (fun j => old (rto tmo) now ((fl.map (·.ae)).getD j 0)) fl.length k1 ∧ Lead (fun j => old (rto tmo) now ((ms.map (·.fe)).getD j 0)) ms.length k ∧
      ((fl'.length : Int), pk') = ev (16 * lim mp) k (((fl.length - k1 : Nat) : Int), pk) ∧ E2 w w' B rb pm am tmo mp now pk' al' pl' (ms.drop k) fl' v' b' (out ++ (ms.take k).map line) := by
  obtain ⟨C, h⟩ := hE.rs
  have c0 := (h.row.cell (i := 0) (by omega)).trans (congrArg some h.rc.c0)
  have c1 := (h.row.cell (i := 1) (by omega)).trans (congrArg some h.rc.c1)
  have c2 := (h.row.cell (i := 2) (by omega)).trans (congrArg some h.rc.c2)
  have c3 := (h.row.cell (i := 3) (by omega)).trans (congrArg some h.rc.c3)
  have c4 := (h.row.cell (i := 4) (by omega)).trans (congrArg some h.rc.c4)
  have c5 := (h.row.cell (i := 5) (by omega)).trans (congrArg some h.rc.c5)
  have c6 := (h.row.cell (i := 6) (by omega)).trans (congrArg some h.rc.c6)
  have HE0 : Hid _ := hE
  have HMZ : Hid _ := hmz
  clear h hE hmz
  unfold P2
  go_enter Yba.func8, Yba.ntmps8
  go_wp2_with fail
  refine (rto_any w tmo mp).mono ?_
  rintro e w1 ⟨rfl, o1, rfl⟩
  dsimp only
  clear c0 c1 c2 c3 c4 c5 c6
  have hE1 := HE0.out.same ((Same.refl w).alloc o1)
  obtain ⟨C1, hR1⟩ := hE1.rs
  have hfr := front_nx (w.alloc o1) rb 18 C1 (fgs fl) (by omega) hR1.row hR1.qf
  have HE1 : Hid _ := hE1
  generalize hw1 : w.alloc o1 = w1 at *
  clear hw1 hE1 hR1
  go_wp2_with fail
  refine hfr.mono ?_
  rintro e w2 ⟨rfl, rfl⟩
  dsimp only
  clear hfr
  obtain ⟨f0, hf0⟩ : ∃ f0, f0 = nx (fgs fl) := ⟨_, rfl⟩
  rw [← hf0]
  have HF0 : Hid (f0 = nx (fgs fl)) := hf0
  clear hf0
  go_wp2_with fail
  go_loopg [6] fl.length (fun g e wr => ∃ (k : Nat) (al' : List En), k ≤ fl.length ∧ g = fl.length - k ∧ e = nx (fgs (fl.drop k)) ∧ (∀ i, i < k → old (rto tmo) now ((fl.map (·.ae)).getD i 0) = true) ∧ E2 w wr B rb pm am tmo mp now pk al' pl ms (fl.drop k) v b out)
  case atStart => exact ⟨0, al, Nat.zero_le _, rfl, HF0.out, fun i hi => by omega, HE1.out⟩
  case round =>
    obtain ⟨k, al', hk0, hg, rfl, holds, hE⟩ := hrel
    have HE : Hid _ := hE
    have HO : Hid _ := holds
    clear hE holds
    by_cases hk : k < fl.length
    · have hx : fl[k]? = some fl[k] := List.getElem?_eq_getElem hk
      have hxm : fl[k] ∈ fl := List.getElem_mem hk
      have hdr : fl.drop k = fl[k] :: fl.drop (k + 1) := List.drop_eq_getElem_cons hk
      have hae : (fl.map (·.ae)).getD k 0 = (fl[k]).ae := by simp [List.getD, hk]
      generalize fl[k] = x at hx hxm hdr hae
      rw [hdr] at HE ⊢
      obtain ⟨hx1, hx2, hx3⟩ := hz x hxm
      obtain ⟨C1, hR⟩ := HE.out.rs
      have hblk := hR.ringF.chain.1
      have k7 := (hR.row.cell (i := 7) (by omega)).trans (congrArg some hR.rc.c7)
      have k8 := (hR.row.cell (i := 8) (by omega)).trans (congrArg some hR.rc.c8)
      have k9 := (hR.row.cell (i := 9) (by omega)).trans (congrArg some hR.rc.c9)
      have hrlt := hR.row.lt
      have HS : Hid (∀ w', Same wr w' → S1 wr rb x.b now x.k x.ae w') := by
        intro w' hS
        have c : ∀ j, w'.cell? ⟨rb, j, none⟩ = wr.cell? ⟨rb, j, none⟩ := fun j => World.cell?_of_block (a := ⟨rb, j, none⟩) (hS.block rb hrlt)
        have hb' := (hS.block x.b (lt_of_block hblk)).trans hblk
        refine ⟨hS, (c 7).trans k7, (c 8).trans k8, (c 9).trans k9, ?_⟩
        refine cell_of_heap hb' 3 _ ?_
        rw [← hx1]
        rfl
      have HSUB : Hid (∀ w', S1 wr rb x.b now x.k x.ae w' → Calls Yba.prog 25 #[.agg #[.int .u64 0, .int .i64 now, .pointer none], .agg #[.int .u64 0, .int .i64 x.ae, .pointer none]] w' fun r w'' => r = .returned (.int .i64 ((now - x.ae) * 1000000000)) ∧ S1 wr rb x.b now x.k x.ae w'') := by
        intro w' hw'
        refine (sub_any w' now x.ae hn0 hn1 hx2 hx3).mono ?_
        rintro r w'' ⟨rfl, hS⟩
        exact ⟨rfl, HS.out _ (hw'.1.trans hS)⟩
      have HAE : Hid ((fl.map (·.ae)).getD k 0 = x.ae) := hae
      have HDR : Hid (fl.drop k = x :: fl.drop (k + 1)) := hdr
      clear hR hblk k7 k8 k9 hae hdr hx hxm
      simp only [fgs, List.map_cons, nx]
      unfold P2
      have HX1 : Hid (x.aw = 0) := hx1
      clear hx1
      have ta := assert63
      have tf := field63b
      unfold av at *
      go_upto_region 3 with fail
      go_region_held3 (fun w' => Same wr w' ∧ w'.cell? ⟨rb, 7, none⟩ = some (.int .u64 0) ∧ w'.cell? ⟨rb, 8, none⟩ = some (.int .i64 now) ∧ w'.cell? ⟨rb, 9, none⟩ = some (.pointer none) ∧ w'.cell? ⟨x.b, 3, none⟩ = some (.iface 63 (.agg #[.int .u64 0, .int .u64 0, .pointer none, .int .u16 x.k.s, .int .u64 0, .int .u64 0, .pointer none, .int .u16 x.k.d, .int .u32 x.k.i, .int .u64 0, .int .i64 x.ae, .pointer none])))
        (first | exact HS.out _ (Same.refl _).drew | assumption)
        (first | (go_at_call 25; refine (HSUB.out _ (by assumption)).mono ?_; rintro r w5 ⟨rfl, hS5⟩; unfold S1 at hS5))
      go_upto_if 33 with fail
      by_cases hold : rto tmo < (now - x.ae) * 1000000000
      · have e1 : decide (rto tmo < (now - x.ae) * 1000000000) = true := by simpa using hold
        simp only [e1]
        have HOL : Hid (old (rto tmo) now x.ae = true) := e1
        clear e1 hold
        have hE5 := HE.out.same hS5.1
        obtain ⟨C5, hR5⟩ := hE5.rs
        have hlen5 : ((x.b, av x.k x.aw x.ae) :: fgs (fl.drop (k + 1))).length < 1000000 := by
          rw [List.length_cons, fgs_length, List.length_drop]; omega
        have hfo := forget_any w5 rb pm am C5 tmo mp 0 now (sumc ms) pk pl al' (sts ms) (fgs (fl.drop (k + 1))) x.b x.k x.aw x.ae hlen5 hR5
        have HE5 : Hid _ := hE5
        clear hE5 hR5 hS5 hlen5
        unfold P2 at hfo
        go_wp2_with fail
        refine hfo.mono ?_
        rintro e w6 ⟨rfl, hR6, hz6, hF6⟩
        dsimp only
        clear hfo
        have hE6 := HE5.out.forget hR6 hF6
        obtain ⟨C6, hR6'⟩ := hE6.rs
        have hfr := front_nx w6 rb 18 C6 (fgs (fl.drop (k + 1))) (by omega) hR6'.row hR6'.qf
        have HE6 : Hid _ := hE6
        clear hE6 hR6 hz6 hF6 hR6' HE5
        unfold P2 at hfr
        go_wp2_with fail
        refine hfr.mono ?_
        rintro e w9 ⟨rfl, rfl⟩
        dsimp only
        clear hfr
        obtain ⟨f1, hf1⟩ : ∃ f1, f1 = nx (fgs (fl.drop (k + 1))) := ⟨_, rfl⟩
        rw [← hf1]
        have HF1 : Hid (f1 = nx (fgs (fl.drop (k + 1)))) := hf1
        clear hf1
        go_wp2
        go_roundg (fl.length - (k + 1))
        case measure => omega
        case rel =>
          refine ⟨k + 1, dele x.k al', by omega, rfl, HF1.out, ?_, HE6.out⟩
          intro i hi
          rcases Nat.lt_or_eq_of_le (Nat.le_of_lt_succ hi) with h1 | h1
          · exact HO.out i h1
          · rw [h1, HAE.out]
            exact HOL.out
      · have e1 : decide (rto tmo < (now - x.ae) * 1000000000) = false := by simpa using hold
        simp only [e1]
        have HOL : Hid (old (rto tmo) now x.ae = false) := e1
        clear e1 hold
        have hE5 := HE.out.same hS5.1
        have HE5 : Hid _ := hE5
        clear hE5 hS5
        refine wp_cond_false (by rfl) (wp_exit ?_)
        simp only [Exit.then, Exit.inBlock, if_true]
        apply_assumption
        rw [← HDR.out] at HE5
        refine expire_tail w w5 B rb pm am tmo mp now pk al' pl ms (fl.drop k) v b out _ _ _ _ _ _ _ _ _ _ _ _ _ _ _ _ _ _ _ _ _ _ _ _ _ _ _ _ _ _ _ _ _ _ _ _ _ _ _ _ _ _ _ _ _ _ _ _ _ _ _ _ _ _ _ _ _ _ _ _ _ _ _ _ _ _ _ _ _ _ _ _ _ _ HE5.out hn0 hn1 hmp (by rw [List.length_drop]; omega) hms hout HMZ.out ?_
        intro w' k2 pk' al2 pl2 fl2 v' b' hL hev hE2
        rw [List.length_drop] at hev
        refine ⟨k, k2, pk', al2, pl2, fl2, v', b', rfl, ⟨hk0, HO.out, fun _ => ?_⟩, hL, hev, hE2⟩
        show old (rto tmo) now ((fl.map (·.ae)).getD k 0) = false
        rw [HAE.out]
        exact HOL.out
    · have hdr : fl.drop k = [] := List.drop_eq_nil_of_le (by omega)
      rw [hdr]
      simp only [fgs, List.map_nil, nx]
      go_upto_region 3 with fail
      go_quiet (fail)
      have hE5 := HE.out.same (same_drewN wr nq)
      have HE5 : Hid _ := hE5
      clear hE5
      go_upto_if 33 with fail
      refine wp_cond_false (by rfl) (wp_exit ?_)
      simp only [Exit.then, Exit.inBlock, if_true]
      apply_assumption
      refine expire_tail w _ B rb pm am tmo mp now pk al' pl ms (fl.drop k) v b out _ _ _ _ _ _ _ _ _ _ _ _ _ _ _ _ _ _ _ _ _ _ _ _ _ _ _ _ _ _ _ _ _ _ _ _ _ _ _ _ _ _ _ _ _ _ _ _ _ _ _ _ _ _ _ _ _ _ _ _ _ _ _ _ _ _ _ _ _ _ _ _ _ _ HE5.out hn0 hn1 hmp (by rw [List.length_drop]; omega) hms hout HMZ.out ?_
      intro w' k2 pk' al2 pl2 fl2 v' b' hL hev hE2
      rw [List.length_drop] at hev
      exact ⟨k, k2, pk', al2, pl2, fl2, v', b', rfl, ⟨hk0, HO.out, fun hlt => by omega⟩, hL, hev, hE2⟩
end Go.Proofs.Ybulkakzc

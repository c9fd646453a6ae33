/-
  All's WALK, of seat b1820a: at a node.
-/
import Derived.Test.YbulkakraWalk
namespace Go.Proofs.Ybulkakra
open Go.RowKit
set_option linter.unusedSimpArgs false
set_option linter.unusedVariables false

/-- The world with the edge's copy. -/
theorem RP.copy {b : Bl} {W : Nat → Bool} {N : List Nd} {f : Nat} {tg tg' : Nat → Nat} {w wr : World} {q : Nat → Nat} {L B : Nat} {E : List Ed} {i : Nat} {p' : Int} {g' : Nat} (h : RP b W N f tg w q L B E i tg' wr p' g') (O : Obj) : WS b W N (tagAt tg' wr.heap.size 0) (wr.alloc O) p' g' (nzp q 3) ∧ FrV b tg' wr (tagAt tg' wr.heap.size 0) (wr.alloc O) := by
  have k : Fr (fun _ => False) tg' wr (tagAt tg' wr.heap.size 0) (wr.alloc O) := (Fr.refl _ tg' wr).alloc O 0
  obtain ⟨C, hC⟩ := h.ws.st
  exact ⟨h.ws.step k (fun h => h) (fun h => h) ⟨C, hC.fr k (fun _ _ h => h)⟩, k.toV (fun _ _ _ h => h)⟩
theorem WS.lts {b : Bl} {W : Nat → Bool} {N : List Nd} {tg : Nat → Nat} {w : World} {p : Int} {g : Nat} {P : List Ed} (h : WS b W N tg w p g P) : b.q < w.heap.size ∧ b.p < w.heap.size ∧ b.g < w.heap.size := by
  obtain ⟨v, cap, f, c1, _⟩ := h.path
  exact ⟨World.block_lt_of_cell? _ _ c1, World.block_lt_of_cell? _ _ h.cp, World.block_lt_of_cell? _ _ h.cg⟩
/-- A round at value 0. -/
theorem round_zero {b : Bl} {W : Nat → Bool} {N : List Nd} {f : Nat} {q : Nat → Nat} {a L B : Nat} {E : List Ed} (hP : LP b W N f q a L B E) {tg tg' : Nat → Nat} {w w2 wr : World} {i : Nat} {p' : Int} {g' : Nat} (hi : i < E.length) (hR : RP b W N f tg w q L B E i tg' wr p' g') (hV : FrV b tg w2 tg' wr) (hx : vE E i = 0) (x : Value) (O : Obj) (hO : (wr.alloc O).cell? ⟨wr.heap.size, 0, none⟩ = some x) :
    Calls Yba.prog 23 #[.int .u32 (tE E i : Int), .pointer (some ⟨b.y, 0, none⟩), .pointer (some ⟨b.q, 0, none⟩), .pointer (some ⟨b.dd, 0, none⟩), .pointer (some ⟨b.k, 0, none⟩)] (wr.alloc O) fun e w3 => e = .returned (.bool true) ∧ w3.cell? ⟨wr.heap.size, 0, none⟩ = some x ∧ ∃ tg3 p3 g3, RP b W N f tg w q L B E (i + 1) tg3 w3 p3 g3 ∧ FrV b tg w2 tg3 w3 := by
  obtain ⟨s1, s2⟩ := hR.copy O
  have hq : (fun j => if j = L then vE E i else q j) = q := by
    funext j
    split
    · next h => rw [hx, h, hP.qz L (Nat.le_refl _)]
    · rfl
  have hc := hP.call hi (tg' := tagAt tg' wr.heap.size 0) (w1 := wr.alloc O) hR.jj (by rw [hq]; exact s1)
  rw [hq] at hc
  refine hc.mono ?_
  rintro e w3 ⟨rfl, tg3, p3, g3, z1, z2, z3⟩
  obtain ⟨l1, l2, l3⟩ := hR.ws.lts
  refine ⟨rfl, ?_, tg3, p3, g3, ⟨z1, z2, (hR.fr.trans s2).trans z3⟩, (hV.trans s2).trans z3⟩
  rw [World.cell?_of_block (z3.block wr.heap.size (by rw [World.size_alloc]; omega) (by rw [tagAt_same]; omega) (by rw [tagAt_same]; omega) (by omega) (by omega) (by omega))]
  exact hO
/-- A round at another value: the path has grown. -/
theorem round_pos {b : Bl} {W : Nat → Bool} {N : List Nd} {f : Nat} {q : Nat → Nat} {a L B : Nat} {E : List Ed} (hP : LP b W N f q a L B E) {tg tg' : Nat → Nat} {w w2 wr : World} {i : Nat} {p' : Int} {g' : Nat} (hi : i < E.length) (hR : RP b W N f tg w q L B E i tg' wr p' g') (hV : FrV b tg w2 tg' wr) (hx : vE E i ≠ 0) (x : Value) (O : Obj) (hO : (wr.alloc O).cell? ⟨wr.heap.size, 0, none⟩ = some x) :
    ∃ ao cap gb cap' wA, wr.cell? ⟨b.q, 0, none⟩ = some (.slice ao (nzp q 3).length cap) ∧ (Builtin.append_ #[34, 34] 34 #[.slice ao (nzp q 3).length cap, .slice (some ⟨(wr.alloc O).heap.size, 0, none⟩) 1 1]).run Yba.prog ((wr.alloc O).alloc (.cells #[.int .u32 (L : Int), .int .u32 (vE E i : Int)] 37)) = .ok (.slice (some ⟨gb, 0, none⟩) ((nzp q 3).length + 1) cap') wA ∧
      wA.cell? ⟨b.q, 0, none⟩ = some (.slice ao (nzp q 3).length cap) ∧ wA.frozen? ⟨b.q, 0, none⟩ = false ∧ wA.cell? ⟨wr.heap.size, 1, none⟩ = (wr.alloc O).cell? ⟨wr.heap.size, 1, none⟩ ∧ wA.cell? ⟨b.k, 0, none⟩ = some (fnK b) ∧ b.k ≠ b.q ∧ wr.heap.size ≠ b.q ∧
      Calls Yba.prog 23 #[.int .u32 (tE E i : Int), .pointer (some ⟨b.y, 0, none⟩), .pointer (some ⟨b.q, 0, none⟩), .pointer (some ⟨b.dd, 0, none⟩), .pointer (some ⟨b.k, 0, none⟩)] (wA.setCell ⟨b.q, 0, none⟩ (.slice (some ⟨gb, 0, none⟩) ((nzp q 3).length + 1) cap')) fun e w3 => e = .returned (.bool true) ∧ w3.cell? ⟨wr.heap.size, 0, none⟩ = some x ∧ ∃ b3 cap3, w3.cell? ⟨b.q, 0, none⟩ = some (.slice (some ⟨b3, 0, none⟩) ((nzp q 3).length + 1) cap3) ∧ (nzp q 3).length + 1 ≤ cap3 ∧ w3.frozen? ⟨b.q, 0, none⟩ = false ∧ ∃ tg3 p3 g3, RP b W N f tg w q L B E (i + 1) tg3 (w3.setCell ⟨b.q, 0, none⟩ (.slice (some ⟨b3, 0, none⟩) (nzp q 3).length cap3)) p3 g3 ∧ FrV b tg w2 tg3 (w3.setCell ⟨b.q, 0, none⟩ (.slice (some ⟨b3, 0, none⟩) (nzp q 3).length cap3)) := by
  obtain ⟨s1, s2⟩ := hR.copy O
  obtain ⟨l1, l2, l3⟩ := hR.ws.lts
  have hlen := nzp_len q 3
  have hadd := nzp_add q (x := vE E i) hP.L2 hP.qz hx
  generalize hPP : nzp q 3 = P at *
  -- the world in which the new entry lies
  have hJb : Jk (wr.alloc O) ((wr.alloc O).alloc (.cells #[.int .u32 (L : Int), .int .u32 (vE E i : Int)] 37)) := (Jk.refl _).alloc _
  have s3 := s1.jk hJb
  obtain ⟨v, cap, fp, c1, c2, c3⟩ := s3.path
  obtain ⟨ao, pb, rfl, hpb, _⟩ := c2.is
  obtain ⟨v', wA, tg2, cap', f2, hrun, hA, hold, hnew, hFr, _, _⟩ := c2.append elem34 34 (by omega) _ _ _ (src34 (c := 1) (edAt_new (wr.alloc O) L (vE E i) 37)) (by simp; omega)
  obtain ⟨gb, rfl, hgl, hgt, hgr⟩ := hA.pos (by simp)
  have hsz := World.size_alloc wr O
  have hcq : wr.cell? ⟨b.q, 0, none⟩ = some (.slice ao P.length cap) := by
    have := c1
    rw [World.cell?_of_block (hJb.block b.q (by omega)), World.cell?_of_block (Below.heap_alloc wr O b.q l1)] at this
    exact this
  have tcopy : (tagAt tg' wr.heap.size 0) wr.heap.size = 0 := tagAt_same ..
  have hfk : ∀ {y : Nat} {u : Value}, ((wr.alloc O).alloc (.cells #[.int .u32 (L : Int), .int .u32 (vE E i : Int)] 37)).cell? ⟨y, 0, none⟩ = some u → (tagAt tg' wr.heap.size 0) y = 0 → wA.heap[y]? = ((wr.alloc O).alloc (.cells #[.int .u32 (L : Int), .int .u32 (vE E i : Int)] 37)).heap[y]? := fun hu ht => hFr.block _ (World.block_lt_of_cell? _ _ hu) (by rw [ht]; omega)
  have hcopyA : wA.heap[wr.heap.size]? = (wr.alloc O).heap[wr.heap.size]? := by
    rw [hFr.block wr.heap.size (by have := hJb.size; omega) (by rw [tcopy]; omega), hJb.block _ (by omega)]
  have hA' : Sl tg2 wA 8 2 (.slice (some ⟨gb, 0, none⟩) (P.length + 1) cap') (P ++ [(L, vE E i)]).length cap' f2 := by simpa using hA
  have hf2 : ∀ j, j < (P ++ [(L, vE E i)]).length * 2 → f2 j = edF (P ++ [(L, vE E i)]) j := fun j hj => by
    rw [edF_app]
    by_cases h1 : j < P.length * 2
    · rw [if_pos h1, hold j h1, c3 j h1]
    · rw [if_neg h1]
      have := hnew (j - P.length * 2) _ (edCells_get [(L, vE E i)] (by simp at hj ⊢; omega))
      rw [show P.length * 2 + (j - P.length * 2) = j by omega] at this
      exact this
  obtain ⟨s4, s5⟩ := s3.repath hP.ok hFr hA' hf2
  have hc := hP.call hi (tg' := tg2) (w1 := wA.setCell ⟨b.q, 0, none⟩ (.slice (some ⟨gb, 0, none⟩) (P.length + 1) cap')) hR.jj (by rw [hadd]; exact s4)
  have hkA : wA.cell? ⟨b.k, 0, none⟩ = some (fnK b) := by rw [World.cell?_of_block (hfk s3.ck s3.tk)]; exact s3.ck
  refine ⟨ao, cap, gb, cap', wA, hcq, hrun, ?_, ?_, World.cell?_of_block hcopyA, hkA, Ne.symm hP.ok.qk, by omega, ?_⟩
  · rw [World.cell?_of_block (hfk c1 s3.tq)]; exact c1
  · rw [World.frozen?_of_block (hfk c1 s3.tq)]; exact s3.fq
  refine hc.mono ?_
  rintro e w3 ⟨rfl, tg3, p3, g3, z1, z2, z3⟩
  rw [hadd] at z1
  obtain ⟨v3, cap3, f3, d1, d2, d3⟩ := z1.path
  obtain ⟨b3, rfl, hle3, hcut, hfc⟩ := d2.cut d3
  obtain ⟨r1, r2⟩ := z1.repath hP.ok (Fr.refl _ tg3 w3) hcut hfc
  have hVall : FrV b tg' wr tg3 (w3.setCell ⟨b.q, 0, none⟩ (.slice (some ⟨b3, 0, none⟩) P.length cap3)) := (((s2.trans ((hJb.fr (fun _ => False) _).toV (fun _ _ _ h => h))).trans s5).trans z3).trans r2
  have ht2 : tg2 wr.heap.size = 0 := (hFr.tag _ (by have := hJb.size; omega)).trans tcopy
  refine ⟨rfl, ?_, b3, cap3, d1, hle3, z1.fq, tg3, p3, g3, ⟨by rw [hPP]; exact r1, z2, hR.fr.trans hVall⟩, hV.trans hVall⟩
  rw [World.cell?_of_block (z3.block wr.heap.size (by rw [World.size_setCell]; have := hFr.size; have := hJb.size; omega) (by rw [ht2]; omega) (by rw [ht2]; omega) (by omega) (by omega) (by omega)), World.cell?_of_block (Below.heap_setCell _ _ _ _ (by show wr.heap.size ≠ b.q; omega)), World.cell?_of_block hcopyA]
  exact hO

set_option maxRecDepth 100000 in
set_option maxHeartbeats 1000000 in
theorem walk_node (b : Bl) (W : Nat → Bool) (N : List Nd) (f : Nat) (q : Nat → Nat) (a L B : Nat) (E : List Ed) (hP : LP b W N f q a L B E) (hn : N.length ≤ 65000) (he : esum N ≤ 65536) (tg : Nat → Nat) (w : World) (p : Int) (g : Nat) (hS : WS b W N tg w p g (nzp q 3)) (hJ : JJ W B p g) (ha2 : 2 ≤ a) :
    Calls Yba.prog 23 #[.int .u32 (a : Int), .pointer (some ⟨b.y, 0, none⟩), .pointer (some ⟨b.q, 0, none⟩), .pointer (some ⟨b.dd, 0, none⟩), .pointer (some ⟨b.k, 0, none⟩)] w fun e w' => e = .returned (.bool true) ∧ WCP b W N tg w q (B + 4 * 4 ^ (2 - L)) w' := by
  have e1 : ((a : Int) == 0) = false := by simp; omega
  have e2 : ((a : Int) == 1) = false := by simp; omega
  obtain ⟨C, hC⟩ := hS.st
  obtain ⟨xw, hxw⟩ := hC.work
  have k1 : w.cell? ⟨b.d, 1034, none⟩ = some (.int .u64 xw) := by rw [(hC.row 1034 (by omega)).1, hxw]
  have k2 : w.cell? ⟨b.d, 1033, none⟩ = some (.chan none) := by rw [(hC.row 1033 (by omega)).1, hC.stop]
  have k3 := (hC.row 1034 (by omega)).2
  have HLk : Hid _ := look_any w b.d xw k1 k3 k2
  have cd := hS.cd
  have HS : Hid _ := hS
  have HC : Hid _ := hC
  have HP : Hid _ := hP
  have HJ : Hid _ := hJ
  clear hS hC hP hJ hxw k1 k2 k3
  go_enter Yba.func23, Yba.ntmps23
  go_wp2_with fail
  refine Calls.mono HLk.out ?_
  rintro e w1 ⟨rfl, rfl⟩
  dsimp only
  generalize IntKind.u64.wrap (xw + 1) = yw at *
  have hC1 := HC.out.looked yw
  have hF1 : Fr (fun r => r = 1) tg w tg (w.setCell ⟨b.d, 1034, none⟩ (.int .u64 yw)) := (Fr.refl _ tg w).set (a := ⟨b.d, 1034, none⟩) (.inr HC.out.t) _
  have hS1 := HS.out.step hF1 (by omega) (by omega) ⟨_, hC1⟩
  have cd1 := hS1.cd
  obtain ⟨nO, nC, c0, gN, hN, vN⟩ := hC1.nodes
  have hna := vN.at hC1.row (by omega) HP.out.ha
  have HLv : Hid _ := level_any _ b.d nO nC N.length c0 a (lev N a) hna.h0 hna.h2 HP.out.ha (by omega) hna.x0
  have hE0 : 0 < (edg N a).length := List.length_pos_iff.2 (HP.out.wf.ok a ha2 HP.out.ha).ne
  obtain ⟨eb, eo, hEA, htE, hCE⟩ := store_edges_of tg _ b.d _ N [] a hC1 (by omega) he HP.out.ha hE0
  have HV1 : Hid (FrV b tg w tg (w.setCell ⟨b.d, 1034, none⟩ (.int .u64 yw))) := hF1.toV (fun r h1 h2 => h1)
  have HS1 : Hid _ := hS1
  have HEA : Hid _ := hEA
  have HCE : Hid _ := hCE
  have hel4 := HP.out.wf.edg_len HP.out.ha
  clear hC1 hF1 hS1 vN hna hEA hCE HLk cd HC HS
  generalize w.setCell ⟨b.d, 1034, none⟩ (.int .u64 yw) = w1 at *
  rw [HP.out.hL] at HLv
  rw [← HP.out.hE] at HCE hel4 hE0 HEA
  go_wp2_with fail
  refine Calls.mono HLv.out ?_
  rintro e w2 ⟨rfl, rfl⟩
  dsimp only
  go_wp2_with fail
  refine Calls.mono (HCE.out w1 (Jk.refl _)) ?_
  rintro e w2 ⟨rfl, M, rfl⟩
  dsimp only
  have HS2 : Hid _ := HS1.out.jk ((Jk.refl w1).drewN M)
  have HV2 : Hid (FrV b tg w tg (w1.drewN M)) := HV1.out.trans ((((Jk.refl w1).drewN M).fr (fun _ => False) tg).toV (fun r _ _ h => h))
  have HEA2 : Hid (EdAt (w1.drewN M) eb eo E) := HEA.out
  clear HS1 HV1 HEA cd1
  generalize w1.drewN M = w2 at *
  obtain ⟨n, hnn⟩ : ∃ n, n = E.length := ⟨_, rfl⟩
  rw [← hnn] at hel4 hE0 ⊢
  have HNN : Hid _ := hnn
  clear hnn
  go_wp2_with fail
  go_loopg [28] n (fun gk t wr => ∃ (i : Nat) (tg' : Nat → Nat) (p' : Int) (g' : Nat), i ≤ n ∧ gk = n - i ∧ t = .int .i64 (i : Int) ∧ RP b W N f tg w q L B E i tg' wr p' g' ∧ FrV b tg w2 tg' wr)
  case atStart =>
    exact ⟨0, tg, p, g, by omega, rfl, rfl, ⟨HS2.out, by show JJ W (B + 0 * _) p g; rw [Nat.zero_mul, Nat.add_zero]; exact HJ.out, HV2.out⟩, FrV.refl _ _ _⟩
  case round =>
    obtain ⟨i, tg', p', g', hi, hgk, rfl, hR, hV⟩ := hrel
    by_cases hlt : i < n
    · have hlE : i < E.length := by rw [← HNN.out]; exact hlt
      have hw2e : eb < w2.heap.size := World.block_lt_of_cell? _ _ (HEA2.out 0 (by rw [← HNN.out]; exact hE0)).1
      have ne6 : ∀ x, tg x = 0 → eb ≠ x := fun x hx e => by rw [e] at htE; omega
      have hwe : wr.heap[eb]? = w2.heap[eb]? := hV.block eb hw2e (by omega) (by omega) (ne6 _ HS2.out.tq) (ne6 _ HS2.out.tp) (ne6 _ HS2.out.tgg)
      obtain ⟨x1, x2⟩ := HEA2.out i hlE
      rw [← World.cell?_of_block (a := ⟨eb, eo + i * 2, none⟩) hwe] at x1
      rw [← World.cell?_of_block (a := ⟨eb, eo + i * 2 + 1, none⟩) hwe] at x2
      have hkw : IntKind.i64.wrap ((i : Int) + 1) = ((i + 1 : Nat) : Int) := by rw [IntKind.wrap_i64]; omega
      have ck := hR.ws.ck
      unfold fnK at ck
      have ckA : ∀ O, (wr.alloc O).cell? ⟨b.k, 0, none⟩ = some (.func (.func 23) #[] #[.pointer (some ⟨b.y, 0, none⟩), .pointer (some ⟨b.q, 0, none⟩), .pointer (some ⟨b.dd, 0, none⟩), .pointer (some ⟨b.k, 0, none⟩)]) := fun O => cellA ck O
      have hO0 : (wr.alloc (.cells #[.int .u32 (vE E i : Int), .int .u32 (tE E i : Int)] 80)).cell? ⟨wr.heap.size, 0, none⟩ = some (.int .u32 (vE E i : Int)) := by
        unfold World.cell?
        rw [heap_alloc_new]
        rfl
      by_cases hx : vE E i = 0
      · have HZ0 := round_zero HP.out hlE hR hV hx (.int .u32 (vE E i : Int)) (.cells #[.int .u32 (vE E i : Int), .int .u32 (tE E i : Int)] 80) hO0
        have HZ : Hid _ := HZ0
        clear hR hV HZ0 hwe hO0 ne6
        rw [hx] at HZ x1
        go_wp2_with fail
        refine Calls.mono HZ.out ?_
        rintro e w3 ⟨rfl, hcp, tg3, p3, g3, hR3, hV3⟩
        dsimp only
        have HR3 : Hid _ := hR3
        have HV3 : Hid _ := hV3
        clear hR3 hV3 HZ
        have hcp' : w3.cell? ⟨wr.heap.size, 0, none⟩ = some (.int .u32 0) := hcp
        clear hcp
        go_wp2
        go_roundg (n - (i + 1))
        case measure => omega
        case rel => exact ⟨i + 1, tg3, p3, g3, by omega, rfl, rfl, HR3.out, HV3.out⟩
      · obtain ⟨ao, cap, gb, cap', wA, y1, hrun, y2, y3, y4, y5, y6, y7, hcall⟩ := round_pos HP.out hlE hR hV hx (.int .u32 (vE E i : Int)) (.cells #[.int .u32 (vE E i : Int), .int .u32 (tE E i : Int)] 80) hO0
        have HC : Hid _ := hcall
        have hO1 : (wr.alloc (.cells #[.int .u32 (vE E i : Int), .int .u32 (tE E i : Int)] 80)).cell? ⟨wr.heap.size, 1, none⟩ = some (.int .u32 (tE E i : Int)) := by
          unfold World.cell?
          rw [heap_alloc_new]
          rfl
        rw [hO1] at y4
        unfold fnK at y5
        rw [World.size_alloc] at hrun
        have HRun : Hid _ := hrun
        have hlen := nzp_len q 3
        clear hR hV hwe hO0 ne6 hcall hrun hO1
        generalize (nzp q 3).length = pl at *
        have hx1 : ((vE E i : Int) == 0) = false := by simp; exact hx
        generalize vE E i = xv at *
        generalize tE E i = tv at *
        have yA : ∀ O, (wr.alloc O).cell? ⟨b.q, 0, none⟩ = some (.slice ao pl cap) := fun O => cellA y1 O
        have yB : ∀ O O', ((wr.alloc O).alloc O').cell? ⟨b.q, 0, none⟩ = some (.slice ao pl cap) := fun O O' => cellA (cellA y1 O) O'
        have z5 : (wA.setCell ⟨b.q, 0, none⟩ (.slice (some ⟨gb, 0, none⟩) (pl + 1) cap')).cell? ⟨b.k, 0, none⟩ = some (.func (.func 23) #[] #[.pointer (some ⟨b.y, 0, none⟩), .pointer (some ⟨b.q, 0, none⟩), .pointer (some ⟨b.dd, 0, none⟩), .pointer (some ⟨b.k, 0, none⟩)]) := by rw [World.cell?_of_block (Below.heap_setCell _ _ _ _ y6)]; exact y5
        have z4 : (wA.setCell ⟨b.q, 0, none⟩ (.slice (some ⟨gb, 0, none⟩) (pl + 1) cap')).cell? ⟨wr.heap.size, 1, none⟩ = some (.int .u32 (tv : Int)) := by rw [World.cell?_of_block (Below.heap_setCell _ _ _ _ y7)]; exact y4
        go_wp2_with (at_builtin; refine wpList_app34 rfl (.tmp 35) (.tmp 40) rfl rfl rfl HRun.out ?_)
        refine Calls.mono HC.out ?_
        rintro e w3 ⟨rfl, hcp, b3, cap3, d1, d2, d3, tg3, p3, g3, hR3, hV3⟩
        dsimp only
        have HR3 : Hid _ := hR3
        have HV3 : Hid _ := hV3
        clear hR3 hV3 HC HRun z4 z5 yA yB y1 y2 y3 y4 y5
        have hsub : IntKind.i64.wrap ((pl : Int) + 1 - 1) = (pl : Int) := by rw [IntKind.wrap_i64]; omega
        have hsub2 : (pl : Int) + 1 - 1 = (pl : Int) := by omega
        have hsub3 : IntKind.i64.wrap (pl : Int) = (pl : Int) := by rw [IntKind.wrap_i64]; omega
        have hple : pl ≤ cap3 := by omega
        go_wp2
        go_roundg (n - (i + 1))
        case measure => omega
        case rel => exact ⟨i + 1, tg3, p3, g3, by omega, rfl, rfl, HR3.out, HV3.out⟩
    · have hin : i = n := by omega
      have hJ4 := HP.out.skip (i := i) (by rw [← HNN.out]; omega) 4 (by rw [if_neg (by rw [← HNN.out]; omega)]) hR.jj
      have HF : Hid (WCP b W N tg w q (B + 4 * 4 ^ (2 - L)) wr) := ⟨tg', p', g', hR.ws, hJ4, hR.fr⟩
      clear hR hV hJ4
      go_wp2
      go_ret
      exact ⟨rfl, HF.out⟩
/-- The walk, whatever the set. -/
theorem walk_all (b : Bl) (W : Nat → Bool) (N : List Nd) (hw : Wf N) (ok : b.Ok) (hn : N.length ≤ 65000) (he : esum N ≤ 65536) : ∀ f, WC b W N f
  | 0 => by
    intro tg w p g q a l hS ha hl hla hq hz hsay hJ hf
    refine walk_term b W N hw ok tg w p g q a l hS ?_ hl hq hsay hJ
    rcases hw.lev_term ha with ⟨h1, h2⟩ | ⟨h1, _⟩
    · omega
    · exact h1
  | f + 1 => by
    intro tg w p g q a l hS ha hl hla hq hz hsay hJ hf
    rcases hw.lev_term ha with ⟨h1, h2⟩ | ⟨h1, _⟩
    · obtain ⟨s1, s2⟩ := Says.downTo (L := lev N a) (Nat.le_refl _) (by omega) (lev N a - l) l (by omega) hsay
      refine (walk_node b W N f q a (lev N a) (bq q) (edg N a) ⟨hw, ok, walk_all b W N hw ok hn he f, ha, rfl, h2, rfl, rfl, hq, fun i hi => hz i (by omega), s1, by omega⟩ hn he tg w p g hS hJ h1).mono ?_
      rintro e w' ⟨rfl, tg', p', g', z1, z2, z3⟩
      have e4 : 4 * 4 ^ (2 - lev N a) = 4 ^ (3 - lev N a) := by rw [show 3 - lev N a = (2 - lev N a) + 1 by omega, Nat.pow_succ, Nat.mul_comm]
      rw [e4] at z2
      refine ⟨rfl, tg', p', g', z1, z2.skip ?_ s2, z3⟩
      have : 4 ^ (3 - lev N a) ≤ 4 ^ (3 - l) := Nat.pow_le_pow_right (by omega) (by omega)
      omega
    · exact walk_term b W N hw ok tg w p g q a l hS h1 hl hq hsay hJ
end Go.Proofs.Ybulkakra

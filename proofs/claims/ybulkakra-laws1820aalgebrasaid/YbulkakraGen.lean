/-
  Diff and Intersect of seat b1820a: what both walks share.
-/
import Derived.Test.YbulkakraBelow
import Derived.Test.YbulkakraBz
namespace Go.Proofs.Ybulkakra
open Go.RowKit
set_option linter.unusedSimpArgs false
set_option linter.unusedVariables false

/-- How many nodes are laid at most. -/
def gc : Nat → Nat
  | 0 => 0
  | f + 1 => 4 * gc f + 1
/-- What Diff, Intersect leave. -/
def GP (op : Nat) (tg : Nat → Nat) (w w' : World) (d : Nat) (N : List Nd) (S : List Ed) (c a b r : Nat) : Prop :=
  ∃ tg' N', St tg' w' d N' S ∧ Wf N' ∧ N <+: N' ∧ Tru N' op a b r ∧ N'.length ≤ N.length + c ∧ esum N' ≤ esum N + 4 * c ∧ Fr (fun r => 1 ≤ r) tg w tg' w'
/-- The contract. -/
def GC (op fn f : Nat) : Prop := ∀ (tg : Nat → Nat) (w : World) (d e : Nat) (N : List Nd) (S : List Ed) (a b : Nat), St tg w d N S → tg (d + 1) = 1000 + e → Wf N → a < N.length → b < N.length → 3 ≤ f + min (lev N a) (lev N b) → N.length + gc f ≤ 65000 → esum N + 4 * gc f ≤ 65536 → S.length + 8 * f ≤ 1000 →
  Calls Yba.prog fn #[.pointer (some ⟨d, 0, none⟩), .int .u32 (a : Int), .int .u32 (b : Int)] w fun ee w' => ∃ r, ee = .returned (.int .u32 ((r : Nat) : Int)) ∧ GP op tg w w' d N S (gc f) a b r
theorem gp_same {op : Nat} {tg : Nat → Nat} {w : World} {d : Nat} {N : List Nd} {S : List Ed} {c a b r : Nat} (hS : St tg w d N S) (hw : Wf N) (t : Tru N op a b r) : GP op tg w w d N S c a b r :=
  ⟨tg, N, hS, hw, List.prefix_refl _, t, by omega, by omega, Fr.refl _ _ _⟩
theorem GP.swap3 {tg : Nat → Nat} {w w' : World} {d : Nat} {N : List Nd} {S : List Ed} {c a b r : Nat} (h : GP 3 tg w w' d N S c b a r) : GP 3 tg w w' d N S c a b r := by
  obtain ⟨tg', N', h1, h2, h3, h4, h5, h6, h7⟩ := h
  exact ⟨tg', N', h1, h2, h3, h4.swap3, h5, h6, h7⟩
theorem GP.from {op : Nat} {tg : Nat → Nat} {w0 w w' : World} {d : Nat} {N : List Nd} {S : List Ed} {c a b r : Nat} (h : GP op tg w w' d N S c a b r) (k : Fr (fun r => 1 ≤ r) tg w0 tg w) : GP op tg w0 w' d N S c a b r := by
  obtain ⟨tg', N', h1, h2, h3, h4, h5, h6, h7⟩ := h
  exact ⟨tg', N', h1, h2, h3, h4, h5, h6, k.trans h7⟩
theorem GP.low {op : Nat} {tg : Nat → Nat} {w w' : World} {d : Nat} {N : List Nd} {S : List Ed} {c x y t l r : Nat} (h : GP op tg w w' d N S c x t r) (hop : op = 2 ∨ op = 3) (hw : Wf N) (hx : x < N.length) (hy : y < N.length) (hl : l ≤ 2) (lx : l < lev N x) (ly : lev N y = l) (B : Blw N y l 0 t) : GP op tg w w' d N S (4 * c + 1) x y r := by
  obtain ⟨tg', N', h1, h2, h3, h4, h5, h6, h7⟩ := h
  exact ⟨tg', N', h1, h2, h3, tru_right hop hl (by rw [lev_ext h3 hx]; exact lx) (by rw [lev_ext h3 hy]; exact ly) (Nat.lt_of_lt_of_le hy h3.length_le) (B.ext hw h3 hy) h4, by omega, by omega, h7⟩
/-- The entry of the cache laid behind. -/
theorem g_tail {op : Nat} {tg : Nat → Nat} {w0 w3 : World} {d : Nat} {N : List Nd} {S : List Ed} {c x y r cb kk : Nat} (hop : op < 8) (hcb : cb = d - 1) (hkk : kk < 65536) (hN : N.length + c ≤ 65536) (h : GP op tg w0 w3 d N S c x y r) :
    (∃ v0 v1 v2 v3, w3.cell? ⟨cb, kk * 4, none⟩ = some v0 ∧ w3.cell? ⟨cb, kk * 4 + 1, none⟩ = some v1 ∧ w3.cell? ⟨cb, kk * 4 + 2, none⟩ = some v2 ∧ w3.cell? ⟨cb, kk * 4 + 3, none⟩ = some v3) ∧ (w3.frozen? ⟨cb, kk * 4, none⟩ = false ∧ w3.frozen? ⟨cb, kk * 4 + 1, none⟩ = false ∧ w3.frozen? ⟨cb, kk * 4 + 2, none⟩ = false ∧ w3.frozen? ⟨cb, kk * 4 + 3, none⟩ = false) ∧ GP op tg w0 ((((w3.setCell ⟨cb, kk * 4, none⟩ (.int .u32 (op : Int))).setCell ⟨cb, kk * 4 + 1, none⟩ (.int .u32 (x : Int))).setCell ⟨cb, kk * 4 + 2, none⟩ (.int .u32 (y : Int))).setCell ⟨cb, kk * 4 + 3, none⟩ (.int .u32 (r : Int))) d N S c x y r := by
  obtain ⟨tg3, N3, ⟨C3, hC3⟩, h2, h3, h4, h5, h6, h7⟩ := h
  obtain ⟨cb3, f3, hc3⟩ := hC3.cache
  have hcb3 : cb3 = cb := by
    have h1 := hc3.c
    rw [hC3.cat] at h1
    simp at h1
    rw [← h1, hcb]
  subst hcb3
  obtain ⟨e1, e2⟩ := hC3.entry hc3 hkk h4 hop (by omega)
  refine ⟨⟨_, _, _, _, (hc3.row (kk * 4) (by omega)).1, (hc3.row (kk * 4 + 1) (by omega)).1, (hc3.row (kk * 4 + 2) (by omega)).1, (hc3.row (kk * 4 + 3) (by omega)).1⟩, ⟨(hc3.row (kk * 4) (by omega)).2, (hc3.row (kk * 4 + 1) (by omega)).2, (hc3.row (kk * 4 + 2) (by omega)).2, (hc3.row (kk * 4 + 3) (by omega)).2⟩, tg3, N3, ⟨C3, e1⟩, h2, h3, h4, h5, h6, ?_⟩
  exact h7.trans (e2.mono fun r h => by omega)
/-- A hit. -/
theorem g_hit {op : Nat} {tg : Nat → Nat} {w0 : World} {d : Nat} {C : Nat → Value} {N : List Nd} {S : List Ed} {c x y r cb kk M : Nat} {fc : Nat → Value} (h0 : op ≠ 0) (hC : StC tg w0 d C N S) (hw : Wf N) (hc : CacheV tg w0 C N cb fc) (hkk : kk < 65536) (g1 : w0.cell? ⟨cb, kk * 4, none⟩ = some (.int .u32 (op : Int))) (g2 : w0.cell? ⟨cb, kk * 4 + 1, none⟩ = some (.int .u32 (x : Int))) (g3 : w0.cell? ⟨cb, kk * 4 + 2, none⟩ = some (.int .u32 (y : Int))) (g4 : w0.cell? ⟨cb, kk * 4 + 3, none⟩ = some (.int .u32 (r : Int))) : GP op tg w0 (w0.drewN M) d N S c x y r := by
  obtain ⟨op2, a2, b2, r2, f1, f2, f3, f4, _, _, _, _, f5⟩ := hc.val kk hkk
  rw [(hc.row (kk * 4) (by omega)).1, f1] at g1
  rw [(hc.row (kk * 4 + 1) (by omega)).1, f2] at g2
  rw [(hc.row (kk * 4 + 2) (by omega)).1, f3] at g3
  rw [(hc.row (kk * 4 + 3) (by omega)).1, f4] at g4
  simp at g1 g2 g3 g4
  refine ⟨tg, N, ⟨C, hC.jk ((Jk.refl _).drewN M)⟩, hw, List.prefix_refl _, ?_, by omega, by omega, ((Jk.refl _).drewN M).fr _ tg⟩
  have : op2 = op := by omega
  have : a2 = x := by omega
  have : b2 = y := by omega
  have : r2 = r := by omega
  subst op2 a2 b2 r2
  rcases f5 with h | h
  · omega
  · exact h
theorem eoff_ext {N N' : List Nd} (e : N <+: N') {i : Nat} (h : i ≤ N.length) : eoff N' i = eoff N i := by
  obtain ⟨T, rfl⟩ := e
  unfold eoff
  rw [List.take_append_of_le_length h]
/-- The round over the edges of x. -/
structure GI (op : Nat) (tg : Nat → Nat) (w0 : World) (d : Nat) (N : List Nd) (S : List Ed) (x y l g i : Nat) (tgr : Nat → Nat) (wr : World) (Nr : List Nd) (F : List Ed) : Prop where
  st : St tgr wr d Nr (S ++ F)
  inv : DInv N op l y g ((edg N x).take i) F Nr
  fr : Fr (fun r => 1 ≤ r) tg w0 tgr wr
  le : i ≤ (edg N x).length
theorem GI.flen {op : Nat} {tg : Nat → Nat} {w0 : World} {d : Nat} {N : List Nd} {S : List Ed} {x y l g i : Nat} {tgr : Nat → Nat} {wr : World} {Nr : List Nd} {F : List Ed} (h : GI op tg w0 d N S x y l g i tgr wr Nr F) : F.length = i := by
  have h1 := congrArg List.length h.inv.vals
  have := h.le
  simp at h1
  omega
theorem GI.size {op : Nat} {tg : Nat → Nat} {w0 : World} {d : Nat} {N : List Nd} {S : List Ed} {x y l g i : Nat} {tgr : Nat → Nat} {wr : World} {Nr : List Nd} {F : List Ed} (h : GI op tg w0 d N S x y l g i tgr wr Nr F) (m : Nat) (hm : i ≤ m) : Nr.length ≤ N.length + m * g ∧ esum Nr ≤ esum N + 4 * (m * g) := by
  have h1 := h.inv.nlen
  have h2 := h.inv.es
  have h3 : ((edg N x).take i).length ≤ m := by simp; omega
  have h4 := Nat.mul_le_mul_right g h3
  omega
theorem GI.start {op : Nat} {tg : Nat → Nat} {w0 wr : World} {d : Nat} {N : List Nd} {S : List Ed} {x y l g : Nat} (hop : op = 2 ∨ op = 3) (hw : Wf N) (hS : St tg w0 d N S) (hJ : Jk w0 wr) : GI op tg w0 d N S x y l g 0 tg wr N [] := by
  obtain ⟨C, hC⟩ := hS
  exact ⟨⟨C, by rw [List.append_nil]; exact hC.jk hJ⟩, DInv.start hw op l y g hop, hJ.fr _ tg, by omega⟩
theorem GI.edges {op : Nat} {tg : Nat → Nat} {w0 : World} {d e : Nat} {N : List Nd} {S : List Ed} {x y l g i : Nat} {tgr : Nat → Nat} {wr : World} {Nr : List Nd} {F : List Ed} (h : GI op tg w0 d N S x y l g i tgr wr Nr F) (hp : tg (d + 1) = 1000 + e) (hpl : d + 1 < w0.heap.size) (hx : x < N.length) (h0 : 0 < (edg N x).length) (hn : Nr.length ≤ 65536) (he : esum Nr ≤ 65536) : EdAt wr e (eoff N x * 2) (edg N x) := by
  obtain ⟨C, hC⟩ := h.st
  have e1 := edg_ext h.inv.ext hx
  have e2 := eoff_ext h.inv.ext (Nat.le_of_lt hx)
  have := (store_edges_pin tgr wr d e C Nr (S ++ F) x hC ((h.fr.tag _ hpl).trans hp) hn he (Nat.lt_of_lt_of_le hx h.inv.ext.length_le) (by rw [e1]; exact h0)).1
  rwa [e1, e2] at this
theorem GI.below {op : Nat} {tg : Nat → Nat} {w0 : World} {d : Nat} {N : List Nd} {S : List Ed} {x y l g i : Nat} {tgr : Nat → Nat} {wr : World} {Nr : List Nd} {F : List Ed} (h : GI op tg w0 d N S x y l g i tgr wr Nr F) (hy : y < N.length) (hl : l ≤ 2) (hly : l ≤ lev N y) (hn : Nr.length ≤ 65536) (he : esum Nr ≤ 65536) (O : Obj) (v : Nat) (W : World) (hJ : Jk (wr.alloc O) W) :
    Calls Yba.prog 25 #[.pointer (some ⟨d, 0, none⟩), .int .u32 (y : Int), .int .u32 (l : Int), .int .u32 (v : Int)] W fun e w' => ∃ t, e = .returned (.int .u32 ((t : Nat) : Int)) ∧ Blw Nr y l v t ∧ Jk W w' := by
  obtain ⟨C, hC⟩ := h.st
  exact below_any tgr W d y l v C Nr (S ++ F) (hC.jk (((Jk.refl wr).alloc O).trans hJ)) h.inv.wf (Nat.lt_of_lt_of_le hy h.inv.ext.length_le) hl (by rw [lev_ext h.inv.ext hy]; exact hly) hn he
/-- Behind the round's recursion. -/
def GR (op : Nat) (tg : Nat → Nat) (w0 : World) (d : Nat) (N : List Nd) (S : List Ed) (x y l g i v q : Nat) (F : List Ed) (r : Nat) (w' : World) : Prop :=
  ∃ tg2 N2, St tg2 w' d N2 (S ++ F) ∧ DInv N op l y g ((edg N x).take (i + 1)) (F ++ [(v, r)]) N2 ∧ Fr (fun r => 1 ≤ r) tg w0 tg2 w' ∧ w'.cell? ⟨q, 0, none⟩ = some (.int .u32 (v : Int))
theorem take_succ_ed (E : List Ed) {i : Nat} (h : i < E.length) : E.take (i + 1) = E.take i ++ [(vE E i, tE E i)] := by
  rw [List.take_add_one, List.getElem?_eq_getElem h]
  unfold vE tE
  rw [List.getD_eq_getElem?_getD, List.getElem?_eq_getElem h]
  rfl
theorem GI.again {op fn f : Nat} (IH : GC op fn f) {tg : Nat → Nat} {w0 : World} {d e : Nat} {N : List Nd} {S : List Ed} {x y l i : Nat} {tgr : Nat → Nat} {wr : World} {Nr : List Nd} {F : List Ed} (h : GI op tg w0 d N S x y l (gc f) i tgr wr Nr F) (hop : op = 2 ∨ op = 3) (hp : tg (d + 1) = 1000 + e) (hpl : d + 1 < w0.heap.size) (hw : Wf N) (hx : x < N.length) (hy : y < N.length) (hl : l ≤ 2) (lx : lev N x = l) (hi : i < (edg N x).length) (hf : 3 ≤ f + 1 + l) (hc1 : N.length + (4 * gc f + 1) ≤ 65000) (hc2 : esum N + 4 * (4 * gc f + 1) ≤ 65536) (hSl : S.length + 8 * (f + 1) ≤ 1000)
    (v t : Nat) (hv : vE (edg N x) i = v) (ht : tE (edg N x) i = t) (s : Nat) (B : Blw Nr y l v s) (W : World) (hJ : Jk (wr.alloc (.cells #[.int .u32 (v : Int), .int .u32 (t : Int)] 80)) W) :
    Calls Yba.prog fn #[.pointer (some ⟨d, 0, none⟩), .int .u32 (t : Int), .int .u32 (s : Int)] W fun ee w' => ∃ r, ee = .returned (.int .u32 ((r : Nat) : Int)) ∧ GR op tg w0 d N S x y l (gc f) i v wr.heap.size F r w' := by
  obtain ⟨C, hC⟩ := h.st
  have hk := hw.ok x (wf_two hw hx hl lx) hx
  have hmem := tE_mem hi
  rw [hv, ht] at hmem
  obtain ⟨_, t2, t3, t4⟩ := hk.ed _ hmem
  simp only at t2 t3 t4
  have hlen := hw.edg_len hx
  have hts := lev_ext h.inv.ext (show t < N.length by omega)
  have hle := h.inv.ext.length_le
  obtain ⟨z1, z2⟩ := h.size 3 (by omega)
  have hfl := h.flen
  have hB1 := B.1
  have hB2 := B.2.1
  have hdw : d + 1 < wr.heap.size := Nat.lt_of_lt_of_le hpl h.fr.size
  have k1 : Fr (fun r => 1 ≤ r) tgr wr (tagAt tgr wr.heap.size 0) W := ((Fr.refl (fun r => 1 ≤ r) tgr wr).alloc _ 0).trans (hJ.fr _ _)
  have k2 : Fr (fun _ => False) tgr wr (tagAt tgr wr.heap.size 0) W := ((Fr.refl (fun _ => False) tgr wr).alloc _ 0).trans (hJ.fr _ _)
  have hC2 := hC.fr k2 (fun _ _ h => h)
  have hp2 : tagAt tgr wr.heap.size 0 (d + 1) = 1000 + e := (k1.tag _ hdw).trans ((h.fr.tag _ hpl).trans hp)
  refine (IH (tagAt tgr wr.heap.size 0) W d e Nr (S ++ F) t s ⟨C, hC2⟩ hp2 h.inv.wf (by omega) hB1 (by omega) (by omega) (by omega) (by simp; omega)).mono ?_
  rintro ee w' ⟨r, rfl, tg2, N2, g1, g2, g3, g4, g5, g6, g7⟩
  have hb : W.cell? ⟨wr.heap.size, 0, none⟩ = some (.int .u32 (v : Int)) := hJ.cell (by
    unfold World.cell?
    rw [heap_alloc_new]
    rfl)
  refine ⟨r, rfl, tg2, N2, g1, ?_, h.fr.trans (k1.trans g7), ?_⟩
  · rw [take_succ_ed _ hi, hv, ht]
    exact h.inv.step hop hw hy (by omega) (by omega) B g4 g2 g3 g5 g6
  · rw [g7.cell (World.block_lt_of_cell? _ _ hb) (by rw [tagAt_same]; omega)]
    exact hb
theorem GI.next {op : Nat} {tg : Nat → Nat} {w0 : World} {d : Nat} {N : List Nd} {S : List Ed} {x y l g i v r : Nat} {tg2 : Nat → Nat} {wx w' : World} {N2 : List Nd} {F : List Ed} (hD : DInv N op l y g ((edg N x).take (i + 1)) (F ++ [(v, r)]) N2) (hF : Fr (fun r => 1 ≤ r) tg w0 tg2 wx) (hi : i < (edg N x).length) {S1 : List Ed} (hS1 : S1 = S ++ F) (p : PushP tg2 wx w' d N2 S1 [(v, r)]) : ∃ tgr', GI op tg w0 d N S x y l g (i + 1) tgr' w' N2 (F ++ [(v, r)]) := by
  obtain ⟨tg', C', p1, p2⟩ := p
  rw [hS1] at p1
  exact ⟨tg', ⟨C', by rw [← List.append_assoc]; exact p1⟩, hD, hF.trans (p2.mono fun r h => by omega), hi⟩
theorem GI.build {op f : Nat} {tg : Nat → Nat} {w0 : World} {d : Nat} {N : List Nd} {S : List Ed} {x y l i : Nat} {tgr : Nat → Nat} {wr : World} {Nr : List Nd} {F : List Ed} (h : GI op tg w0 d N S x y l (gc f) i tgr wr Nr F) (hop : op = 2 ∨ op = 3) (hw : Wf N) (hx : x < N.length) (hy : y < N.length) (hl : l ≤ 2) (lx : lev N x = l) (ly : l ≤ lev N y) (hin : i = (edg N x).length) (hc1 : N.length + (4 * gc f + 1) ≤ 65000) (hc2 : esum N + 4 * (4 * gc f + 1) ≤ 65536) (hSl : S.length + 8 ≤ 1000) :
    Calls Yba.prog 20 #[.pointer (some ⟨d, 0, none⟩), .int .u32 (l : Int), .int .i64 (S.length : Int)] wr fun e w' => ∃ r, e = .returned (.int .u32 ((r : Nat) : Int)) ∧ GP op tg w0 w' d N S (4 * gc f + 1) x y r := by
  have hlen := hw.edg_len hx
  obtain ⟨z1, z2⟩ := h.size 4 (by omega)
  have hfl := h.flen
  have hk := hw.ok x (wf_two hw hx hl lx) hx
  have hne : 0 < (edg N x).length := List.length_pos_iff.2 hk.ne
  have hD := h.inv
  rw [List.take_of_length_le (by omega)] at hD
  refine (build_z tgr wr d Nr S F l h.st hD.wf (inc_map hD.vals hk.inc) hl (fun e he => ?_) (by intro hF; rw [hF] at hfl; simp at hfl; omega) (by omega) (by omega) hSl).mono ?_
  · have hm : e.1 ∈ F.map (·.1) := List.mem_map.2 ⟨e, he, rfl⟩
    rw [hD.vals] at hm
    obtain ⟨e', he', q⟩ := List.mem_map.1 hm
    have := hD.hang e he
    have q2 := (hk.ed e' he').1
    exact ⟨by omega, this.1, this.2⟩
  · rintro e w' ⟨r, rfl, tg', N', b1, b2, b3⟩
    have q1 := b2.len
    have q2 := b2.es
    exact ⟨r, rfl, tg', N', b1, b2.wf, hD.ext.trans b2.ext, hD.tru hop hw hl hx hy lx ly b2, by omega, by omega, h.fr.trans b3⟩
end Go.Proofs.Ybulkakra

/-
  WHAT All's WALK CARRIES, of seat b1820a.
-/
import Derived.Test.YbulkakraCall
namespace Go.Proofs.Ybulkakra
open Go.RowKit
set_option linter.unusedSimpArgs false
set_option linter.unusedVariables false

theorem elem34 : Elem 34 37 2 := elem_of Yba.underlying34 (by kernel_rfl)
theorem StC.frX {R : Nat → Prop} {tg tg' : Nat → Nat} {w w' : World} {d : Nat} {C : Nat → Value} {N : List Nd} {S : List Ed} (v : StC tg w d C N S) (k : Fr R tg w tg' w') (hr : ∀ r, 1 ≤ r → r ≠ 8 → ¬ R r) : StC tg' w' d C N S := by
  have l := v.row.lt (by omega)
  exact ⟨v.row.fr k l (by rw [v.t]; exact hr 1 (by omega) (by omega)), (k.tag _ l).trans v.t, v.nodes.fr k (hr _ (by omega) (by omega)) (hr _ (by omega) (by omega)) rfl rfl, v.edges.fr k (hr _ (by omega) (by omega)) (hr _ (by omega) (by omega)) rfl, v.parts.fr k (fun r h => hr r (by omega) (by omega)) (fun _ _ _ => rfl), by
    obtain ⟨cb, f, c⟩ := v.cache
    exact ⟨cb, f, c.fr k (hr _ (by omega) (by omega)) rfl⟩, v.stack.fr k (hr _ (by omega) (by omega)) rfl, v.stop, v.work, v.cat⟩
/-- The blocks of the variables. -/
structure Bl where
  d : Nat
  y : Nat
  k : Nat
  dd : Nat
  q : Nat
  p : Nat
  g : Nat
  w : Nat
  o : Nat
structure Bl.Ok (b : Bl) : Prop where
  qy : b.q ≠ b.y
  qk : b.q ≠ b.k
  qd : b.q ≠ b.dd
  qp : b.q ≠ b.p
  qg : b.q ≠ b.g
  qw : b.q ≠ b.w
  py : b.p ≠ b.y
  pk : b.p ≠ b.k
  pd : b.p ≠ b.dd
  pg : b.p ≠ b.g
  pw : b.p ≠ b.w
  gy : b.g ≠ b.y
  gk : b.g ≠ b.k
  gd : b.g ≠ b.dd
  gw : b.g ≠ b.w
  oq : b.o ≠ b.q
  op : b.o ≠ b.p
  og : b.o ≠ b.g
def fnY (b : Bl) : Value := .func (.func 10) #[] #[.pointer (some ⟨b.o, 0, none⟩), .pointer (some ⟨b.p, 0, none⟩), .pointer (some ⟨b.w, 0, none⟩), .pointer (some ⟨b.g, 0, none⟩)]
def fnK (b : Bl) : Value := .func (.func 23) #[] #[.pointer (some ⟨b.y, 0, none⟩), .pointer (some ⟨b.q, 0, none⟩), .pointer (some ⟨b.dd, 0, none⟩), .pointer (some ⟨b.k, 0, none⟩)]
/-- What the walk carries. -/
structure WS (b : Bl) (W : Nat → Bool) (N : List Nd) (tg : Nat → Nat) (w : World) (p : Int) (g : Nat) (P : List Ed) : Prop where
  st : St tg w b.d N []
  cy : w.cell? ⟨b.y, 0, none⟩ = some (fnY b)
  ck : w.cell? ⟨b.k, 0, none⟩ = some (fnK b)
  cd : w.cell? ⟨b.dd, 0, none⟩ = some (.pointer (some ⟨b.d, 0, none⟩))
  cp : w.cell? ⟨b.p, 0, none⟩ = some (.int .i64 p)
  fp : w.frozen? ⟨b.p, 0, none⟩ = false
  cg : w.cell? ⟨b.g, 0, none⟩ = some (.int .i64 (g : Int))
  fg : w.frozen? ⟨b.g, 0, none⟩ = false
  co : w.cell? ⟨b.o, 0, none⟩ = some (.bool true)
  row : Row w b.w 64 (fun i => .bool (W i))
  fq : w.frozen? ⟨b.q, 0, none⟩ = false
  path : ∃ v cap f, w.cell? ⟨b.q, 0, none⟩ = some v ∧ Sl tg w 8 2 v P.length cap f ∧ ∀ i, i < P.length * 2 → f i = edF P i
  ty : tg b.y = 0
  tk : tg b.k = 0
  td : tg b.dd = 0
  tp : tg b.p = 0
  tgg : tg b.g = 0
  tw : tg b.w = 0
  tq : tg b.q = 0
  too : tg b.o = 0
/-- What the walk leaves alone. -/
structure FrV (b : Bl) (tg : Nat → Nat) (w : World) (tg' : Nat → Nat) (w' : World) : Prop where
  os : w'.os = w.os
  output : w'.output = w.output
  size : w.heap.size ≤ w'.heap.size
  tag : ∀ x, x < w.heap.size → tg' x = tg x
  block : ∀ x, x < w.heap.size → tg x ≠ 1 → tg x ≠ 8 → x ≠ b.q → x ≠ b.p → x ≠ b.g → w'.heap[x]? = w.heap[x]?
theorem FrV.refl (b : Bl) (tg : Nat → Nat) (w : World) : FrV b tg w tg w := ⟨rfl, rfl, Nat.le_refl _, fun _ _ => rfl, fun _ _ _ _ _ _ _ => rfl⟩
theorem FrV.trans {b : Bl} {tg tg1 tg2 : Nat → Nat} {w w1 w2 : World} (h : FrV b tg w tg1 w1) (k : FrV b tg1 w1 tg2 w2) : FrV b tg w tg2 w2 :=
  ⟨k.os.trans h.os, k.output.trans h.output, Nat.le_trans h.size k.size, fun x hx => (k.tag x (Nat.lt_of_lt_of_le hx h.size)).trans (h.tag x hx), fun x hx h0 h0' h1 h2 h3 => (k.block x (Nat.lt_of_lt_of_le hx h.size) (by rw [h.tag x hx]; exact h0) (by rw [h.tag x hx]; exact h0') h1 h2 h3).trans (h.block x hx h0 h0' h1 h2 h3)⟩
theorem Fr.toV {b : Bl} {R : Nat → Prop} {tg tg' : Nat → Nat} {w w' : World} (h : Fr R tg w tg' w') (h0 : ∀ r, r ≠ 1 → r ≠ 8 → ¬ R r) : FrV b tg w tg' w' := ⟨h.os, h.output, h.size, h.tag, fun x hx e1 e2 _ _ _ => h.block x hx (h0 _ e1 e2)⟩
/-- A step that touches no variable and not the path. -/
theorem WS.step {b : Bl} {W : Nat → Bool} {N : List Nd} {tg tg' : Nat → Nat} {w w' : World} {p : Int} {g : Nat} {P : List Ed} {R : Nat → Prop} (h : WS b W N tg w p g P) (k : Fr R tg w tg' w') (h0 : ¬ R 0) (h8 : ¬ R 8) (hs : St tg' w' b.d N []) : WS b W N tg' w' p g P := by
  have L : ∀ {x : Nat} {v : Value}, w.cell? ⟨x, 0, none⟩ = some v → x < w.heap.size := fun hv => World.block_lt_of_cell? _ _ hv
  have B : ∀ {x : Nat} {v : Value}, w.cell? ⟨x, 0, none⟩ = some v → tg x = 0 → w'.cell? ⟨x, 0, none⟩ = some v := fun hv ht => (k.cell (L hv) (by show ¬ R (tg _); rw [ht]; exact h0)).trans hv
  have Z : ∀ {x : Nat} {v : Value}, w.cell? ⟨x, 0, none⟩ = some v → tg x = 0 → w.frozen? ⟨x, 0, none⟩ = false → w'.frozen? ⟨x, 0, none⟩ = false := fun hv ht hf => (k.frozen (L hv) (by show ¬ R (tg _); rw [ht]; exact h0)).trans hf
  obtain ⟨v, cap, f, c1, c2, c3⟩ := h.path
  exact ⟨hs, B h.cy h.ty, B h.ck h.tk, B h.cd h.td, B h.cp h.tp, Z h.cp h.tp h.fp, B h.cg h.tgg, Z h.cg h.tgg h.fg, B h.co h.too, h.row.fr k (h.row.lt (by omega)) (by rw [h.tw]; exact h0), Z c1 h.tq h.fq, ⟨v, cap, f, B c1 h.tq, c2.fr k h8, c3⟩,
    (k.tag _ (L h.cy)).trans h.ty, (k.tag _ (L h.ck)).trans h.tk, (k.tag _ (L h.cd)).trans h.td, (k.tag _ (L h.cp)).trans h.tp, (k.tag _ (L h.cg)).trans h.tgg, (k.tag _ (h.row.lt (by omega))).trans h.tw, (k.tag _ (L c1)).trans h.tq, (k.tag _ (L h.co)).trans h.too⟩
theorem WS.jk {b : Bl} {W : Nat → Bool} {N : List Nd} {tg : Nat → Nat} {w w' : World} {p : Int} {g : Nat} {P : List Ed} (h : WS b W N tg w p g P) (k : Jk w w') : WS b W N tg w' p g P := by
  obtain ⟨C, hC⟩ := h.st
  exact h.step (k.fr (fun _ => False) tg) (fun h => h) (fun h => h) ⟨C, hC.jk k⟩
/-- The path written anew: the world wA in which its entries lie, and the store of its slice. -/
theorem WS.repath {b : Bl} {W : Nat → Bool} {N : List Nd} {tg tg' : Nat → Nat} {w wA : World} {p : Int} {g : Nat} {P P' : List Ed} (ok : b.Ok) (h : WS b W N tg w p g P) (k : Fr (· = 8) tg w tg' wA) {v' : Value} {cap' : Nat} {f' : Nat → Value} (hA : Sl tg' wA 8 2 v' P'.length cap' f') (hf : ∀ i, i < P'.length * 2 → f' i = edF P' i) :
    WS b W N tg' (wA.setCell ⟨b.q, 0, none⟩ v') p g P' ∧ FrV b tg w tg' (wA.setCell ⟨b.q, 0, none⟩ v') := by
  obtain ⟨C, hC⟩ := h.st
  have L : ∀ {x : Nat} {v : Value}, w.cell? ⟨x, 0, none⟩ = some v → x < w.heap.size := fun hv => World.block_lt_of_cell? _ _ hv
  have B : ∀ {x : Nat} {v : Value}, w.cell? ⟨x, 0, none⟩ = some v → tg x = 0 → wA.cell? ⟨x, 0, none⟩ = some v := fun hv ht => (k.cell (L hv) (by show ¬ tg _ = 8; rw [ht]; omega)).trans hv
  have Z : ∀ {x : Nat} {v : Value}, w.cell? ⟨x, 0, none⟩ = some v → tg x = 0 → w.frozen? ⟨x, 0, none⟩ = false → wA.frozen? ⟨x, 0, none⟩ = false := fun hv ht hf => (k.frozen (L hv) (by show ¬ tg _ = 8; rw [ht]; omega)).trans hf
  have T : ∀ {x : Nat} {v : Value}, w.cell? ⟨x, 0, none⟩ = some v → tg x = 0 → tg' x = 0 := fun hv ht => (k.tag _ (L hv)).trans ht
  obtain ⟨v, cap, f, c1, c2, c3⟩ := h.path
  have S : ∀ {x : Nat}, x ≠ b.q → (wA.setCell ⟨b.q, 0, none⟩ v').heap[x]? = wA.heap[x]? := fun hx => Below.heap_setCell _ _ _ _ hx
  have tq' := T c1 h.tq
  have F1 : Fr (fun r => r = 0) tg' wA tg' (wA.setCell ⟨b.q, 0, none⟩ v') := (Fr.refl _ tg' wA).set (a := ⟨b.q, 0, none⟩) (.inr tq') _
  have hC2 : StC tg' wA b.d C N [] := hC.frX k (fun r h1 h2 => h2)
  refine ⟨⟨⟨C, hC2.fr F1 (fun r h => by omega)⟩, ?_, ?_, ?_, ?_, ?_, ?_, ?_, ?_, ?_, ?_, ⟨v', cap', f', ?_, hA.fr F1 (by omega), hf⟩, T h.cy h.ty, T h.ck h.tk, T h.cd h.td, T h.cp h.tp, T h.cg h.tgg, (k.tag _ (h.row.lt (by omega))).trans h.tw, tq', T h.co h.too⟩, ?_⟩
  · rw [World.cell?_of_block (S (Ne.symm ok.qy))]; exact B h.cy h.ty
  · rw [World.cell?_of_block (S (Ne.symm ok.qk))]; exact B h.ck h.tk
  · rw [World.cell?_of_block (S (Ne.symm ok.qd))]; exact B h.cd h.td
  · rw [World.cell?_of_block (S (Ne.symm ok.qp))]; exact B h.cp h.tp
  · rw [World.frozen?_of_block (S (Ne.symm ok.qp))]; exact Z h.cp h.tp h.fp
  · rw [World.cell?_of_block (S (Ne.symm ok.qg))]; exact B h.cg h.tgg
  · rw [World.frozen?_of_block (S (Ne.symm ok.qg))]; exact Z h.cg h.tgg h.fg
  · rw [World.cell?_of_block (S ok.oq)]; exact B h.co h.too
  · exact (h.row.fr k (h.row.lt (by omega)) (by rw [h.tw]; omega)).of_block (S (Ne.symm ok.qw))
  · rw [World.frozen?_setCell]; exact Z c1 h.tq h.fq
  · rw [World.cell?_setCell_same _ _ _ (B c1 h.tq)]
  · refine ⟨k.os, k.output, by rw [World.size_setCell]; exact k.size, k.tag, fun x hx _ h0 h1 _ _ => ?_⟩
    rw [S h1, k.block x hx h0]
/-- Behind the callback. -/
theorem WS.called {b : Bl} {W : Nat → Bool} {N : List Nd} {tg : Nat → Nat} {w w' : World} {p : Int} {g c : Nat} {P : List Ed} (ok : b.Ok) (h : WS b W N tg w p g P) (k : CbP w w' b.p b.g c g) : WS b W N tg w' (c : Int) (g + 1) P ∧ FrV b tg w tg w' := by
  obtain ⟨hC, c1, c2, c3, c4⟩ := k
  have L : ∀ {x : Nat} {v : Value}, w.cell? ⟨x, 0, none⟩ = some v → x < w.heap.size := fun hv => World.block_lt_of_cell? _ _ hv
  have B : ∀ {x : Nat} {v : Value}, w.cell? ⟨x, 0, none⟩ = some v → x ≠ b.p → x ≠ b.g → w'.heap[x]? = w.heap[x]? := fun hv h1 h2 => hC.block _ (L hv) (by rintro (e | e); exact h1 e; exact h2 e)
  obtain ⟨v, cap, f, d1, d2, d3⟩ := h.path
  obtain ⟨C, hSt⟩ := h.st
  have F0 : Fr (fun r => r = 0) tg w tg w' := hC.fr fun x _ e => by
    rcases e with rfl | rfl
    · exact h.tp
    · exact h.tgg
  refine ⟨⟨⟨C, hSt.fr F0 (fun r h => by omega)⟩, ?_, ?_, ?_, c1, c2, by rw [c3]; rfl, c4, ?_, ?_, ?_, ⟨v, cap, f, ?_, d2.fr F0 (by omega), d3⟩, h.ty, h.tk, h.td, h.tp, h.tgg, h.tw, h.tq, h.too⟩, ?_⟩
  · rw [World.cell?_of_block (B h.cy (Ne.symm ok.py) (Ne.symm ok.gy))]; exact h.cy
  · rw [World.cell?_of_block (B h.ck (Ne.symm ok.pk) (Ne.symm ok.gk))]; exact h.ck
  · rw [World.cell?_of_block (B h.cd (Ne.symm ok.pd) (Ne.symm ok.gd))]; exact h.cd
  · rw [World.cell?_of_block (B h.co ok.op ok.og)]; exact h.co
  · exact h.row.of_block (hC.block _ (h.row.lt (by omega)) (by rintro (e | e); exact ok.pw e.symm; exact ok.gw e.symm))
  · rw [World.frozen?_of_block (B d1 ok.qp ok.qg)]; exact h.fq
  · rw [World.cell?_of_block (B d1 ok.qp ok.qg)]; exact d1
  · exact ⟨hC.os, hC.output, hC.size, fun _ _ => rfl, fun x hx _ _ _ h2 h3 => hC.block x hx (by rintro (e | e); exact h2 e; exact h3 e)⟩
theorem nzp_add (q : Nat → Nat) {L x : Nat} (hL : L ≤ 2) (hz : ∀ i, L ≤ i → q i = 0) (hx : x ≠ 0) : nzp (fun i => if i = L then x else q i) 3 = nzp q 3 ++ [(L, x)] := by
  have h1 := nzp_top (fun i => if i = L then x else q i) (L + 1) (2 - L) (fun i hi => by rw [if_neg (by omega)]; exact hz i (by omega))
  have h2 := nzp_top q L (3 - L) hz
  rw [show L + 1 + (2 - L) = 3 by omega] at h1
  rw [show L + (3 - L) = 3 by omega] at h2
  rw [h1, h2]
  simp only [nzp]
  rw [nzp_congr _ q L (fun i hi => if_neg (by omega))]
  simp [hx]
/-- The path cut back. -/
theorem Sl.cut {tg : Nat → Nat} {w : World} {v : Value} {P : List Ed} {e : Ed} {cap : Nat} {f : Nat → Value} (h : Sl tg w 8 2 v (P ++ [e]).length cap f) (hf : ∀ i, i < (P ++ [e]).length * 2 → f i = edF (P ++ [e]) i) : ∃ b, v = .slice (some ⟨b, 0, none⟩) (P.length + 1) cap ∧ P.length + 1 ≤ cap ∧ Sl tg w 8 2 (.slice (some ⟨b, 0, none⟩) P.length cap) P.length cap f ∧ ∀ i, i < P.length * 2 → f i = edF P i := by
  obtain ⟨b, h1, h2, h3, h4⟩ := h.pos (by simp)
  have hle := h.le
  simp at hle
  refine ⟨b, by rw [h1]; simp, hle, ⟨⟨_, b, rfl, fun _ => ⟨rfl, h2, h3⟩, h4⟩, by omega, h.max⟩, fun i hi => ?_⟩
  rw [hf i (by simp; omega), edF_app, if_pos hi]
end Go.Proofs.Ybulkakra

/-
  THE STACK GROWS, of seat b1820a: what Union lays upon it.
-/
import Derived.Test.YbulkakraBuild
namespace Go.Proofs.Ybulkakra
open Go.RowKit
set_option linter.unusedSimpArgs false
set_option linter.unusedVariables false

theorem step_call19 {ops : Array Oper} {o : Oper} {a : Act} {w : World} {K : Act → World → Prop} {Q : Exit → Act → World → Prop} {E : Prop}
    (hg : o.guard = none) (x y : Operand) (ts : Array TypeId) (hop : o.op = Op.call { callee := Callee.value (Operand.func 19), args := #[x, y], argTypes := ts })
    (xv yv : Value) (hx : a.eval x = xv) (hy : a.eval y = yv) (hc : Calls Yba.prog 19 #[xv, yv] w fun e w' => ∃ v, e = .returned v ∧ K (a.put o.dst v) w') :
    if Region.wanted o (yielded ops a.tmps) = true then Oper.wp Yba.prog o a w K Q else E := by
  subst hx hy
  have hw : Region.wanted o (yielded ops a.tmps) = true := by simp [Region.wanted, hg]
  rw [if_pos hw]
  unfold Oper.wp
  have he : a.eval (Operand.func 19) = .func (.func 19) #[] #[] := rfl
  simp [execOp, hop, resolve, invoke, he, Result.andThen, Deferred.ofValue, callFunc]
  have hb : Yba.f19.body.isSome = true := by kernel_rfl
  have hn : (Yba.f19.name == "runtime.NumGoroutine") = false := by kernel_rfl
  rw [if_neg (by simpa using hn), if_neg (by intro h; rw [h] at hb; simp at hb)]
  show Calls Yba.prog 19 #[a.eval x, a.eval y] w _
  refine hc.mono ?_
  rintro e w' ⟨v, rfl, hK⟩
  exact hK
theorem edF_app (S E : List Ed) (i : Nat) : edF (S ++ E) i = if i < S.length * 2 then edF S i else edF E (i - S.length * 2) := by
  unfold edF vE tE
  by_cases h : i < S.length * 2
  · rw [if_pos h]
    simp [List.getElem?_append_left (show i / 2 < S.length by omega)]
  · rw [if_neg h]
    rw [show (i - S.length * 2) % 2 = i % 2 by omega, show (i - S.length * 2) / 2 = i / 2 - S.length by omega]
    simp [List.getElem?_append_right (show S.length ≤ i / 2 by omega)]
/-- The stack behind an append. -/
theorem StC.pushed {tg tg' : Nat → Nat} {w w' : World} {d : Nat} {C : Nat → Value} {N : List Nd} {S E : List Ed} {v' : Value} {cap' : Nat} {f f' : Nat → Value} (h : StC tg w d C N S) (hf : ∀ i, i < S.length * 2 → f i = edF S i)
    (hA : Sl tg' w' 3 2 v' (S.length + E.length) cap' f') (hold : ∀ i, i < S.length * 2 → f' i = f i) (hnew : ∀ j u, (edCells E)[j]? = some u → f' (S.length * 2 + j) = u) (k : Fr (· = 3) tg w tg' w') :
    StC tg' (w'.setCell ⟨d, 1031, none⟩ v') d (up1 C 1031 v') N (S ++ E) ∧ Fr (fun r => r = 1 ∨ r = 3) tg w tg' (w'.setCell ⟨d, 1031, none⟩ v') := by
  have l := h.row.lt (by omega)
  have hd : Row w' d 1035 C := h.row.fr k l (by rw [h.t]; omega)
  have t' : tg' d = 1 := (k.tag _ l).trans h.t
  have F : Fr (fun r => r = 1) tg' w' tg' (w'.setCell ⟨d, 1031, none⟩ v') := (Fr.refl _ tg' w').set (a := ⟨d, 1031, none⟩) (.inr t') _
  have K : Fr (fun r => r = 1 ∨ r = 3) tg w tg' (w'.setCell ⟨d, 1031, none⟩ v') := (k.mono fun r h => .inr h).trans (F.mono fun r h => .inl h)
  have e : ∀ i, i ≠ 1031 → up1 C 1031 v' i = C i := fun i h => up1_other _ _ h
  refine ⟨⟨hd.set 1031 _, t', h.nodes.fr K (by omega) (by omega) (e _ (by omega)) (e _ (by omega)), h.edges.fr K (by omega) (by omega) (e _ (by omega)), h.parts.fr K (by omega) (fun i h1 h2 => e _ (by omega)), ?_, ?_, (e _ (by omega)).trans h.stop, by rw [e _ (by omega)]; exact h.work, (e _ (by omega)).trans h.cat, h.pin.fr K (by omega) (e _ (by omega))⟩, K⟩
  · obtain ⟨cb, g, c⟩ := h.cache
    exact ⟨cb, g, c.fr K (by omega) (e _ (by omega))⟩
  · refine ⟨cap', f', ?_, fun i hi => ?_⟩
    · rw [up1_same, List.length_append]
      exact hA.fr F (by omega)
    · rw [edF_app]
      rw [List.length_append] at hi
      by_cases h1 : i < S.length * 2
      · rw [if_pos h1, hold i h1, hf i h1]
      · rw [if_neg h1]
        have := hnew (i - S.length * 2) _ (edCells_get E (by omega))
        rw [show S.length * 2 + (i - S.length * 2) = i by omega] at this
        exact this
theorem src_ed {w : World} {b o c : Nat} {E : List Ed} (h : EdAt w b o E) : Src Yba.prog 2 63 (.slice (some ⟨b, o, none⟩) E.length c) E.length (edCells E) w :=
  Src.ofSlice _ elem63.1 _ _ _ _ (edCells_len E) (edCells_src h) (edCells_one E)
/-- What a push leaves. -/
def PushP (tg : Nat → Nat) (w w' : World) (d : Nat) (N : List Nd) (S E : List Ed) : Prop := ∃ tg' C', StC tg' w' d C' N (S ++ E) ∧ Fr (fun r => r = 1 ∨ r = 3) tg w tg' w'
/-- What Union asks of the stack's slice. -/
structure Top (tg : Nat → Nat) (w : World) (d : Nat) (v : Value) (S : List Ed) : Prop where
  sl : ∃ cap f, Sl tg w 3 2 v S.length cap f ∧ ∀ i, i < S.length * 2 → f i = edF S i
  cell : w.cell? ⟨d, 1031, none⟩ = some v
  froz : w.frozen? ⟨d, 1031, none⟩ = false
  t : tg d = 1
theorem StC.top {tg : Nat → Nat} {w : World} {d : Nat} {C : Nat → Value} {N : List Nd} {S : List Ed} (h : StC tg w d C N S) : Top tg w d (C 1031) S := ⟨h.stack, (h.row 1031 (by omega)).1, (h.row 1031 (by omega)).2, h.t⟩
theorem push_rel {tg tg' : Nat → Nat} {w0 w wA : World} {d : Nat} {C : Nat → Value} {N : List Nd} {S E : List Ed} {v' : Value} {cap' : Nat} {f f' : Nat → Value} (h : StC tg w0 d C N S) (hJ : Jk w0 w) (hf : ∀ i, i < S.length * 2 → f i = edF S i)
    (hA : Sl tg' wA 3 2 v' (S.length + E.length) cap' f') (hold : ∀ i, i < S.length * 2 → f' i = f i) (hnew : ∀ j u, (edCells E)[j]? = some u → f' (S.length * 2 + j) = u) (k : Fr (· = 3) tg w tg' wA) : PushP tg w0 (wA.setCell ⟨d, 1031, none⟩ v') d N S E := by
  obtain ⟨h1, h2⟩ := (h.jk hJ).pushed hf hA hold hnew k
  exact ⟨tg', _, h1, (hJ.fr _ tg).trans h2⟩
/-- An append whose run is known. -/
theorem wpList_app63 {ops : Array Oper} {rest : List Oper} {o : Oper} {a : Act} {w w' : World} {Q : Exit → Act → World → Prop} {v xv v' : Value} (hgd : o.guard = none) (s x : Operand) (ho : o.op = .call { callee := .builtin .append, args := #[s, x], argTypes := #[63, 63] })
    (hv : a.eval s = v) (hx : a.eval x = xv) (hrun : (Builtin.append_ #[63, 63] o.type #[v, xv]).run Yba.prog w = .ok v' w') (h : wpList Yba.prog ops Q rest (a.put o.dst v') w') : wpList Yba.prog ops Q (o :: rest) a w := by
  refine wpList_plain hgd fun K hK' => ?_
  unfold Oper.wp
  simp [execOp, ho, resolve, invoke, builtin, hv, hx, hrun, Result.andThen]
  exact hK' _ _ h
theorem edAt_new (w : World) (x y : Nat) (T : TypeId) : EdAt (w.alloc (.cells #[.int .u32 (x : Int), .int .u32 (y : Int)] T)) w.heap.size 0 [(x, y)] := by
  intro j hj
  have : j = 0 := by simp at hj; omega
  subst this
  unfold World.cell?
  rw [heap_alloc_new]
  exact ⟨rfl, rfl⟩
/-- The store's edgesOf. -/
theorem store_edges_of (tg : Nat → Nat) (w : World) (d : Nat) (C : Nat → Value) (N : List Nd) (S : List Ed) (i : Nat) (h : StC tg w d C N S) (hn : N.length ≤ 65536) (he : esum N ≤ 65536) (hi : i < N.length) (h0 : 0 < (edg N i).length) :
    ∃ b o, EdAt w b o (edg N i) ∧ tg b = 6 ∧ ∀ w1, Jk w w1 → Calls Yba.prog 19 #[.pointer (some ⟨d, 0, none⟩), .int .u32 (i : Int)] w1 fun e w' => e = .returned (.slice (some ⟨b, o, none⟩) (edg N i).length (edg N i).length) ∧ ∃ N, w' = w1.drewN N := by
  obtain ⟨nO, nC, c0, g, hh, v⟩ := h.nodes
  have hb := eoff_bound N hi
  rcases h.edges with ⟨h1, _⟩ | ⟨eO, eC, c1, g2, h2, u⟩
  · omega
  · refine ⟨eC, eoff N i * 2, fun j hj => ?_, u.tc, fun w1 hJ => ?_⟩
    · obtain ⟨a, b⟩ := u.val i hi j hj
      rw [show eoff N i * 2 + j * 2 = (eoff N i + j) * 2 by omega, (u.rc ((eoff N i + j) * 2) (by omega)).1, a, (u.rc ((eoff N i + j) * 2 + 1) (by omega)).1, b]
      exact ⟨rfl, rfl⟩
    · have hA := (v.at h.row hn hi).jk hJ
      exact store_edges w1 d i _ (edges_some w1 d 0 nO nC N.length c0 i eO eC (esum N) c1 (eoff N i) (edg N i).length hA.h0 hA.h2 hi hn hA.x1 hA.x2 (hJ.cell (by rw [(h.row 2 (by omega)).1, u.c])) (hJ.cell (by rw [(u.ro 0 u.one).1, u.g0])) hb he h0)
theorem store_edges_pin (tg : Nat → Nat) (w : World) (d e : Nat) (C : Nat → Value) (N : List Nd) (S : List Ed) (i : Nat) (h : StC tg w d C N S) (hp : tg (d + 1) = 1000 + e) (hn : N.length ≤ 65536) (he : esum N ≤ 65536) (hi : i < N.length) (h0 : 0 < (edg N i).length) :
    EdAt w e (eoff N i * 2) (edg N i) ∧ tg e = 6 ∧ ∀ w1, Jk w w1 → Calls Yba.prog 19 #[.pointer (some ⟨d, 0, none⟩), .int .u32 (i : Int)] w1 fun ee w' => ee = .returned (.slice (some ⟨e, eoff N i * 2, none⟩) (edg N i).length (edg N i).length) ∧ ∃ N, w' = w1.drewN N := by
  obtain ⟨nO, nC, c0, g, hh, v⟩ := h.nodes
  have hb := eoff_bound N hi
  obtain ⟨eO', c1', n', p1, p2, p3⟩ := h.pin.2 e hp
  rcases h.edges with ⟨h1, _⟩ | ⟨eO, eC, c1, g2, h2, u⟩
  · omega
  · rw [u.c] at p1
    cases p1
    rw [(u.ro 0 u.one).1, u.g0] at p3
    cases p3
    refine ⟨fun j hj => ?_, u.tc, fun w1 hJ => ?_⟩
    · obtain ⟨a, b⟩ := u.val i hi j hj
      rw [show eoff N i * 2 + j * 2 = (eoff N i + j) * 2 by omega, (u.rc ((eoff N i + j) * 2) (by omega)).1, a, (u.rc ((eoff N i + j) * 2 + 1) (by omega)).1, b]
      exact ⟨rfl, rfl⟩
    · have hA := (v.at h.row hn hi).jk hJ
      exact store_edges w1 d i _ (edges_some w1 d 0 nO nC N.length c0 i eO' e (esum N) c1' (eoff N i) (edg N i).length hA.h0 hA.h2 hi hn hA.x1 hA.x2 (hJ.cell (by rw [(h.row 2 (by omega)).1, u.c])) (hJ.cell (by rw [(u.ro 0 u.one).1, u.g0])) hb he h0)
/-- The chunk's address written down. -/
theorem StC.pinned {tg : Nat → Nat} {w : World} {d : Nat} {C : Nat → Value} {N : List Nd} {S : List Ed} (h : StC tg w d C N S) (h0 : tg (d + 1) = 0) (hE : esum N ≠ 0) : ∃ e, StC (tagAt tg (d + 1) (1000 + e)) w d C N S := by
  rcases h.edges with ⟨h1, _⟩ | ⟨eO, eC, c1, g2, h2, u⟩
  · omega
  have o : ∀ b, tg b ≠ 0 → tagAt tg (d + 1) (1000 + eC) b = tg b := fun b hb => tagAt_other _ (by rintro rfl; exact hb h0)
  refine ⟨eC, h.row, (o _ (by rw [h.t]; omega)).trans h.t, ?_, .inr ⟨eO, eC, c1, g2, h2, u.c, u.one, u.ro, u.g0, u.rc, (o _ (by rw [u.tO]; omega)).trans u.tO, (o _ (by rw [u.tc]; omega)).trans u.tc, u.val⟩, ?_, ?_, ?_, h.stop, h.work, h.cat, h.pin.1, fun e he => ?_⟩
  · obtain ⟨nO, nC, c0, g, hh, v⟩ := h.nodes
    exact ⟨nO, nC, c0, g, hh, v.c, v.c1, v.one, v.ro, v.g0, v.rc, (o _ (by rw [v.tO]; omega)).trans v.tO, (o _ (by rw [v.tc]; omega)).trans v.tc, v.val⟩
  · intro j hj
    obtain ⟨sb, L, c, s, v⟩ := h.parts j hj
    exact ⟨sb, L, c, s, v.c0, v.c1, v.row, (o _ (by rw [v.t]; omega)).trans v.t, v.tab, v.full, v.small, v.cle, v.sound, v.complete⟩
  · obtain ⟨cb, f, c⟩ := h.cache
    exact ⟨cb, f, c.c, c.row, (o _ (by rw [c.t]; omega)).trans c.t, c.val⟩
  · obtain ⟨cap, f, s1, s2⟩ := h.stack
    refine ⟨cap, f, ⟨?_, s1.le, s1.max⟩, s2⟩
    obtain ⟨ao, b, hv, hb, hrow⟩ := s1.is
    exact ⟨ao, b, hv, fun h => by
      obtain ⟨q1, q2, q3⟩ := hb h
      exact ⟨q1, q2, (o _ (by rw [q3]; omega)).trans q3⟩, hrow⟩
  · rw [tagAt_same] at he
    have : eC = e := by omega
    subst this
    exact ⟨eO, c1, esum N, u.c, (o _ (by rw [u.tO]; omega)).trans u.tO, by rw [(u.ro 0 u.one).1, u.g0]⟩
/-- An entry of the cache written. -/
theorem StC.entry {tg : Nat → Nat} {w : World} {d : Nat} {C : Nat → Value} {N : List Nd} {S : List Ed} (h : StC tg w d C N S) {cb : Nat} {f : Nat → Value} (hc : CacheV tg w C N cb f) {kk op a b r : Nat} (hkk : kk < 65536) (T : Tru N op a b r) (hop : op < 8) (hN : N.length ≤ 65536) :
    StC tg ((((w.setCell ⟨cb, kk * 4, none⟩ (.int .u32 (op : Int))).setCell ⟨cb, kk * 4 + 1, none⟩ (.int .u32 (a : Int))).setCell ⟨cb, kk * 4 + 2, none⟩ (.int .u32 (b : Int))).setCell ⟨cb, kk * 4 + 3, none⟩ (.int .u32 (r : Int))) d C N S ∧ Fr (fun r => r = 2) tg w tg ((((w.setCell ⟨cb, kk * 4, none⟩ (.int .u32 (op : Int))).setCell ⟨cb, kk * 4 + 1, none⟩ (.int .u32 (a : Int))).setCell ⟨cb, kk * 4 + 2, none⟩ (.int .u32 (b : Int))).setCell ⟨cb, kk * 4 + 3, none⟩ (.int .u32 (r : Int))) := by
  have F : Fr (fun r => r = 2) tg w tg ((((w.setCell ⟨cb, kk * 4, none⟩ (.int .u32 (op : Int))).setCell ⟨cb, kk * 4 + 1, none⟩ (.int .u32 (a : Int))).setCell ⟨cb, kk * 4 + 2, none⟩ (.int .u32 (b : Int))).setCell ⟨cb, kk * 4 + 3, none⟩ (.int .u32 (r : Int))) :=
    ((((Fr.refl (fun r => r = 2) tg w).set (a := ⟨cb, kk * 4, none⟩) (.inr hc.t) _).set (a := ⟨cb, kk * 4 + 1, none⟩) (.inr hc.t) _).set (a := ⟨cb, kk * 4 + 2, none⟩) (.inr hc.t) _).set (a := ⟨cb, kk * 4 + 3, none⟩) (.inr hc.t) _
  have l := h.row.lt (by omega)
  have h1 := T.a_lt
  have h2 := T.b_lt
  have h3 := T.r_lt
  refine ⟨⟨h.row.fr F l (by rw [h.t]; omega), h.t, h.nodes.fr F (by omega) (by omega) rfl rfl, h.edges.fr F (by omega) (by omega) rfl, h.parts.fr F (by omega) (fun _ _ _ => rfl), ⟨cb, _, hc.c, (((hc.row.set (kk * 4) _).set (kk * 4 + 1) _).set (kk * 4 + 2) _).set (kk * 4 + 3) _, hc.t, ?_⟩, h.stack.fr F (by omega) rfl, h.stop, h.work, h.cat, h.pin.fr F (by omega) rfl⟩, F⟩
  intro k hk
  by_cases e : k = kk
  · subst e
    refine ⟨op, a, b, r, ?_, ?_, ?_, ?_, by omega, by omega, by omega, by omega, .inr T⟩
    · rw [up1_other _ _ (by omega), up1_other _ _ (by omega), up1_other _ _ (by omega), up1_same]
    · rw [up1_other _ _ (by omega), up1_other _ _ (by omega), up1_same]
    · rw [up1_other _ _ (by omega), up1_same]
    · rw [up1_same]
  · obtain ⟨op', a', b', r', q⟩ := hc.val k hk
    refine ⟨op', a', b', r', ?_⟩
    rw [up1_other _ _ (by omega), up1_other _ _ (by omega), up1_other _ _ (by omega), up1_other _ _ (by omega)]
    rw [up1_other _ _ (by omega), up1_other _ _ (by omega), up1_other _ _ (by omega), up1_other _ _ (by omega)]
    rw [up1_other _ _ (by omega), up1_other _ _ (by omega), up1_other _ _ (by omega), up1_other _ _ (by omega)]
    rw [up1_other _ _ (by omega), up1_other _ _ (by omega), up1_other _ _ (by omega), up1_other _ _ (by omega)]
    exact q
end Go.Proofs.Ybulkakra

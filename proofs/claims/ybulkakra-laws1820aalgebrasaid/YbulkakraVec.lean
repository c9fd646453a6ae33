/-
  Vector of seat b1820a.
-/
import Derived.Test.YbulkakraBack
import Derived.Test.YbulkakraUnion
namespace Go.Proofs.Ybulkakra
open Go.RowKit Go.Shelf
attribute [local go_sem] Oper.semAt_some
set_option linter.unusedSimpArgs false
set_option linter.unusedVariables false

/-- Blocks of cells are as they were. -/
structure Sm (tg : Nat → Nat) (w : World) (tg' : Nat → Nat) (w' : World) : Prop where
  size : w.heap.size ≤ w'.heap.size
  same : ∀ b v, w.cell? ⟨b, 0, none⟩ = some v → w'.heap[b]? = w.heap[b]? ∧ tg' b = tg b
theorem Sm.row {tg tg' : Nat → Nat} {w w' : World} (k : Sm tg w tg' w') {b n : Nat} {f : Nat → Value} (h : Row w b n f) (hn : 0 < n) : Row w' b n f ∧ tg' b = tg b := by
  obtain ⟨h1, h2⟩ := k.same b _ (h 0 hn).1
  exact ⟨h.of_block h1, h2⟩
theorem StC.sm {tg tg' : Nat → Nat} {w w' : World} {d : Nat} {C : Nat → Value} {N : List Nd} {S : List Ed} (h : StC tg w d C N S) (k : Sm tg w tg' w') (hp : ∀ e, tg' (d + 1) = 1000 + e → tg (d + 1) = 1000 + e) : StC tg' w' d C N S := by
  obtain ⟨r1, r2⟩ := k.row h.row (by omega)
  refine ⟨r1, r2.trans h.t, ?_, ?_, ?_, ?_, ?_, h.stop, h.work, h.cat, Nat.lt_of_lt_of_le h.pin.1 k.size, fun e he => ?_⟩
  · obtain ⟨nO, nC, c0, g, hh, v⟩ := h.nodes
    obtain ⟨a1, a2⟩ := k.row v.ro v.one
    obtain ⟨b1, b2⟩ := k.row v.rc (by omega)
    exact ⟨nO, nC, c0, g, hh, v.c, v.c1, v.one, a1, v.g0, b1, a2.trans v.tO, b2.trans v.tc, v.val⟩
  · rcases h.edges with e | ⟨eO, eC, c1, g, hh, v⟩
    · exact .inl e
    · obtain ⟨a1, a2⟩ := k.row v.ro v.one
      obtain ⟨b1, b2⟩ := k.row v.rc (by omega)
      exact .inr ⟨eO, eC, c1, g, hh, v.c, v.one, a1, v.g0, b1, a2.trans v.tO, b2.trans v.tc, v.val⟩
  · intro j hj
    obtain ⟨sb, L, c, s, v⟩ := h.parts j hj
    have h4 := v.tab.four
    obtain ⟨a1, a2⟩ := k.row v.row (by omega)
    exact ⟨sb, L, c, s, v.c0, v.c1, a1, a2.trans v.t, v.tab, v.full, v.small, v.cle, v.sound, v.complete⟩
  · obtain ⟨cb, f, v⟩ := h.cache
    obtain ⟨a1, a2⟩ := k.row v.row (by omega)
    exact ⟨cb, f, v.c, a1, a2.trans v.t, v.val⟩
  · obtain ⟨cap, f, s, e⟩ := h.stack
    refine ⟨cap, f, ⟨?_, s.le, s.max⟩, e⟩
    obtain ⟨ao, b, hv, hb, hrow⟩ := s.is
    rcases Nat.eq_zero_or_pos cap with h0 | h0
    · subst h0
      exact ⟨ao, b, hv, fun h => by omega, fun i hi => by omega⟩
    · obtain ⟨a1, a2⟩ := k.row hrow (by omega)
      obtain ⟨q1, q2, q3⟩ := hb h0
      exact ⟨ao, b, hv, fun _ => ⟨q1, Nat.lt_of_lt_of_le q2 k.size, a2.trans q3⟩, a1⟩
  · obtain ⟨eO, c1, n, q1, q2, q3⟩ := h.pin.2 e (hp e he)
    obtain ⟨s1, s2⟩ := k.same eO _ q3
    exact ⟨eO, c1, n, q1, s2.trans q2, (World.cell?_of_block s1).trans q3⟩
/-- The values from level 3 - k on. -/
def vs (V : Nat → Nat) : Nat → List Nat
  | 0 => []
  | k + 1 => V (2 - k) :: vs V k
structure Good (V : Nat → Nat) (k : Nat) (N : List Nd) (s : Nat) : Prop where
  wf : Wf N
  lv : 3 - k ≤ lev N s
  thin : ∀ f, thin N f s
  sem : ∀ v, v.length = k → (has N v (3 - k) s ↔ v = vs V k)
theorem Good.start {N : List Nd} (hw : Wf N) (V : Nat → Nat) : Good V 0 N 1 := by
  refine ⟨hw, ?_, fun f => ?_, fun v hv => ?_⟩
  · unfold lev; rw [hw.t1]; show 3 ≤ TT; unfold TT; omega
  · cases f with
    | zero => trivial
    | succ f => exact .inl (by omega)
  · have : v = [] := List.eq_nil_of_length_eq_zero hv
    subst this
    simp [has, vs]
theorem Good.step {V : Nat → Nat} (hV : ∀ j, V j < 4) {k : Nat} {N N' : List Nd} {s r : Nat} (g : Good V k N s) (hk : k < 3) (h0 : 0 < s) (hs : s < N.length) (m : Made N (2 - k) [(V (2 - k), s)] N' r) : Good V (k + 1) N' r := by
  have hlv := g.lv
  have hH : Hang N (2 - k) [(V (2 - k), s)] := by
    intro e he
    simp at he
    subst he
    exact ⟨hV _, h0, hs, by show 2 - k < lev N s; omega⟩
  have M := m.ok g.wf (by omega) (by simp [Inc]) hH
  refine ⟨M.wf, by have := M.lv; omega, ?_, ?_⟩
  · rcases m with ⟨h, _⟩ | ⟨t, h1, rfl, rfl⟩ | ⟨_, _, gt⟩
    · simp at h
    · simp at h1
      rw [← h1.2]
      exact g.thin
    · intro f
      cases f with
      | zero => trivial
      | succ f =>
        rcases gt with ⟨rfl, a1, a2, a3⟩ | ⟨rfl, rfl, a3⟩
        · exact .inr ⟨_, _, by unfold edg; rw [a3], g.thin f⟩
        · refine .inr ⟨_, _, by unfold edg; rw [nd_snoc], (g.thin f).ext g.wf (List.prefix_append _ _) hs⟩
  · intro v hv
    cases v with
    | nil => simp at hv
    | cons x v =>
      have hl : v.length = k := by simpa using hv
      rw [show 3 - (k + 1) = 2 - k by omega, M.sem x v (by omega)]
      unfold hasE
      rw [show 2 - k + 1 = 3 - k by omega]
      simp only [List.mem_singleton, Prod.mk.injEq, vs, List.cons.injEq]
      constructor
      · rintro ⟨t, ⟨rfl, rfl⟩, h⟩
        exact ⟨rfl, (g.sem v hl).1 h⟩
      · rintro ⟨rfl, h⟩
        exact ⟨s, ⟨rfl, rfl⟩, (g.sem v hl).2 h⟩
theorem made_weak {N N' : List Nd} {l v s r : Nat} (m : Made N l [(v, s)] N' r) (hw : Wk N) (h0 : 0 < s) (hs : s < N.length) : Wk N' ∧ N <+: N' ∧ 0 < r ∧ r < N'.length ∧ N'.length ≤ N.length + 1 ∧ esum N' ≤ esum N + 1 := by
  rcases m with ⟨h, _⟩ | ⟨t, h1, rfl, rfl⟩ | ⟨_, _, gt⟩
  · simp at h
  · simp at h1
    rw [← h1.2]
    exact ⟨hw, List.prefix_refl _, h0, hs, by omega, by omega⟩
  · obtain ⟨a, b, c, e, f, g⟩ := gt.wk hw (by simp) (by simp) (fun e he => by simp at he; subst he; exact hs)
    exact ⟨a, b, by omega, c, f, by simpa using g⟩
/-- As Fr, but of the blocks below n0 alone. -/
structure FrN (n0 : Nat) (tg : Nat → Nat) (w : World) (tg' : Nat → Nat) (w' : World) : Prop where
  os : w'.os = w.os
  output : w'.output = w.output
  size : w.heap.size ≤ w'.heap.size
  tag : ∀ b, b < w.heap.size → tg' b = tg b
  block : ∀ b, b < n0 → b < w.heap.size → ¬ 1 ≤ tg b → w'.heap[b]? = w.heap[b]?
/-- Between two rounds. -/
structure VI (V : Nat → Nat) (hV : ∀ j, V j < 4) (n0 : Nat) (tg0 : Nat → Nat) (w0 : World) (d bd bs : Nat) (N : List Nd) (S : List Ed) (pre : List Rnd) (W : World) (tg : Nat → Nat) (N' : List Nd) (s : Nat) : Prop where
  st : St tg W d N' S
  wk : Wk N'
  cs : W.cell? ⟨bs, 0, none⟩ = some (.int .u32 (s : Int))
  fs : W.frozen? ⟨bs, 0, none⟩ = false
  cd : W.cell? ⟨bd, 0, none⟩ = some (.pointer (some ⟨d, 0, none⟩))
  pos : 0 < s
  lt : s < N'.length
  ext : N <+: N'
  len : N'.length ≤ N.length + pre.length
  es : esum N' ≤ esum N + pre.length
  three : pre.length ≤ 3
  fr : FrN n0 tg0 w0 tg W
  good : ∀ k, pre = sq V hV k → Good V k N' s
def VInv (V : Nat → Nat) (hV : ∀ j, V j < 4) (n0 : Nat) (tg0 : Nat → Nat) (w0 : World) (d bd bs : Nat) (N : List Nd) (S : List Ed) (pre : List Rnd) (W : World) : Prop := ∃ tg N' s, VI V hV n0 tg0 w0 d bd bs N S pre W tg N' s
theorem cells_of_cell0 {W : World} {b : Nat} {v : Value} (h : W.cell? ⟨b, 0, none⟩ = some v) : ∃ o : Obj, W.heap[b]? = some o ∧ o.isCells = true := cells_of_cell h
theorem VI.own {V : Nat → Nat} {hV : ∀ j, V j < 4} {n0 : Nat} {tg0 : Nat → Nat} {w0 : World} {d bd bs : Nat} {N : List Nd} {S : List Ed} {pre : List Rnd} {A B : World} {row : Option Nat} {tg : Nat → Nat} {N' : List Nd} {s : Nat} (h : VI V hV n0 tg0 w0 d bd bs N S pre A tg N' s) (hg : A.grownBy B row) (hr : ∀ r, row = some r → w0.heap.size ≤ r ∧ ∃ o : Obj, A.heap[r]? = some o ∧ o.isCells = false) : VI V hV n0 tg0 w0 d bd bs N S pre B tg N' s := by
  have hb : ∀ b v, A.cell? ⟨b, 0, none⟩ = some v → B.heap[b]? = A.heap[b]? := fun b v hv => by
    refine hg.block b (World.block_lt_of_cell? _ _ hv) (fun e => ?_)
    obtain ⟨_, o, ho, hc⟩ := hr b e.symm
    obtain ⟨o', ho', hc'⟩ := cells_of_cell0 hv
    rw [ho] at ho'
    cases ho'
    rw [hc] at hc'
    cases hc'
  obtain ⟨C, hC⟩ := h.st
  refine ⟨⟨C, hC.sm ⟨hg.size, fun b v hv => ⟨hb b v hv, rfl⟩⟩ (fun _ h => h)⟩, h.wk, ?_, ?_, ?_, h.pos, h.lt, h.ext, h.len, h.es, h.three, ?_, h.good⟩
  · rw [World.cell?_of_block (hb bs _ h.cs)]; exact h.cs
  · rw [World.frozen?_of_block (hb bs _ h.cs)]; exact h.fs
  · rw [World.cell?_of_block (hb bd _ h.cd)]; exact h.cd
  · refine ⟨hg.os.trans h.fr.os, hg.output.trans h.fr.output, Nat.le_trans h.fr.size hg.size, h.fr.tag, fun b hb0 hb' hn => ?_⟩
    rw [hg.block b (Nat.lt_of_lt_of_le hb' h.fr.size) (fun e => by have := (hr b e.symm).1; omega)]
    exact h.fr.block b hb0 hb' hn
theorem back34 (w : World) (ao : Option Addr) (n c : Nat) : Calls Yba.prog 34 #[.slice ao n c] w fun e w' => e = .returned (.func (.func 48) #[] #[.pointer (some ⟨w.heap.size, 0, none⟩)]) ∧ w' = w.alloc (.cells #[.slice ao n c] 34) := by
  go_enter Yba.func34, Yba.ntmps34
  go_wp2
  go_ret
  exact ⟨rfl, rfl⟩
end Go.Proofs.Ybulkakra

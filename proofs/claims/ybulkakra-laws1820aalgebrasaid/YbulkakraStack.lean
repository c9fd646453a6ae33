/-
  THE STACK of seat b1820a.
-/
import Derived.Test.YbulkakraCache
namespace Go.Proofs.Ybulkakra
open Go.RowKit
set_option linter.unusedSimpArgs false
set_option linter.unusedVariables false

structure Stk (tg : Nat → Nat) (w : World) (C : Nat → Value) (S : List Ed) (sb cap : Nat) (f : Nat → Value) : Prop where
  c : C 1031 = .slice (some ⟨sb, 0, none⟩) S.length cap
  row : Row w sb (cap * 2) (laid f 0 S)
  t : tg sb = 3
  le : S.length ≤ cap
  max : cap ≤ maxLen
  pos : 0 < cap
theorem StackOk.stk {tg : Nat → Nat} {w : World} {C : Nat → Value} {S : List Ed} (h : StackOk tg w C S) (h0 : 0 < S.length) : ∃ sb cap f, Stk tg w C S sb cap f := by
  obtain ⟨cap, f, h1, h2⟩ := h
  obtain ⟨b, e1, e2, e3, e4⟩ := h1.pos h0
  have := h1.le
  exact ⟨b, cap, f, e1, e4.congr fun i _ => laid_self f 0 S (fun i hi => by rw [Nat.zero_add]; exact h2 i hi) i, e3, h1.le, h1.max, by omega⟩
theorem Stk.ok {tg : Nat → Nat} {w : World} {C : Nat → Value} {S : List Ed} {sb cap : Nat} {f : Nat → Value} (h : Stk tg w C S sb cap f) : StackOk tg w C S := by
  have hl := h.row.lt (by have := h.pos; omega)
  refine ⟨cap, laid f 0 S, ⟨⟨_, sb, h.c, fun _ => ⟨rfl, hl, h.t⟩, h.row⟩, h.le, h.max⟩, fun i hi => ?_⟩
  have := laid_in f 0 S hi
  rwa [Nat.zero_add] at this
theorem vE_take {S : List Ed} {m j : Nat} (h : j < m) : vE (S.take m) j = vE S j ∧ tE (S.take m) j = tE S j := by
  unfold vE tE
  simp [List.getElem?_take, h]
theorem Stk.take {tg : Nat → Nat} {w : World} {C C' : Nat → Value} {S : List Ed} {sb cap : Nat} {f : Nat → Value} (h : Stk tg w C S sb cap f) (m : Nat) (hm : m ≤ S.length) (hC : C' 1031 = .slice (some ⟨sb, 0, none⟩) m cap) : StackOk tg w C' (S.take m) := by
  have hl := h.row.lt (by have := h.pos; omega)
  have e : (S.take m).length = m := by simp; omega
  have := h.le
  refine ⟨cap, laid f 0 S, ⟨⟨_, sb, by rw [hC, e], fun _ => ⟨rfl, hl, h.t⟩, h.row⟩, by rw [e]; omega, h.max⟩, fun i hi => ?_⟩
  rw [e] at hi
  have := laid_in f 0 S (i := i) (by omega)
  rw [Nat.zero_add] at this
  rw [this]
  unfold edF
  rw [(vE_take (S := S) (show i / 2 < m by omega)).1, (vE_take (S := S) (show i / 2 < m by omega)).2]
theorem Stk.fr {R : Nat → Prop} {tg tg' : Nat → Nat} {w w' : World} {C C' : Nat → Value} {S : List Ed} {sb cap : Nat} {f : Nat → Value} (h : Stk tg w C S sb cap f) (k : Fr R tg w tg' w') (r3 : ¬ R 3) (e : C' 1031 = C 1031) : Stk tg' w' C' S sb cap f := by
  have hl := h.row.lt (by have := h.pos; omega)
  exact ⟨e.trans h.c, h.row.fr k hl (by rw [h.t]; exact r3), (k.tag _ hl).trans h.t, h.le, h.max, h.pos⟩
/-- The stack's cells written anew. -/
theorem StC.restack {tg : Nat → Nat} {w w' : World} {d : Nat} {C : Nat → Value} {N : List Nd} {S S' : List Ed} {sb cap : Nat} {f f' : Nat → Value} (h : StC tg w d C N S) (k : Stk tg w C S sb cap f) (hC : Chg (fun x => x = sb) w w') (hr : Row w' sb (cap * 2) (laid f' 0 S')) (hl : S'.length = S.length) : StC tg w' d C N S' := by
  have F : Fr (fun r => r = 3) tg w tg w' := hC.fr fun x _ e => by rw [e]; exact k.t
  have l := h.row.lt (by omega)
  refine ⟨h.row.fr F l (by rw [h.t]; omega), h.t, h.nodes.fr F (by omega) (by omega) rfl rfl, h.edges.fr F (by omega) (by omega) rfl, h.parts.fr F (by omega) (fun _ _ _ => rfl), ?_, ?_, h.stop, h.work, h.cat, h.pin.fr F (by omega) rfl⟩
  · obtain ⟨cb, g, c⟩ := h.cache
    exact ⟨cb, g, c.fr F (by omega) rfl⟩
  · exact Stk.ok ⟨by rw [k.c, hl], hr, k.t, by rw [hl]; exact k.le, k.max, k.pos⟩
/-- The stack cut down. -/
theorem StC.shrink {tg : Nat → Nat} {w : World} {d : Nat} {C : Nat → Value} {N : List Nd} {S : List Ed} {sb cap : Nat} {f : Nat → Value} (h : StC tg w d C N S) (k : Stk tg w C S sb cap f) (m : Nat) (hm : m ≤ S.length) : StC tg (w.setCell ⟨d, 1031, none⟩ (.slice (some ⟨sb, 0, none⟩) m cap)) d (up1 C 1031 (.slice (some ⟨sb, 0, none⟩) m cap)) N (S.take m) := by
  have F : Fr (fun r => r = 1) tg w tg (w.setCell ⟨d, 1031, none⟩ (.slice (some ⟨sb, 0, none⟩) m cap)) := (Fr.refl _ tg w).set (a := ⟨d, 1031, none⟩) (.inr h.t) _
  have e : ∀ i, i ≠ 1031 → up1 C 1031 (.slice (some ⟨sb, 0, none⟩) m cap) i = C i := fun i h => up1_other _ _ h
  refine ⟨h.row.set 1031 _, h.t, h.nodes.fr F (by omega) (by omega) (e _ (by omega)) (e _ (by omega)), h.edges.fr F (by omega) (by omega) (e _ (by omega)), h.parts.fr F (by omega) (fun i h1 h2 => e _ (by omega)), ?_, ?_, (e _ (by omega)).trans h.stop, by rw [e _ (by omega)]; exact h.work, (e _ (by omega)).trans h.cat, h.pin.fr F (by omega) (e _ (by omega))⟩
  · obtain ⟨cb, g, c⟩ := h.cache
    exact ⟨cb, g, c.fr F (by omega) (e _ (by omega))⟩
  · exact (k.fr F (by omega) rfl).take m hm (up1_same ..)
/-- One edge of the stack written anew. -/
theorem set_get (S : List Ed) (i : Nat) (e : Ed) (j : Nat) (hi : i < S.length) : vE (S.set i e) j = (if j = i then e.1 else vE S j) ∧ tE (S.set i e) j = (if j = i then e.2 else tE S j) := by
  unfold vE tE
  by_cases h : j = i
  · subst h
    simp [List.getElem?_set_self hi]
  · simp [h, List.getElem?_set_ne (Ne.symm h)]
theorem laid_set {f : Nat → Value} {S : List Ed} {i : Nat} (hi : i < S.length) (v t : Nat) (k : Nat) : up1 (up1 (laid f 0 S) (i * 2) (.int .u32 (v : Int))) (i * 2 + 1) (.int .u32 (t : Int)) k = laid f 0 (S.set i (v, t)) k := by
  unfold laid
  rw [List.length_set]
  by_cases hk : 0 ≤ k ∧ k < 0 + S.length * 2
  · rw [if_pos hk, Nat.sub_zero]
    unfold edF
    rw [(set_get S i (v, t) (k / 2) hi).1, (set_get S i (v, t) (k / 2) hi).2]
    unfold up1
    by_cases a1 : k = i * 2 + 1
    · rw [if_pos a1, if_neg (by omega), if_pos (by omega)]
    · rw [if_neg a1]
      by_cases a2 : k = i * 2
      · rw [if_pos a2, if_pos (by omega), if_pos (by omega)]
      · rw [if_neg a2]
        dsimp only
        rw [if_pos hk, Nat.sub_zero]
        have b1 : k / 2 ≠ i := by omega
        rw [if_neg b1, if_neg b1]
  · rw [if_neg hk, up1_other _ _ (by omega), up1_other _ _ (by omega), if_neg hk]
theorem laid_set1 {f : Nat → Value} {S : List Ed} {i : Nat} (hi : i < S.length) (t : Nat) (k : Nat) : up1 (laid f 0 S) (i * 2 + 1) (.int .u32 (t : Int)) k = laid f 0 (S.set i (vE S i, t)) k := by
  rw [← laid_set hi (vE S i) t k]
  unfold up1
  split
  · rfl
  · split
    · next h =>
      subst h
      have := laid_in f 0 S (i := i * 2) (by omega)
      rw [Nat.zero_add, edF_0] at this
      exact this
    · rfl
/-- A tail of the stack laid anew. -/
theorem laid_app {f : Nat → Value} {S0 E E' : List Ed} (hl : E'.length = E.length) (k : Nat) : laid (laid f 0 (S0 ++ E)) (S0.length * 2) E' k = laid f 0 (S0 ++ E') k := by
  have gv : ∀ (X : List Ed) (j : Nat), (j < S0.length → vE (S0 ++ X) j = vE S0 j ∧ tE (S0 ++ X) j = tE S0 j) ∧ (S0.length ≤ j → vE (S0 ++ X) j = vE X (j - S0.length) ∧ tE (S0 ++ X) j = tE X (j - S0.length)) := by
    intro X j
    unfold vE tE
    constructor
    · intro h
      simp [List.getElem?_append_left h]
    · intro h
      simp [List.getElem?_append_right h]
  unfold laid
  rw [List.length_append, List.length_append, hl]
  by_cases h1 : S0.length * 2 ≤ k ∧ k < S0.length * 2 + E.length * 2
  · rw [if_pos h1, if_pos (by omega), Nat.sub_zero]
    unfold edF
    have := (gv E' (k / 2)).2 (by omega)
    rw [this.1, this.2, show (k - S0.length * 2) / 2 = k / 2 - S0.length by omega, show (k - S0.length * 2) % 2 = k % 2 by omega]
  · rw [if_neg h1]
    by_cases h2 : 0 ≤ k ∧ k < 0 + (S0.length + E.length) * 2
    · rw [if_pos h2, if_pos h2]
      unfold edF
      rw [Nat.sub_zero, ((gv E (k / 2)).1 (by omega)).1, ((gv E (k / 2)).1 (by omega)).2, ((gv E' (k / 2)).1 (by omega)).1, ((gv E' (k / 2)).1 (by omega)).2]
    · rw [if_neg h2, if_neg h2]
theorem laid_tail {f : Nat → Value} {S0 E : List Ed} (k : Nat) : laid f 0 (S0 ++ E) k = laid (laid f 0 (S0 ++ E)) (S0.length * 2) E k := (laid_app rfl k).symm
/-- The edges from place m on. -/
theorem Stk.edAt {tg : Nat → Nat} {w : World} {C : Nat → Value} {A K B : List Ed} {sb cap : Nat} {f : Nat → Value} (h : Stk tg w C (A ++ (K ++ B)) sb cap f) : EdAt w sb (A.length * 2) K := by
  refine edAt_iff fun j hj => ?_
  have hle := h.le
  simp at hle
  have h1 := (h.row (A.length * 2 + j) (by omega)).1
  rw [laid_tail, laid_in _ _ _ (by simp; omega)] at h1
  rw [h1]
  unfold edF
  have : vE (K ++ B) (j / 2) = vE K (j / 2) ∧ tE (K ++ B) (j / 2) = tE K (j / 2) := by
    unfold vE tE
    simp [List.getElem?_append_left (show j / 2 < K.length by omega)]
  rw [this.1, this.2]
theorem Stk.cell {tg : Nat → Nat} {w : World} {C : Nat → Value} {S : List Ed} {sb cap : Nat} {f : Nat → Value} (h : Stk tg w C S sb cap f) {i : Nat} (hi : i < S.length) : w.cell? ⟨sb, i * 2, none⟩ = some (.int .u32 (vE S i : Int)) ∧ w.cell? ⟨sb, i * 2 + 1, none⟩ = some (.int .u32 (tE S i : Int)) ∧ w.frozen? ⟨sb, i * 2, none⟩ = false ∧ w.frozen? ⟨sb, i * 2 + 1, none⟩ = false := by
  have hle := h.le
  obtain ⟨a1, a2⟩ := h.row (i * 2) (by omega)
  obtain ⟨b1, b2⟩ := h.row (i * 2 + 1) (by omega)
  have e1 := laid_in f 0 S (i := i * 2) (by omega)
  have e2 := laid_in f 0 S (i := i * 2 + 1) (by omega)
  rw [Nat.zero_add, edF_0] at e1
  rw [Nat.zero_add, edF_1] at e2
  exact ⟨by rw [a1, e1], by rw [b1, e2], a2, b2⟩
end Go.Proofs.Ybulkakra

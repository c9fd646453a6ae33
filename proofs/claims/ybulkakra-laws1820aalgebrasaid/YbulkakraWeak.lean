/-
  NODES WITHOUT AN ORDER OF LEVELS, of seat b1820a: what memory alone asks.
-/
import Derived.Test.YbulkakraMath
namespace Go.Proofs.Ybulkakra

structure Wk (N : List Nd) : Prop where
  two : 2 ≤ N.length
  t0 : nd N 0 = (TT, [])
  t1 : nd N 1 = (TT, [])
  ok : ∀ i, 2 ≤ i → i < N.length → edg N i ≠ [] ∧ (edg N i).length ≤ 4 ∧ ∀ e ∈ edg N i, e.2 < i
theorem Wf.wk {N : List Nd} (h : Wf N) : Wk N := ⟨h.two, h.t0, h.t1, fun i h1 h2 => ⟨(h.ok i h1 h2).ne, h.edg_len h2, fun e he => ((h.ok i h1 h2).ed e he).2.2.1⟩⟩
theorem Wk.to_lt {N : List Nd} (h : Wk N) {a : Nat} (ha : a < N.length) {e : Ed} (he : e ∈ edg N a) : e.2 < a := by
  rcases Nat.lt_or_ge a 2 with h0 | h0
  · have : a = 0 ∨ a = 1 := by omega
    rcases this with rfl | rfl
    · unfold edg at he; rw [h.t0] at he; simp at he
    · unfold edg at he; rw [h.t1] at he; simp at he
  · exact (h.ok a h0 ha).2.2 e he
theorem has_extW {N N' : List Nd} (hw : Wk N) (h : N <+: N') : ∀ (v : List Nat) (l a : Nat), a < N.length → (has N' v l a ↔ has N v l a)
  | [], _, _, _ => Iff.rfl
  | x :: v, l, a, ha => by
    simp only [has]
    rw [lev_ext h ha, edg_ext h ha, has_extW hw h v (l + 1) a ha]
    have : (∃ t, (x, t) ∈ edg N a ∧ has N' v (l + 1) t) ↔ (∃ t, (x, t) ∈ edg N a ∧ has N v (l + 1) t) := by
      constructor
      · rintro ⟨t, h1, h2⟩
        have := hw.to_lt ha h1
        exact ⟨t, h1, (has_extW hw h v (l + 1) t (by omega)).1 h2⟩
      · rintro ⟨t, h1, h2⟩
        have := hw.to_lt ha h1
        exact ⟨t, h1, (has_extW hw h v (l + 1) t (by omega)).2 h2⟩
    rw [this]
theorem Tru.extW {N N' : List Nd} {op a b r : Nat} (h : Tru N op a b r) (hw : Wk N) (e : N <+: N') : Tru N' op a b r := by
  have hl := e.length_le
  refine ⟨Nat.lt_of_lt_of_le h.a_lt hl, Nat.lt_of_lt_of_le h.b_lt hl, Nat.lt_of_lt_of_le h.r_lt hl, ?_, h.pos, ?_⟩
  · rw [lev_ext e h.a_lt, lev_ext e h.b_lt, lev_ext e h.r_lt]; exact h.lev
  · intro v l
    rw [lev_ext e h.a_lt, lev_ext e h.b_lt, has_extW hw e v l r h.r_lt, has_extW hw e v l a h.a_lt, has_extW hw e v l b h.b_lt]
    exact h.sem v l
theorem Got.wk {N N' : List Nd} {l r : Nat} {E : List Ed} (g : Got N l E N' r) (hw : Wk N) (h0 : E ≠ []) (h4 : E.length ≤ 4) (ht : ∀ e ∈ E, e.2 < N.length) : Wk N' ∧ N <+: N' ∧ r < N'.length ∧ 2 ≤ r ∧ N'.length ≤ N.length + 1 ∧ esum N' ≤ esum N + E.length := by
  rcases g with ⟨rfl, h1, h2, h3⟩ | ⟨rfl, rfl, h3⟩
  · exact ⟨hw, List.prefix_refl _, h2, h1, by omega, by omega⟩
  · have he : N <+: N ++ [(l, E)] := List.prefix_append _ _
    have h2 := hw.two
    refine ⟨⟨by simp; omega, by rw [nd_ext he (by omega)]; exact hw.t0, by rw [nd_ext he (by omega)]; exact hw.t1, ?_⟩, he, by simp, h2, by simp, by rw [esum_snoc]; simp⟩
    intro i hi hl
    rcases Nat.lt_or_ge i N.length with h5 | h5
    · rw [edg_ext he h5]
      exact hw.ok i hi h5
    · have : i = N.length := by simp at hl; omega
      subst this
      unfold edg
      rw [nd_snoc]
      exact ⟨h0, h4, ht⟩
end Go.Proofs.Ybulkakra

/-
  put in the store, nodes.get of seat b1820a.
-/
import Derived.Test.YbulkakraAdd
namespace Go.Proofs.Ybulkakra
open Go.RowKit
set_option linter.unusedSimpArgs false
set_option linter.unusedVariables false

theorem hN_snoc {N : List Nd} {n : Nd} {i : Nat} (h : i < N.length) : hN (N ++ [n]) i = hN N i := by unfold hN; rw [lev_snoc h, edg_snoc h]
theorem hN_last (N : List Nd) (n : Nd) : hN (N ++ [n]) N.length = hashN n.1 n.2 := by unfold hN; rw [lev_last, edg_last]
/-- A part that the new node does not go to. -/
theorem PartV.other {tg : Nat → Nat} {w : World} {C : Nat → Value} {N : List Nd} {j sb L c : Nat} {s : Nat → Slot} (v : PartV tg w C N j sb L c s) (n : Nd) (h : hashN n.1 n.2 % 256 ≠ j) : PartV tg w C (N ++ [n]) j sb L c s := by
  refine ⟨v.c0, v.c1, v.row, v.t, v.tab, v.full, v.small, by have := v.cle; simp; omega, fun k hk h0 => ?_, fun i hi hl hm => ?_⟩
  · obtain ⟨a1, a2, a3⟩ := v.sound k hk h0
    exact ⟨a1, by simp; omega, by rw [hN_snoc a2]; exact a3⟩
  · simp at hl
    rcases Nat.lt_or_ge i N.length with h1 | h1
    · rw [hN_snoc h1] at hm ⊢
      exact v.complete i hi h1 hm
    · have : i = N.length := by omega
      subst this
      rw [hN_last] at hm
      exact absurd hm h
/-- The books of a part that the new node was put in. -/
theorem put_books {N : List Nd} {n : Nd} {j L L' : Nat} {s s' : Nat → Slot} {h : Nat} (hh : h = hashN n.1 n.2) (h2 : 2 ≤ N.length)
    (sound : ∀ k, k < L → (s k).2 ≠ 0 → 2 ≤ (s k).2 ∧ (s k).2 < N.length ∧ (s k).1 = hN N (s k).2) (complete : ∀ i, 2 ≤ i → i < N.length → hN N i % 256 = j → Holds L s (hN N i) i)
    (hp : ∀ y k, k ≠ 0 → (Holds L' s' y k ↔ Holds L s y k ∨ (y = h ∧ k = N.length))) :
    (∀ k, k < L' → (s' k).2 ≠ 0 → 2 ≤ (s' k).2 ∧ (s' k).2 < (N ++ [n]).length ∧ (s' k).1 = hN (N ++ [n]) (s' k).2) ∧ (∀ i, 2 ≤ i → i < (N ++ [n]).length → hN (N ++ [n]) i % 256 = j → Holds L' s' (hN (N ++ [n]) i) i) := by
  refine ⟨fun k hk h0 => ?_, fun i hi hl hm => ?_⟩
  · rcases (hp (s' k).1 (s' k).2 h0).1 ⟨k, hk, rfl⟩ with ⟨q, hq, e⟩ | ⟨e1, e2⟩
    · have e1 : (s q).1 = (s' k).1 := by rw [e]
      have e2 : (s q).2 = (s' k).2 := by rw [e]
      obtain ⟨a1, a2, a3⟩ := sound q hq (by rw [e2]; exact h0)
      rw [e1, e2] at a3
      rw [e2] at a1 a2
      exact ⟨a1, by simp; omega, by rw [hN_snoc a2]; exact a3⟩
    · rw [e2, e1, hN_last, hh]
      exact ⟨h2, by simp, rfl⟩
  · simp at hl
    rcases Nat.lt_or_ge i N.length with h1 | h1
    · rw [hN_snoc h1] at hm ⊢
      exact (hp _ _ (by omega)).2 (.inl (complete i hi h1 hm))
    · have : i = N.length := by omega
      subst this
      rw [hN_last, ← hh]
      exact (hp _ _ (by omega)).2 (.inr ⟨rfl, rfl⟩)
def PutQ (tg : Nat → Nat) (w w' : World) (d : Nat) (C : Nat → Value) (N : List Nd) (j : Nat) (n : Nd) : Prop :=
  ∃ tg' C', Row w' d 1035 C' ∧ (∀ i, i ≠ 3 + j * 2 → i ≠ 3 + j * 2 + 1 → C' i = C i) ∧ (∃ sb L c s, PartV tg' w' C' (N ++ [n]) j sb L c s) ∧ Fr (fun r => r = 1 ∨ r = 10 + j) tg w tg' w'
theorem put_any (tg : Nat → Nat) (w : World) (d : Nat) (C : Nat → Value) (N : List Nd) (j sb L c T : Nat) (s : Nat → Slot) (n : Nd) (hd : Row w d 1035 C) (ht : tg d = 1) (hj : j < 256) (v : PartV tg w C N j sb L c s) (h2 : 2 ≤ N.length) (hn : N.length < 65536)
    (he : (s (prb L (hashN n.1 n.2) T)).2 = 0) (hf : ∀ t, t < T → (s (prb L (hashN n.1 n.2) t)).2 ≠ 0) :
    Calls Yba.prog 65 #[.pointer (some ⟨d, 3 + j * 2, none⟩), .int .i64 ((prb L (hashN n.1 n.2) T : Nat) : Int), .int .u32 (hashN n.1 n.2 : Int), .int .u32 (N.length : Int)] w fun e w' => e = .returned (.tuple #[]) ∧ PutQ tg w w' d C N j n := by
  have h4 := v.tab.four
  have hdl := hd.lt (by omega)
  have hsl := v.row.lt (by omega)
  have hne : d ≠ sb := by
    intro e
    have h1 := v.t
    rw [← e] at h1
    omega
  have hcl := v.cle
  have hsm := v.small
  have hhl := hashN_lt n.1 n.2
  have hpl : prb L (hashN n.1 n.2) T < L := prb_lt (by omega)
  have hfl := v.full
  generalize hh : hashN n.1 n.2 = h at *
  by_cases hg : 4 * (c + 1) ≤ 3 * L
  · refine (put_small w d (3 + j * 2) 1035 sb L c (prb L h T) h N.length C s hd (by omega) v.c0 v.c1 v.row hne hpl hg (by omega)).mono ?_
    rintro e w' ⟨rfl, r1, r2, r3⟩
    obtain ⟨b1, b2⟩ := put_books (N := N) (n := n) (s' := upS s (prb L h T) (h, N.length)) hh.symm h2 v.sound v.complete (fun y k hk => holds_put (id := N.length) (x := h) hpl he y k hk)
    refine ⟨rfl, tg, _, r1, fun i h1 h2 => up1_other _ _ h2, ⟨sb, L, c + 1, _, ?_, ?_, r2, v.t, v.tab.put he hf (by omega) hhl (by omega), hg, by omega, by simp; omega, b1, b2⟩, ?_⟩
    · rw [up1_other _ _ (by omega)]; exact v.c0
    · rw [up1_same]; rfl
    · refine r3.fr fun x hx hp => ?_
      rcases hp with rfl | rfl
      · exact .inl ht
      · exact .inr v.t
  · refine (put_grow w d (3 + j * 2) 1035 sb L c (prb L h T) h N.length C s hd (by omega) v.c0 v.c1 v.row hne hpl hfl (by omega) (by omega) v.tab hhl (by omega) (by omega) he).mono ?_
    rintro e w' ⟨rfl, s', nk, R, hnk⟩
    have hnkl := R.new.lt (by omega)
    obtain ⟨b1, b2⟩ := put_books (N := N) (n := n) (L' := 2 * L) (s' := s') hh.symm h2 v.sound v.complete (fun y k hk => by
      rw [R.holds y k hk, ← holds_put (id := N.length) (x := h) hpl he y k hk]
      exact Iff.rfl)
    refine ⟨rfl, tagAt tg nk (10 + j), _, R.row, fun i h1 h2 => by rw [up1_other _ _ h2, up1_other _ _ h1], ⟨nk, 2 * L, c + 1, s', ?_, ?_, R.new, tagAt_same .., R.tab, by omega, by omega, by simp; omega, b1, b2⟩, ?_⟩
    · rw [up1_other _ _ (by omega), up1_same]
    · rw [up1_same]
    · have h1 : Fr (fun r => r = 1 ∨ r = 10 + j) tg w tg w' := R.chg.fr fun x hx hp => by
        rcases hp with rfl | rfl
        · exact .inl ht
        · exact .inr v.t
      exact h1.retag nk _ hnk
end Go.Proofs.Ybulkakra

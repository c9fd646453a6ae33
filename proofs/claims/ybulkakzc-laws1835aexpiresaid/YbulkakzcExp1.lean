/-
  EXPIRE (seat b1835a): what it carries; its first loop.
-/
import Derived.Test.YbulkakzcTime
import Derived.Test.YbulkakzcDsl
import Derived.Test.YbulkakzcCore
namespace Go.Proofs.Ybulkakzc
open Go.RowKit
set_option linter.unusedSimpArgs false

/-- k is how many lead. -/
structure Lead (p : Nat → Bool) (n k : Nat) : Prop where
  le : k ≤ n
  all : ∀ j, j < k → p j = true
  stop : k < n → p k = false
theorem Lead.unique {p : Nat → Bool} {n k k' : Nat} (h : Lead p n k) (h' : Lead p n k') : k = k' := by
  rcases Nat.lt_trichotomy k k' with hl | hl | hl
  · have h1 := h'.all k hl
    have h2 := h.stop (Nat.lt_of_lt_of_le hl h'.le)
    rw [h1] at h2
    cases h2
  · exact hl
  · have h1 := h.all k' hl
    have h2 := h'.stop (Nat.lt_of_lt_of_le hl h.le)
    rw [h1] at h2
    cases h2

/-- Older than the timeout. -/
def old (tmo now e : Int) : Bool := decide (tmo < (now - e) * 1000000000)

theorem kdel_perm {x : K} : ∀ {l l' : List K}, l.Perm l' → (kdel x l).Perm (kdel x l')
  | _, _, .nil => .nil
  | _, _, .cons a h => by
    simp only [kdel]
    split
    · exact h
    · exact (kdel_perm h).cons a
  | _, _, .swap a b l => by
    simp only [kdel]
    by_cases h1 : x.same a = true <;> by_cases h2 : x.same b = true
    · have e1 := (K.same_iff _ _).1 h1
      have e2 := (K.same_iff _ _).1 h2
      subst e1
      subst e2
      simp [h1]
    · simp [h1, h2]
    · simp [h1, h2]
    · simp only [h1, h2, Bool.false_eq_true, if_false]
      exact .swap a b _
  | _, _, .trans h1 h2 => (kdel_perm h1).trans (kdel_perm h2)
theorem kdel_head {x : K} {l l' : List K} (h : l.Perm (x :: l')) : (kdel x l).Perm l' := by
  have := kdel_perm (x := x) h
  simp only [kdel, K.same_self, if_true] at this
  exact this
theorem kput_new {x : K} : ∀ {l : List K}, x ∉ l → kput x l = l ++ [x]
  | [], _ => rfl
  | y :: l, h => by
    simp only [kput]
    have hne : x.same y = false := by
      cases hs : x.same y
      · rfl
      · exact absurd ((K.same_iff _ _).1 hs) (fun e => h (e ▸ List.mem_cons_self))
    rw [hne]
    simp only [Bool.false_eq_true, if_false, List.cons_append]
    rw [kput_new (fun hx => h (List.mem_cons_of_mem _ hx))]

/-- A message that waits. -/
structure Ms where
  eb : Nat
  mb : Nat
  k : K
  fe : Int
  cost : Int
  frag : Int
  start : Bool
def sts (ms : List Ms) : List (Nat × Value) := ms.map fun x => (x.eb, .iface 66 (P2 x.mb 0))
theorem sts_length (ms : List Ms) : (sts ms).length = ms.length := by simp [sts]
def MsOk (w : World) (ms : List Ms) : Prop := ∀ x ∈ ms, Msg w x.mb x.k 0 x.fe (P2 x.eb 0) x.cost x.frag x.start

/-- What is left alone but for the blocks in B. -/
structure Fx (B : List Nat) (w w' : World) : Prop where
  os : w'.os = w.os
  output : w'.output = w.output
  size : w.heap.size ≤ w'.heap.size
  block : ∀ j, j < w.heap.size → j ∉ B → w'.heap[j]? = w.heap[j]?
theorem Fx.refl (B : List Nat) (w : World) : Fx B w w := ⟨rfl, rfl, Nat.le_refl _, fun _ _ _ => rfl⟩
theorem Fx.same {B : List Nat} {w w1 w2 : World} (h : Fx B w w1) (hS : Same w1 w2) : Fx B w w2 := ⟨hS.os.trans h.os, hS.output.trans h.output, Nat.le_trans h.size hS.size, fun j hj hb => (hS.block j (Nat.lt_of_lt_of_le hj h.size)).trans (h.block j hj hb)⟩
theorem Fx.far {B bs : List Nat} {rb pm am : Nat} {w w1 w2 : World} (h : Fx B w w1) (hf : Far rb pm am bs w1 w2) (h1 : rb ∈ B) (h2 : pm ∈ B) (h3 : am ∈ B) (h4 : ∀ b ∈ bs, b ∈ B ∨ w.heap.size ≤ b) : Fx B w w2 := by
  refine ⟨hf.os.trans h.os, hf.output.trans h.output, Nat.le_trans h.size hf.size, fun j hj hb => ?_⟩
  refine (hf.block j (Nat.lt_of_lt_of_le hj h.size) (fun e => hb (e ▸ h1)) (fun e => hb (e ▸ h2)) (fun e => hb (e ▸ h3)) (fun hjb => ?_)).trans (h.block j hj hb)
  rcases h4 j hjb with h5 | h5
  · exact hb h5
  · omega

theorem front_nx (w : World) (rb lo : Nat) (C : Nat → Value) (es : List (Nat × Value)) (hlo : lo + 5 ≤ 26) (hrow : w.rowIs rb 47 26 C) (hq : DQ w rb lo C es) : Calls Yba.prog 11 #[P2 rb lo] w fun e w' => e = .returned (nx es) ∧ w = w' := by
  have c4 := hrow.cell (i := lo + 4) (by omega)
  rw [hq.len] at c4
  cases es with
  | nil => exact front_none w rb lo c4
  | cons x es =>
    refine front_some w rb lo _ _ (Nat.succ_pos _) c4 ?_
    rw [hrow.cell (i := lo) (by omega)]
    rcases hq with ⟨h1, _⟩ | h1
    · cases h1
    · rw [h1.hd]
      rfl

/-- The first loop's state: k abandonments have been forgotten. -/
structure E1 (w wr : World) (B : List Nat) (rb pm am : Nat) (tmo mp now held pk : Int) (pl : List En) (ms : List Ms) (fl : List Fq) (k : Nat) (al : List En) : Prop where
  le : k ≤ fl.length
  rs : ∃ C, RS wr rb pm am C tmo mp 0 now held pk pl al (sts ms) (fgs (fl.drop k))
  perm : (keysOf al).Perm ((fl.drop k).map (·.k))
  fx : Fx B w wr
  msg : MsOk wr ms
  olds : ∀ j, j < k → old (rto tmo) now ((fl.map (·.ae)).getD j 0) = true
end Go.Proofs.Ybulkakzc

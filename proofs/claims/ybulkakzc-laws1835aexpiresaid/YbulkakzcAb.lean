/-
  THE LAW OF ABANDONING (seat b1835a): abandon, out of a round's first part, whether the message waits or not.
-/
import Derived.Test.YbulkakzcPend
namespace Go.Proofs.Ybulkakzc
open Go.RowKit
set_option linter.unusedSimpArgs false

/-- Behind abandon. -/
structure Aft (w0 w : World) (rb pm am mo qb : Nat) (m pk : Int) (al ml : List En) (fl : List Fq) (qv : Value) (l : List K) (sb kb mb : Nat) (x : Stp) : Prop where
  core : Core w0 w rb pm am mo qb m pk al ml fl qv l
  hs : w.heap[sb]? = some (.cells (stc x) 99 (0, 0))
  hk : w.heap[kb]? = some (.cells (kc x.key).toArray 60 (0, 0))
  hm : ∃ co, Msg w mb x.key 0 0 (.pointer none) co x.fr x.st
  n1 : qb ≠ sb
  n2 : qb ≠ kb
  n3 : qb ≠ mb

theorem Aft.same {w0 w w' : World} {rb pm am mo qb : Nat} {m pk : Int} {al ml : List En} {fl : List Fq} {qv : Value} {l : List K} {sb kb mb : Nat} {x : Stp} (h : Aft w0 w rb pm am mo qb m pk al ml fl qv l sb kb mb x) (hS : Same w w') : Aft w0 w' rb pm am mo qb m pk al ml fl qv l sb kb mb x := by
  obtain ⟨co, hm⟩ := h.hm
  exact ⟨h.core.same hS, (hS.block _ (lt_of_block h.hs)).trans h.hs, (hS.block _ (lt_of_block h.hk)).trans h.hk, ⟨co, (hS.block _ (lt_of_block hm)).trans hm⟩, h.n1, h.n2, h.n3⟩

theorem abandon_both (w0 wr w : World) (rb pm am mo qb : Nat) (m pk : Int) (al ml : List En) (fl : List Fq) (qv : Value) (l : List K) (sb kb mb : Nat) (x : Stp) (rs : ByteArray)
    (hC : Core w0 wr rb pm am mo qb m pk al ml fl qv l) (hP : Pd wr w rb pm am m pk al fl sb kb mb x) (hx : x.Ok) (hsb : wr.heap.size ≤ sb) (hkb : wr.heap.size ≤ kb) (hmb : wr.heap.size ≤ mb) (hms : mb ≠ sb) (hmk : mb ≠ kb) (hfl : fl.length < 100000) (hmp : m ≤ 100000) :
    Calls Yba.prog 15 #[P2 rb 0, P2 mb 0, .string rs] w fun e w' => ∃ al6 nb, e = .returned (.agg (dg x.key (ver x.st) rs x.fr)) ∧ keysOf al6 = kput x.key (keysOf (dropA m al fl)) ∧ get x.key al6 = some (P2 nb 0) ∧
      Aft w0 w' rb pm am mo qb m (if pk < ((dropF m fl).length + 1 : Int) then ((dropF m fl).length + 1 : Int) else pk) al6 ml (dropF m fl ++ [⟨nb, x.key, 0, 0⟩]) qv l sb kb mb x := by
  have hq := hC.q6
  have key : ∀ (bs : List Nat) (co : Int) (e : Ending) (w' : World), (∀ b ∈ bs, b ∈ blks (fgs fl) ∨ wr.heap.size ≤ b) → sb ∉ bs → kb ∉ bs → AbPost w rb pm am 0 m 0 0 0 pk [] al [] fl mb x.key 0 0 co x.fr x.st rs bs e w' →
      ∃ al6 nb, e = .returned (.agg (dg x.key (ver x.st) rs x.fr)) ∧ keysOf al6 = kput x.key (keysOf (dropA m al fl)) ∧ get x.key al6 = some (P2 nb 0) ∧
      Aft w0 w' rb pm am mo qb m (if pk < ((dropF m fl).length + 1 : Int) then ((dropF m fl).length + 1 : Int) else pk) al6 ml (dropF m fl ++ [⟨nb, x.key, 0, 0⟩]) qv l sb kb mb x := by
    rintro bs co e w' hbs hs hk ⟨al6, nb, h1, h2, h3, hF⟩
    refine ⟨al6, nb, h1, h2, h3, ?_⟩
    obtain ⟨C, hR⟩ := hF.rs
    have far := hF.far
    refine ⟨hC.step ⟨C, hR⟩ ?_ (far.os.trans hP.os) (far.output.trans hP.output) (Nat.le_trans hP.size far.size) ?_, ?_, ?_, ⟨co, hF.msg⟩, by omega, by omega, by omega⟩
    · intro b hb
      rcases hF.sub b hb with h | h
      · exact hbs b h
      · exact Or.inr (Nat.le_trans hP.size h)
    · intro j hj n1 n2 n3 n4
      refine (far.block j (Nat.lt_of_lt_of_le hj hP.size) n1 n2 n3 ?_).trans (hP.block j hj n1 n2)
      intro hb
      rcases hbs j hb with h | h
      · exact n4 h
      · omega
    · obtain ⟨r1, r2, r3, r4, r5⟩ : sb ≠ rb ∧ sb ≠ pm ∧ sb ≠ am ∧ True ∧ True := by
        rcases hP.alt with ⟨C, g1, g2⟩ | ⟨C, eb, v, pl, g1, g2, g3, g4⟩
        · obtain ⟨r1, r2, r3, r4, r5⟩ := g1.apart (by decide) (by decide) hP.hs
          exact ⟨r1, r2, r3, trivial, trivial⟩
        · obtain ⟨r1, r2, r3, r4, r5⟩ := g1.apart (by decide) (by decide) hP.hs
          exact ⟨r1, r2, r3, trivial, trivial⟩
      exact (far.block sb (lt_of_block hP.hs) r1 r2 r3 hs).trans hP.hs
    · obtain ⟨r1, r2, r3, r4, r5⟩ : kb ≠ rb ∧ kb ≠ pm ∧ kb ≠ am ∧ True ∧ True := by
        rcases hP.alt with ⟨C, g1, g2⟩ | ⟨C, eb, v, pl, g1, g2, g3, g4⟩
        · obtain ⟨r1, r2, r3, r4, r5⟩ := g1.apart (by decide) (by decide) hP.hk
          exact ⟨r1, r2, r3, trivial, trivial⟩
        · obtain ⟨r1, r2, r3, r4, r5⟩ := g1.apart (by decide) (by decide) hP.hk
          exact ⟨r1, r2, r3, trivial, trivial⟩
      exact (far.block kb (lt_of_block hP.hk) r1 r2 r3 hk).trans hP.hk
  rcases hP.alt with ⟨C, g1, g2⟩ | ⟨C, eb, v, pl, g1, g2, g3, g4⟩
  · obtain ⟨r1, r2, r3, r4, r5⟩ := g1.apart (by decide) (by decide) hP.hs
    obtain ⟨t1, t2, t3, t4, t5⟩ := g1.apart (by decide) (by decide) hP.hk
    refine (abandon_none w rb pm am C 0 m 0 0 0 pk [] al [] fl mb x.key 0 0 0 x.fr x.st rs g1 g2 hfl hmp).mono ?_
    intro e w' h
    exact key _ 0 e w' (fun b hb => Or.inl hb) r5 t5 h
  · obtain ⟨r1, r2, r3, r4, r5⟩ := g1.apart (by decide) (by decide) hP.hs
    obtain ⟨t1, t2, t3, t4, t5⟩ := g1.apart (by decide) (by decide) hP.hk
    refine (abandon_some w rb pm am C 0 m 0 0 x.co pk pl al [] fl eb mb v x.key 0 0 x.co x.fr x.st rs g1 g4 (by simp) hx.c0 (Int.le_refl _) (by have := hx.c1; omega) hfl hmp).mono ?_
    intro e w' h
    rw [g2, Int.sub_self] at h
    simp only [blks, List.map_cons, List.map_nil, List.mem_singleton] at r4 t4
    refine key _ x.co e w' (fun b hb => ?_) ?_ ?_ h
    · simp only [blks, List.map_nil, List.cons_append, List.nil_append, List.mem_cons] at hb
      rcases hb with rfl | rfl | hb
      · exact Or.inr hmb
      · exact Or.inr g3
      · exact Or.inl hb
    · simp only [blks, List.map_nil, List.cons_append, List.nil_append, List.mem_cons, not_or]
      exact ⟨Ne.symm hms, r4, r5⟩
    · simp only [blks, List.map_nil, List.cons_append, List.nil_append, List.mem_cons, not_or]
      exact ⟨Ne.symm hmk, t4, t5⟩
end Go.Proofs.Ybulkakzc

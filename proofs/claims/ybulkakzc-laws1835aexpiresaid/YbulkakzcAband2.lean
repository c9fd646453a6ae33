/-
  THE REASSEMBLER of seat b1835a: abandon, of a message that waits, and of one that does not.
-/
import Derived.Test.YbulkakzcAbandon
namespace Go.Proofs.Ybulkakzc
open Go.RowKit
set_option linter.unusedSimpArgs false

theorem Far.refl (rb pm am : Nat) (bs : List Nat) (w : World) : Far rb pm am bs w w := ⟨rfl, rfl, rfl, Nat.le_refl _, fun _ _ _ _ _ _ => rfl⟩

/-- What abandon answers and leaves. -/
def AbPost (w : World) (rb pm am : Nat) (tmo mp nw ne held pk : Int) (pl al : List En) (st : List (Nat × Value)) (fl : List Fq) (mb : Nat) (k : K) (fw fe cost frag : Int) (start : Bool) (rs : ByteArray) (bs : List Nat) (e : Ending) (w' : World) : Prop :=
  ∃ al6 nb, e = .returned (.agg (dg k (ver start) rs frag)) ∧ keysOf al6 = kput k (keysOf (dropA mp al fl)) ∧ get k al6 = some (P2 nb 0) ∧
    Fin w w' rb pm am tmo mp nw ne held (if pk < ((dropF mp fl).length + 1 : Int) then ((dropF mp fl).length + 1 : Int) else pk) pl al6 st (dropF mp fl ++ [⟨nb, k, nw, ne⟩]) mb k fw fe cost frag start bs

theorem abandon_none (w : World) (rb pm am : Nat) (C : Nat → Value) (tmo mp nw ne held pk : Int) (pl al : List En) (st : List (Nat × Value)) (fl : List Fq) (mb : Nat) (k : K) (fw fe cost frag : Int) (start : Bool) (rs : ByteArray)
    (h : RS w rb pm am C tmo mp nw ne held pk pl al st (fgs fl)) (hm : Msg w mb k fw fe (.pointer none) cost frag start) (hfl : fl.length < 100000) (hmp : mp ≤ 100000) :
    Calls Yba.prog 15 #[P2 rb 0, P2 mb 0, .string rs] w (AbPost w rb pm am tmo mp nw ne held pk pl al st fl mb k fw fe cost frag start rs (blks (fgs fl))) := by
  have hm' : Msg (w.alloc (.cells dz 88)) mb k fw fe (.pointer none) cost frag start := (Below.heap_alloc _ _ _ (lt_of_block hm)).trans hm
  refine abandon_core w rb pm am tmo mp nw ne held pk pl al st fl mb k fw fe cost frag start rs (blks (fgs fl)) ?_ hfl hmp
  refine (release_none _ rb mb k fw fe cost frag start hm').mono ?_
  rintro e w' ⟨rfl, rfl⟩
  exact ⟨rfl, ⟨C, h.alloc _⟩, hm', heap_alloc_new _ _, (Far.refl ..).alloc _, fun b hb => Or.inl hb⟩

theorem abandon_some (w : World) (rb pm am : Nat) (C : Nat → Value) (tmo mp nw ne held pk : Int) (pl al : List En) (st : List (Nat × Value)) (fl : List Fq) (eb mb : Nat) (v : Value) (k : K) (fw fe cost frag : Int) (start : Bool) (rs : ByteArray)
    (h : RS w rb pm am C tmo mp nw ne held pk pl al ((eb, v) :: st) (fgs fl)) (hm : Msg w mb k fw fe (P2 eb 0) cost frag start) (hn : ((eb, v) :: st).length < 1000000) (hc0 : 0 ≤ cost) (hc1 : cost ≤ held) (hc2 : held ≤ 1000000000) (hfl : fl.length < 100000) (hmp : mp ≤ 100000) :
    Calls Yba.prog 15 #[P2 rb 0, P2 mb 0, .string rs] w (AbPost w rb pm am tmo mp nw ne (held - cost) pk (dele k pl) al st fl mb k fw fe cost frag start rs (mb :: eb :: blks st ++ blks (fgs fl))) := by
  have hm' : Msg (w.alloc (.cells dz 88)) mb k fw fe (P2 eb 0) cost frag start := (Below.heap_alloc _ _ _ (lt_of_block hm)).trans hm
  refine abandon_core w rb pm am tmo mp nw ne (held - cost) pk (dele k pl) al st fl mb k fw fe cost frag start rs (mb :: eb :: blks st ++ blks (fgs fl)) ?_ hfl hmp
  have hA := h.alloc (.cells dz 88)
  have hres := heap_alloc_new w (.cells dz 88)
  refine (release_some _ rb pm am C tmo mp nw ne held pk pl al st (fgs fl) eb mb v k fw fe cost frag start hn hA hm' hc0 hc1 hc2).mono ?_
  rintro e w' ⟨rfl, hr, hz, hmsg, hF⟩
  obtain ⟨r1, r2, r3, r4, r5⟩ := hA.apart (by decide) (by decide) hres
  have hlt := lt_of_block hm
  refine ⟨rfl, hr, hmsg, (hF.block _ (lt_of_block hres) r1 r2 r3 ?_).trans hres, ⟨hF.os, hF.tape, hF.output, ?_, fun j hj h1 h2 h3 h4 => ?_⟩, fun b hb => Or.inl ?_⟩
  · simp only [blks, List.map_cons, List.mem_cons, not_or] at r4 ⊢
    exact ⟨by omega, r4.1, r4.2⟩
  · have := hF.size
    rw [World.size_alloc] at this
    omega
  · refine (hF.block j (by rw [World.size_alloc]; omega) h1 h2 h3 ?_).trans (Below.heap_alloc _ _ _ hj)
    intro h5
    exact h4 (List.mem_append_left _ h5)
  · exact List.mem_append_right _ hb
end Go.Proofs.Ybulkakzc

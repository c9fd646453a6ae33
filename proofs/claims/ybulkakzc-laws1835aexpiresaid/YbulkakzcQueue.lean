/-
  A QUEUE of seat b1835a: a container/list inside the reassembler's block, pushed to at its back and taken from at its front.
-/
import Derived.Test.YbulkakzcRemove
namespace Go.Proofs.Ybulkakzc
open Go.RowKit
set_option linter.unusedSimpArgs false

/-- Where the root's next leads: the first element, or the root itself. -/
def hdOf (rb lo : Nat) : List (Nat × Value) → Value
  | [] => P2 rb lo
  | e :: _ => P2 e.1 0
def tlOf (rb lo : Nat) (es : List (Nat × Value)) : Value :=
  match es.getLast? with
  | none => P2 rb lo
  | some e => P2 e.1 0

/-- The elements in memory, one behind the other; pv: where the first one's prev leads. -/
def Chain (w : World) (rb lo : Nat) : Value → List (Nat × Value) → Prop
  | _, [] => True
  | pv, e :: es => w.heap[e.1]? = some (.cells #[hdOf rb lo es, pv, P2 rb lo, e.2] 40 (0, 0)) ∧ Chain w rb lo (P2 e.1 0) es

def blks (es : List (Nat × Value)) : List Nat := es.map (·.1)

theorem Chain.congr {w w' : World} {rb lo : Nat} : ∀ {pv : Value} {es : List (Nat × Value)}, Chain w rb lo pv es → (∀ b ∈ blks es, w'.heap[b]? = w.heap[b]?) → Chain w' rb lo pv es
  | _, [], _, _ => trivial
  | _, e :: es, h, hb => ⟨(hb e.1 (by simp [blks])).trans h.1, Chain.congr h.2 fun b hb' => hb b (by simp [blks] at hb' ⊢; exact Or.inr hb')⟩

theorem Chain.lt {w : World} {rb lo : Nat} : ∀ {pv : Value} {es : List (Nat × Value)}, Chain w rb lo pv es → ∀ b ∈ blks es, b < w.heap.size
  | _, [], _, b, hb => by simp [blks] at hb
  | _, e :: es, h, b, hb => by
    simp only [blks, List.map_cons, List.mem_cons] at hb
    rcases hb with rfl | hb
    · exact lt_of_block h.1
    · exact Chain.lt h.2 b hb

/-- The last element's block. -/
theorem Chain.last {w : World} {rb lo : Nat} : ∀ {pv : Value} {es : List (Nat × Value)} {l : Nat × Value}, Chain w rb lo pv (es ++ [l]) → ∃ f, w.heap[l.1]? = some (.cells #[P2 rb lo, f, P2 rb lo, l.2] 40 (0, 0))
  | pv, [], _, h => ⟨pv, h.1⟩
  | _, _ :: _, _, h => Chain.last h.2

theorem hdOf_app (rb lo : Nat) (es : List (Nat × Value)) (l x : Nat × Value) : hdOf rb lo (es ++ [l] ++ [x]) = hdOf rb lo (es ++ [l]) := by cases es <;> rfl

/-- A new element behind the last. -/
theorem Chain.snoc {w w' : World} {rb lo : Nat} {nb : Nat} {v : Value} : ∀ {pv : Value} {es : List (Nat × Value)} {l : Nat × Value}, Chain w rb lo pv (es ++ [l]) → (blks (es ++ [l])).Nodup →
    (∀ b ∈ blks es, w'.heap[b]? = w.heap[b]?) → (∀ f, w.heap[l.1]? = some (.cells #[P2 rb lo, f, P2 rb lo, l.2] 40 (0, 0)) → w'.heap[l.1]? = some (.cells #[P2 nb 0, f, P2 rb lo, l.2] 40 (0, 0))) →
    w'.heap[nb]? = some (.cells #[P2 rb lo, P2 l.1 0, P2 rb lo, v] 40 (0, 0)) → Chain w' rb lo pv (es ++ [l] ++ [(nb, v)])
  | pv, [], l, h, _, _, hl, hn => ⟨hl pv h.1, hn, trivial⟩
  | pv, e :: es, l, h, hd, hb, hl, hn => by
    refine ⟨?_, Chain.snoc h.2 (by simp [blks] at hd ⊢; exact hd.2) (fun b hb' => hb b (by simp [blks] at hb' ⊢; exact Or.inr hb')) hl hn⟩
    refine (hb e.1 (by simp [blks])).trans ?_
    show w.heap[e.1]? = some (.cells #[hdOf rb lo (es ++ [l] ++ [(nb, v)]), pv, P2 rb lo, e.2] 40 (0, 0))
    rw [hdOf_app]
    exact h.1

/-- A queue that has been initialised. -/
structure Ring (w : World) (rb lo : Nat) (C : Nat → Value) (es : List (Nat × Value)) : Prop where
  chain : Chain w rb lo (P2 rb lo) es
  hd : C lo = hdOf rb lo es
  tl : C (lo + 1) = tlOf rb lo es
  len : C (lo + 4) = .int .i64 (es.length : Int)
  nd : (blks es).Nodup
  ne : ∀ b ∈ blks es, b ≠ rb

/-- A queue, as the zero value or initialised. -/
def DQ (w : World) (rb lo : Nat) (C : Nat → Value) (es : List (Nat × Value)) : Prop :=
  (es = [] ∧ C lo = .pointer none ∧ C (lo + 4) = .int .i64 0) ∨ Ring w rb lo C es

theorem DQ.len {w : World} {rb lo : Nat} {C : Nat → Value} {es : List (Nat × Value)} (h : DQ w rb lo C es) : C (lo + 4) = .int .i64 (es.length : Int) := by
  rcases h with ⟨rfl, _, h⟩ | h
  · exact h
  · exact h.len
theorem DQ.blks_lt {w : World} {rb lo : Nat} {C : Nat → Value} {es : List (Nat × Value)} (h : DQ w rb lo C es) : ∀ b ∈ blks es, b < w.heap.size := by
  rcases h with ⟨rfl, _, _⟩ | h
  · intro b hb; simp [blks] at hb
  · exact h.chain.lt
theorem DQ.congr {w w' : World} {rb lo : Nat} {C C' : Nat → Value} {es : List (Nat × Value)} (h : DQ w rb lo C es) (hb : ∀ b ∈ blks es, w'.heap[b]? = w.heap[b]?) (h0 : C' lo = C lo) (h1 : C' (lo + 1) = C (lo + 1)) (h4 : C' (lo + 4) = C (lo + 4)) : DQ w' rb lo C' es := by
  rcases h with ⟨rfl, a, b⟩ | h
  · exact Or.inl ⟨rfl, h0.trans a, h4.trans b⟩
  · exact Or.inr ⟨h.chain.congr hb, h0.trans h.hd, h1.trans h.tl, h4.trans h.len, h.nd, h.ne⟩

/-- What was there has turned in block rb and in the queue's own blocks alone. -/
structure QOnly (rb : Nat) (bs : List Nat) (w w' : World) : Prop where
  os : w'.os = w.os
  tape : w'.tape = w.tape
  output : w'.output = w.output
  size : w.heap.size ≤ w'.heap.size
  block : ∀ k, k < w.heap.size → k ≠ rb → k ∉ bs → w'.heap[k]? = w.heap[k]?

/-- The content with one cell turned. -/
def up1 (C : Nat → Value) (i : Nat) (v : Value) : Nat → Value := fun j => if j = i then v else C j
theorem up1_same (C : Nat → Value) (i : Nat) (v : Value) : up1 C i v i = v := by simp [up1]
theorem up1_other (C : Nat → Value) {i j : Nat} (v : Value) (h : j ≠ i) : up1 C i v j = C j := by simp [up1, h]

theorem tlOf_snoc (rb lo : Nat) (es : List (Nat × Value)) (x : Nat × Value) : tlOf rb lo (es ++ [x]) = P2 x.1 0 := by simp [tlOf]

theorem heap_set_same {w : World} {b : Nat} {c : Array Value} {t : TypeId} {fz : Nat × Nat} (h : w.heap[b]? = some (.cells c t fz)) (i : Nat) (v : Value) : (w.setCell ⟨b, i, none⟩ v).heap[b]? = some (.cells (c.setIfInBounds i v) t fz) := by
  simp [World.setCell, Array.getElem?_modify, h]
theorem heap_set_other (w : World) {b k : Nat} (i : Nat) (v : Value) (h : k ≠ b) : (w.setCell ⟨b, i, none⟩ v).heap[k]? = w.heap[k]? := Below.heap_setCell w ⟨b, i, none⟩ v k h

/-- The three cells of the root, turned. -/
def rootC (C : Nat → Value) (lo : Nat) (a b : Value) (n : Int) : Nat → Value := up1 (up1 (up1 C lo a) (lo + 1) b) (lo + 4) (.int .i64 n)
theorem rootC_other (C : Nat → Value) (lo : Nat) (a b : Value) (n : Int) (j : Nat) (h0 : j ≠ lo) (h1 : j ≠ lo + 1) (h4 : j ≠ lo + 4) : rootC C lo a b n j = C j := by
  simp [rootC, up1, h0, h1, h4]
theorem rootC_0 (C : Nat → Value) (lo : Nat) (a b : Value) (n : Int) : rootC C lo a b n lo = a := by simp [rootC, up1]
theorem rootC_1 (C : Nat → Value) (lo : Nat) (a b : Value) (n : Int) : rootC C lo a b n (lo + 1) = b := by simp [rootC, up1]
theorem rootC_4 (C : Nat → Value) (lo : Nat) (a b : Value) (n : Int) : rootC C lo a b n (lo + 4) = .int .i64 n := by simp [rootC, up1]

theorem row_up {w : World} {rb n : Nat} {t : TypeId} {C : Nat → Value} (h : w.rowIs rb t n C) (i : Nat) (v : Value) : (w.setCell ⟨rb, i, none⟩ v).rowIs rb t n (up1 C i v) := h.set i v

/-- What a push into an empty queue leaves. -/
theorem post_empty (w w' : World) (rb lo nb : Nat) (C : Nat → Value) (v : Value) (hnb : nb = w.heap.size) (hrow : w.rowIs rb 47 26 C)
    (hw : w' = (((w.setCell ⟨rb, lo, none⟩ (P2 nb 0)).setCell ⟨rb, lo + 1, none⟩ (P2 nb 0)).setCell ⟨rb, lo + 4, none⟩ (.int .i64 1)).alloc (.cells #[P2 rb lo, P2 rb lo, P2 rb lo, v] 40)) :
    w'.heap.size = w.heap.size + 1 ∧ ∃ C', w'.rowIs rb 47 26 C' ∧ Ring w' rb lo C' [(nb, v)] ∧ (∀ j, j ≠ lo → j ≠ lo + 1 → j ≠ lo + 4 → C' j = C j) ∧ QOnly rb [] w w' := by
  have hrb := hrow.lt
  have hz0 : (((w.setCell ⟨rb, lo, none⟩ (P2 nb 0)).setCell ⟨rb, lo + 1, none⟩ (P2 nb 0)).setCell ⟨rb, lo + 4, none⟩ (.int .i64 1)).heap.size = w.heap.size := by simp
  have hz : w'.heap.size = w.heap.size + 1 := by rw [hw, World.size_alloc, hz0]
  have hrow' : w'.rowIs rb 47 26 (rootC C lo (P2 nb 0) (P2 nb 0) 1) := by rw [hw]; exact (row_up (row_up (row_up hrow lo _) (lo + 1) _) (lo + 4) _).alloc _
  have hnew : w'.heap[nb]? = some (.cells #[P2 rb lo, P2 rb lo, P2 rb lo, v] 40 (0, 0)) := by
    have h := heap_alloc_new (((w.setCell ⟨rb, lo, none⟩ (P2 nb 0)).setCell ⟨rb, lo + 1, none⟩ (P2 nb 0)).setCell ⟨rb, lo + 4, none⟩ (.int .i64 1)) (.cells #[P2 rb lo, P2 rb lo, P2 rb lo, v] 40)
    rw [hz0, ← hnb] at h
    rw [hw]; exact h
  have hold : ∀ k, k < w.heap.size → k ≠ rb → w'.heap[k]? = w.heap[k]? := fun k hk h1 => by
    rw [hw, Below.heap_alloc _ _ _ (by rw [hz0]; exact hk), heap_set_other _ _ _ h1, heap_set_other _ _ _ h1, heap_set_other _ _ _ h1]
  have ho : w'.os = w.os ∧ w'.tape = w.tape ∧ w'.output = w.output := by rw [hw]; exact ⟨rfl, rfl, rfl⟩
  clear hw hz0
  refine ⟨hz, _, hrow', ⟨⟨hnew, trivial⟩, rootC_0 .., rootC_1 .., rootC_4 .., by simp [blks], ?_⟩, fun j h0 h1 h4 => rootC_other _ _ _ _ _ j h0 h1 h4, ⟨ho.1, ho.2.1, ho.2.2, by omega, fun k hk h1 _ => hold k hk h1⟩⟩
  intro b hb
  simp [blks] at hb
  omega

set_option maxHeartbeats 1000000 in
theorem push_any (w : World) (rb lo : Nat) (C : Nat → Value) (es : List (Nat × Value)) (t : TypeId) (x : Value) (hlo : lo + 5 ≤ 26) (hrow : w.rowIs rb 47 26 C) (hq : DQ w rb lo C es) (hn : es.length < 1000000) :
    Calls Yba.prog 7 #[P2 rb lo, .iface t x] w fun e w' => e = .returned (P2 w.heap.size 0) ∧ w'.heap.size = w.heap.size + 1 ∧
      ∃ C', w'.rowIs rb 47 26 C' ∧ Ring w' rb lo C' (es ++ [(w.heap.size, .iface t x)]) ∧ (∀ j, j ≠ lo → j ≠ lo + 1 → j ≠ lo + 4 → C' j = C j) ∧ QOnly rb (blks es) w w' := by
  have hrb := hrow.lt
  have c0 := hrow.cell (i := lo) (by omega)
  have c1 := hrow.cell (i := lo + 1) (by omega)
  have c4 := hrow.cell (i := lo + 4) (by omega)
  have f0 := hrow.frozen lo
  have f1 := hrow.frozen (lo + 1)
  have f4 := hrow.frozen (lo + 4)
  rcases hq with ⟨rfl, h0, h4⟩ | hq
  · rw [h0] at c0
    refine (push_raw w rb lo t x _ _ c0 c1 c4 f0 f1 f4 hrb).mono ?_
    rintro e w' ⟨rfl, w1, hw1, hw'⟩
    have hz1 : w1.heap.size = w.heap.size := by rw [hw1]; simp
    have hrow1 : w1.rowIs rb 47 26 (rootC C lo (P2 rb lo) (P2 rb lo) 0) := by rw [hw1]; exact row_up (row_up (row_up hrow lo _) (lo + 1) _) (lo + 4) _
    have hold1 : ∀ k, k ≠ rb → w1.heap[k]? = w.heap[k]? := fun k h1 => by rw [hw1, heap_set_other _ _ _ h1, heap_set_other _ _ _ h1, heap_set_other _ _ _ h1]
    have ho1 : w1.os = w.os ∧ w1.tape = w.tape ∧ w1.output = w.output := by rw [hw1]; exact ⟨rfl, rfl, rfl⟩
    clear hw1
    obtain ⟨hz, C', hr', hR, hC, hQ⟩ := post_empty w1 w' rb lo w.heap.size _ (.iface t x) hz1.symm hrow1 hw'
    clear hw'
    refine ⟨rfl, by omega, C', hr', hR, fun j h0 h1 h4 => (hC j h0 h1 h4).trans (rootC_other _ _ _ _ _ j h0 h1 h4), ⟨hQ.os.trans ho1.1, hQ.tape.trans ho1.2.1, hQ.output.trans ho1.2.2, by omega, fun k hk h1 h2 => (hQ.block k (by omega) h1 h2).trans (hold1 k h1)⟩⟩
  · have hlen := hq.len
    rw [hq.len] at c4
    rcases List.eq_nil_or_concat es with rfl | ⟨es', l, rfl⟩
    · have h0 := hq.hd
      have h1 := hq.tl
      simp only [hdOf, tlOf, List.getLast?_nil] at h0 h1
      rw [h0] at c0
      rw [h1] at c1
      refine (push_empty w rb lo t x c0 c1 c4 f0 f1 f4 hrb).mono ?_
      rintro e w' ⟨rfl, hw'⟩
      obtain ⟨hz, C', hr', hR, hC, hQ⟩ := post_empty w w' rb lo w.heap.size _ (.iface t x) rfl hrow hw'
      exact ⟨rfl, hz, C', hr', hR, hC, hQ⟩
    · simp only [List.concat_eq_append] at *
      obtain ⟨lf, hl⟩ := hq.chain.last
      have hlr : l.1 ≠ rb := hq.ne l.1 (by simp [blks])
      have h1 := hq.tl
      rw [tlOf_snoc] at h1
      rw [h1] at c1
      have h0 : ∃ fb, C lo = P2 fb 0 := by
        rw [hq.hd]
        cases es' with
        | nil => exact ⟨_, rfl⟩
        | cons a _ => exact ⟨_, rfl⟩
      obtain ⟨fb, h0⟩ := h0
      rw [h0] at c0
      have hlb := lt_of_block hl
      refine (push_last w rb lo l.1 t x lf _ fb l.2 hlr hn c0 c1 c4 hl f1 f4 hrb).mono ?_
      rintro e w' ⟨rfl, hw⟩
      generalize hnb : w.heap.size = nb at *
      have hz0 : (((w.setCell ⟨l.1, 0, none⟩ (P2 nb 0)).setCell ⟨rb, lo + 1, none⟩ (P2 nb 0)).setCell ⟨rb, lo + 4, none⟩ (.int .i64 (((es' ++ [l]).length : Int) + 1))).heap.size = nb := by simp [hnb]
      have hz : w'.heap.size = nb + 1 := by rw [hw, World.size_alloc, hz0]
      have hrow' : w'.rowIs rb 47 26 (up1 (up1 C (lo + 1) (P2 nb 0)) (lo + 4) (.int .i64 (((es' ++ [l]).length : Int) + 1))) := by
        rw [hw]; exact (row_up (row_up (hrow.setOther (by exact Ne.symm hlr) _) (lo + 1) _) (lo + 4) _).alloc _
      have hnew : w'.heap[nb]? = some (.cells #[P2 rb lo, P2 l.1 0, P2 rb lo, .iface t x] 40 (0, 0)) := by
        have h := heap_alloc_new (((w.setCell ⟨l.1, 0, none⟩ (P2 nb 0)).setCell ⟨rb, lo + 1, none⟩ (P2 nb 0)).setCell ⟨rb, lo + 4, none⟩ (.int .i64 (((es' ++ [l]).length : Int) + 1))) (.cells #[P2 rb lo, P2 l.1 0, P2 rb lo, .iface t x] 40)
        rw [hz0] at h
        rw [hw]; exact h
      have hold : ∀ k, k < nb → k ≠ rb → k ≠ l.1 → w'.heap[k]? = w.heap[k]? := fun k hk h1 h2 => by
        rw [hw, Below.heap_alloc _ _ _ (by rw [hz0]; exact hk), heap_set_other _ _ _ h1, heap_set_other _ _ _ h1, heap_set_other _ _ _ h2]
      have hlast : ∀ f, w.heap[l.1]? = some (.cells #[P2 rb lo, f, P2 rb lo, l.2] 40 (0, 0)) → w'.heap[l.1]? = some (.cells #[P2 nb 0, f, P2 rb lo, l.2] 40 (0, 0)) := fun f hf => by
        rw [hw, Below.heap_alloc _ _ _ (by rw [hz0]; exact hlb), heap_set_other _ _ _ hlr, heap_set_other _ _ _ hlr, heap_set_same hf]
        rfl
      have ho : w'.os = w.os ∧ w'.tape = w.tape ∧ w'.output = w.output := by rw [hw]; exact ⟨rfl, rfl, rfl⟩
      clear hw hz0
      have hlt := hq.chain.lt
      have hnd := hq.nd
      have hnl : ∀ b ∈ blks es', b ≠ l.1 := by
        intro b hb e
        simp only [blks, List.map_append, List.map_cons, List.map_nil, List.nodup_append] at hnd
        exact hnd.2.2 b hb l.1 (by simp) e
      refine ⟨rfl, hz, _, hrow', ⟨?_, ?_, ?_, ?_, ?_, ?_⟩, fun j h0 h1 h4 => ?_, ⟨ho.1, ho.2.1, ho.2.2, by omega, fun k hk h1 h2 => hold k (by omega) h1 (fun e => h2 (by simp [blks, e]))⟩⟩
      · exact hq.chain.snoc hnd (fun b hb => hold b (by have := hlt b (by simp [blks] at hb ⊢; exact Or.inl hb); omega) (hq.ne b (by simp [blks] at hb ⊢; exact Or.inl hb)) (hnl b hb)) hlast hnew
      · rw [up1_other _ _ (by omega), up1_other _ _ (by omega), hq.hd, hdOf_app]
      · rw [up1_other _ _ (by omega), up1_same, tlOf_snoc]
      · rw [up1_same]; simp; omega
      · simp only [blks, List.map_append, List.map_cons, List.map_nil] at hnd hlt ⊢
        rw [List.nodup_append]
        refine ⟨hnd, by simp, fun a ha b hb e => ?_⟩
        simp at hb
        have := hlt a ha
        omega
      · intro b hb
        simp only [blks, List.map_append, List.map_cons, List.map_nil, List.mem_append, List.mem_singleton] at hb
        rcases hb with hb | hb
        · exact hq.ne b (by simp only [blks, List.map_append, List.map_cons, List.map_nil, List.mem_append, List.mem_singleton]; exact hb)
        · omega
      · rw [up1_other _ _ h4, up1_other _ _ h1]

theorem os_setCell (w : World) (a : Addr) (v : Value) : (w.setCell a v).os = w.os := rfl
theorem output_setCell (w : World) (a : Addr) (v : Value) : (w.setCell a v).output = w.output := rfl
theorem os_drew (w : World) : w.drew.os = w.os := rfl
theorem output_drew (w : World) : w.drew.output = w.output := rfl
theorem heap_drew (w : World) : w.drew.heap = w.heap := rfl

theorem outW_os (w : World) (rb lo eb nb no : Nat) (n : Int) : (outW w rb lo eb nb no n).os = w.os ∧ (outW w rb lo eb nb no n).tape = w.tape ∧ (outW w rb lo eb nb no n).output = w.output ∧ (outW w rb lo eb nb no n).heap.size = w.heap.size := by
  unfold outW
  refine ⟨?_, ?_, ?_, ?_⟩
  · rw [os_drew, os_drew, os_setCell, os_setCell, os_setCell, os_setCell, os_setCell, os_setCell]
  · rw [World.tape_drew, World.tape_drew, World.tape_setCell, World.tape_setCell, World.tape_setCell, World.tape_setCell, World.tape_setCell, World.tape_setCell]
  · rw [output_drew, output_drew, output_setCell, output_setCell, output_setCell, output_setCell, output_setCell, output_setCell]
  · rw [heap_drew, heap_drew, World.size_setCell, World.size_setCell, World.size_setCell, World.size_setCell, World.size_setCell, World.size_setCell]
theorem outW_old (w : World) (rb lo eb nb no : Nat) (n : Int) (k : Nat) (h1 : k ≠ rb) (h2 : k ≠ eb) (h3 : k ≠ nb) : (outW w rb lo eb nb no n).heap[k]? = w.heap[k]? := by
  unfold outW
  rw [heap_drew, heap_drew, heap_set_other _ _ _ h1, heap_set_other _ _ _ h2, heap_set_other _ _ _ h2, heap_set_other _ _ _ h2, heap_set_other _ _ _ h3, heap_set_other _ _ _ h1]
theorem outW_row (w : World) (rb lo eb nb : Nat) (n : Int) (C : Nat → Value) (h : w.rowIs rb 47 26 C) (h1 : eb ≠ rb) (h2 : nb ≠ rb) : (outW w rb lo eb nb 0 n).rowIs rb 47 26 (up1 (up1 C lo (P2 nb 0)) (lo + 4) (.int .i64 (n - 1))) := by
  have e1 : rb ≠ eb := Ne.symm h1
  have e2 : rb ≠ nb := Ne.symm h2
  unfold outW
  refine World.rowIs.drew (World.rowIs.drew (row_up ?_ (lo + 4) _))
  refine World.rowIs.setOther ?_ (by exact e1) _
  refine World.rowIs.setOther ?_ (by exact e1) _
  refine World.rowIs.setOther ?_ (by exact e1) _
  refine World.rowIs.setOther ?_ (by exact e2) _
  exact row_up h lo _
theorem outW_row_root (w : World) (rb lo eb : Nat) (n : Int) (C : Nat → Value) (h : w.rowIs rb 47 26 C) (h1 : eb ≠ rb) : (outW w rb lo eb rb lo n).rowIs rb 47 26 (rootC C lo (P2 rb lo) (P2 rb lo) (n - 1)) := by
  have e1 : rb ≠ eb := Ne.symm h1
  unfold outW rootC
  refine World.rowIs.drew (World.rowIs.drew (row_up ?_ (lo + 4) _))
  refine World.rowIs.setOther ?_ (by exact e1) _
  refine World.rowIs.setOther ?_ (by exact e1) _
  refine World.rowIs.setOther ?_ (by exact e1) _
  exact row_up (row_up h lo _) (lo + 1) _
theorem outW_next (w : World) (rb lo eb nb : Nat) (n : Int) (a b c d : Value) (h : w.heap[nb]? = some (.cells #[a, b, c, d] 40 (0, 0))) (h1 : nb ≠ rb) (h2 : nb ≠ eb) : (outW w rb lo eb nb 0 n).heap[nb]? = some (.cells #[a, P2 rb lo, c, d] 40 (0, 0)) := by
  unfold outW
  have h0 : (w.setCell ⟨rb, lo, none⟩ (P2 nb 0)).heap[nb]? = some (.cells #[a, b, c, d] 40 (0, 0)) := (heap_set_other _ _ _ h1).trans h
  rw [heap_drew, heap_drew, heap_set_other _ _ _ h1, heap_set_other _ _ _ h2, heap_set_other _ _ _ h2, heap_set_other _ _ _ h2, heap_set_same h0]
  rfl

theorem tlOf_cons (rb lo : Nat) (e x : Nat × Value) (es : List (Nat × Value)) : tlOf rb lo (e :: x :: es) = tlOf rb lo (x :: es) := by simp [tlOf]

set_option maxHeartbeats 1000000 in
theorem pop_any (w : World) (rb lo : Nat) (C : Nat → Value) (e : Nat × Value) (es : List (Nat × Value)) (hlo : lo + 5 ≤ 26) (hrow : w.rowIs rb 47 26 C) (hq : Ring w rb lo C (e :: es)) (hn : (e :: es).length < 1000000) :
    Calls Yba.prog 36 #[P2 rb lo, P2 e.1 0] w fun r w' => r = .returned e.2 ∧ w'.heap.size = w.heap.size ∧
      ∃ C', w'.rowIs rb 47 26 C' ∧ Ring w' rb lo C' es ∧ (∀ j, j ≠ lo → j ≠ lo + 1 → j ≠ lo + 4 → C' j = C j) ∧ QOnly rb (blks (e :: es)) w w' := by
  have c0 := hrow.cell (i := lo) (by omega)
  have c1 := hrow.cell (i := lo + 1) (by omega)
  have c4 := hrow.cell (i := lo + 4) (by omega)
  have f0 := hrow.frozen lo
  have f1 := hrow.frozen (lo + 1)
  have f4 := hrow.frozen (lo + 4)
  have her : e.1 ≠ rb := hq.ne e.1 (by simp [blks])
  rw [hq.len] at c4
  obtain ⟨hc1, hc2⟩ := hq.chain
  have hnd := hq.nd
  cases es with
  | nil =>
    refine (Remove_only w rb lo e.1 e.2 _ hn (by simp) her hc1 _ _ c0 c1 c4 f0 f1 f4).mono ?_
    rintro r w' ⟨rfl, hw⟩
    obtain ⟨o1, o2, o3, o4⟩ := outW_os w rb lo e.1 rb lo (([e] : List (Nat × Value)).length : Int)
    have hr := outW_row_root w rb lo e.1 (([e] : List (Nat × Value)).length : Int) C hrow her
    have hold := outW_old w rb lo e.1 rb lo (([e] : List (Nat × Value)).length : Int)
    rw [hw] at o1 o2 o3 o4 hr hold
    clear hw
    refine ⟨rfl, o4, _, hr, ⟨trivial, rootC_0 .., rootC_1 .., ?_, by simp [blks], fun b hb => by simp [blks] at hb⟩, fun j h0 h1 h4 => rootC_other _ _ _ _ _ j h0 h1 h4, ⟨o1, o2, o3, by omega, fun k _ h1 h2 => hold k h1 (fun e => h2 (by simp [blks, e])) h1⟩⟩
    rw [rootC_4]
    rfl
  | cons x es' =>
    have hxr : x.1 ≠ rb := hq.ne x.1 (by simp [blks])
    have hex : e.1 ≠ x.1 := by
      intro h
      simp only [blks, List.map_cons, List.nodup_cons, List.mem_cons] at hnd
      exact hnd.1 (Or.inl h)
    refine (Remove_more w rb lo e.1 x.1 e.2 _ x.2 _ hn (by simp) her hxr hex hc1 hc2.1 _ c0 c4 f0 f4).mono ?_
    rintro r w' ⟨rfl, hw⟩
    obtain ⟨o1, o2, o3, o4⟩ := outW_os w rb lo e.1 x.1 0 ((e :: x :: es').length : Int)
    have hr := outW_row w rb lo e.1 x.1 ((e :: x :: es').length : Int) C hrow her hxr
    have hold := outW_old w rb lo e.1 x.1 0 ((e :: x :: es').length : Int)
    have hnx := outW_next w rb lo e.1 x.1 ((e :: x :: es').length : Int) _ _ _ _ hc2.1 hxr (Ne.symm hex)
    rw [hw] at o1 o2 o3 o4 hr hold hnx
    clear hw
    simp only [blks, List.map_cons, List.nodup_cons, List.mem_cons, not_or] at hnd
    refine ⟨rfl, o4, _, hr, ⟨⟨hnx, ?_⟩, ?_, ?_, ?_, ?_, ?_⟩, fun j h0 h1 h4 => ?_, ⟨o1, o2, o3, by omega, fun k _ h1 h2 => hold k h1 (fun h => h2 (by simp [blks, h])) (fun h => h2 (by simp [blks, h]))⟩⟩
    · refine hc2.2.congr fun b hb => hold b (hq.ne b ?_) ?_ ?_
      · simp only [blks, List.map_cons, List.mem_cons] at hb ⊢; exact Or.inr (Or.inr hb)
      · intro h; subst h; exact hnd.1.2 hb
      · intro h; subst h; exact hnd.2.1 hb
    · rw [up1_other _ _ (by omega), up1_same]; rfl
    · rw [up1_other _ _ (by omega), up1_other _ _ (by omega), hq.tl, tlOf_cons]
    · rw [up1_same]; simp
    · simp only [blks, List.map_cons, List.nodup_cons]; exact hnd.2
    · intro b hb; exact hq.ne b (by simp only [blks, List.map_cons, List.mem_cons] at hb ⊢; exact Or.inr hb)
    · rw [up1_other _ _ h4, up1_other _ _ h0]

theorem len_any (w : World) (rb lo : Nat) (n : Int) (h4 : w.cell? ⟨rb, lo + 4, none⟩ = some (.int .i64 n)) :
    Calls Yba.prog 10 #[P2 rb lo] w fun e w' => e = .returned (.int .i64 n) ∧ w = w' := by
  go_enter Yba.func10, Yba.ntmps10
  go_wp2
  go_ret
  exact ⟨rfl, rfl⟩
theorem front_none (w : World) (rb lo : Nat) (h4 : w.cell? ⟨rb, lo + 4, none⟩ = some (.int .i64 0)) :
    Calls Yba.prog 11 #[P2 rb lo] w fun e w' => e = .returned (.pointer none) ∧ w = w' := by
  go_enter Yba.func11, Yba.ntmps11
  go_wp2
  go_ret
  exact ⟨rfl, rfl⟩
theorem front_some (w : World) (rb lo n : Nat) (v : Value) (hn : 0 < n) (h4 : w.cell? ⟨rb, lo + 4, none⟩ = some (.int .i64 (n : Int))) (h0 : w.cell? ⟨rb, lo, none⟩ = some v) :
    Calls Yba.prog 11 #[P2 rb lo] w fun e w' => e = .returned v ∧ w = w' := by
  have e0 : ((n : Int) == 0) = false := beq_eq_false_iff_ne.2 (by omega)
  go_enter Yba.func11, Yba.ntmps11
  go_wp2
  go_ret
  exact ⟨rfl, rfl⟩
theorem back_some (w : World) (rb lo n : Nat) (v : Value) (hn : 0 < n) (h4 : w.cell? ⟨rb, lo + 4, none⟩ = some (.int .i64 (n : Int))) (h1 : w.cell? ⟨rb, lo + 1, none⟩ = some v) :
    Calls Yba.prog 16 #[P2 rb lo] w fun e w' => e = .returned v ∧ w = w' := by
  have e0 : ((n : Int) == 0) = false := beq_eq_false_iff_ne.2 (by omega)
  go_enter Yba.func16, Yba.ntmps16
  go_wp2
  go_ret
  exact ⟨rfl, rfl⟩
end Go.Proofs.Ybulkakzc

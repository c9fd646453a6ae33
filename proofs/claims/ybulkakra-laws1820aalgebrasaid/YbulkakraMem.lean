/-
  MEMORY of seat b1820a: blocks bear roles (numbers); rows of cells; slices; what a step leaves alone; append.
  ROLES: 0 not the store's · 1 the store · 2 cache · 3 stack · 5 + k the outer slice of chunks k (0: nodes, 1: edges) · 10 + j the slots of part j · 1000 + 2 c + k chunk c of k (c is 0 here).
-/
import Derived.Test.YbulkakraRows
import Derived.WalkKit
import Derived.Below
import Derived.Deep.Upon
import Derived.Deep.OwnRows
import Derived.BigQuiet
import Derived.Laws.MakeOwn
namespace Go.Proofs.Ybulkakra
open Go.RowKit
set_option linter.unusedSimpArgs false

/-- What a step leaves alone: blocks of a role that is not in R. -/
structure Fr (R : Nat → Prop) (tg : Nat → Nat) (w : World) (tg' : Nat → Nat) (w' : World) : Prop where
  os : w'.os = w.os
  output : w'.output = w.output
  size : w.heap.size ≤ w'.heap.size
  tag : ∀ b, b < w.heap.size → tg' b = tg b
  block : ∀ b, b < w.heap.size → ¬ R (tg b) → w'.heap[b]? = w.heap[b]?

theorem Fr.refl (R : Nat → Prop) (tg : Nat → Nat) (w : World) : Fr R tg w tg w := ⟨rfl, rfl, Nat.le_refl _, fun _ _ => rfl, fun _ _ _ => rfl⟩
theorem Fr.mono {R R' : Nat → Prop} {tg tg' : Nat → Nat} {w w' : World} (h : Fr R tg w tg' w') (hR : ∀ r, R r → R' r) : Fr R' tg w tg' w' :=
  ⟨h.os, h.output, h.size, h.tag, fun b hb hr => h.block b hb fun e => hr (hR _ e)⟩
theorem Fr.trans {R : Nat → Prop} {tg tg1 tg2 : Nat → Nat} {w w1 w2 : World} (h : Fr R tg w tg1 w1) (k : Fr R tg1 w1 tg2 w2) : Fr R tg w tg2 w2 :=
  ⟨k.os.trans h.os, k.output.trans h.output, Nat.le_trans h.size k.size, fun b hb => (k.tag b (Nat.lt_of_lt_of_le hb h.size)).trans (h.tag b hb),
    fun b hb hr => (k.block b (Nat.lt_of_lt_of_le hb h.size) (by rw [h.tag b hb]; exact hr)).trans (h.block b hb hr)⟩
theorem Fr.drew {R : Nat → Prop} {tg tg' : Nat → Nat} {w w' : World} (h : Fr R tg w tg' w') : Fr R tg w tg' w'.drew := ⟨h.os, h.output, h.size, h.tag, h.block⟩
theorem Fr.drewN {R : Nat → Prop} {tg tg' : Nat → Nat} {w w' : World} (h : Fr R tg w tg' w') (n : Nat) : Fr R tg w tg' (w'.drewN n) := ⟨h.os, h.output, h.size, h.tag, h.block⟩
theorem Fr.set {R : Nat → Prop} {tg tg' : Nat → Nat} {w w' : World} (h : Fr R tg w tg' w') {a : Addr} (ha : w.heap.size ≤ a.block ∨ R (tg a.block)) (v : Value) : Fr R tg w tg' (w'.setCell a v) :=
  ⟨h.os, h.output, by rw [World.size_setCell]; exact h.size, h.tag, fun b hb hr => (Below.heap_setCell _ _ _ _ (by
    rintro rfl
    rcases ha with ha | ha
    · omega
    · exact hr ha)).trans (h.block b hb hr)⟩

/-- A role given to a block. -/
def tagAt (tg : Nat → Nat) (b r : Nat) : Nat → Nat := fun x => if x = b then r else tg x
theorem tagAt_same (tg : Nat → Nat) (b r : Nat) : tagAt tg b r b = r := if_pos rfl
theorem tagAt_other (tg : Nat → Nat) {b r x : Nat} (h : x ≠ b) : tagAt tg b r x = tg x := if_neg h
theorem Fr.alloc {R : Nat → Prop} {tg tg' : Nat → Nat} {w w' : World} (h : Fr R tg w tg' w') (o : Obj) (r : Nat) : Fr R tg w (tagAt tg' w'.heap.size r) (w'.alloc o) :=
  ⟨h.os, h.output, by rw [World.size_alloc]; exact Nat.le_succ_of_le h.size, fun b hb => (tagAt_other _ (by have := h.size; omega)).trans (h.tag b hb),
    fun b hb hr => (Below.heap_alloc _ _ _ (Nat.lt_of_lt_of_le hb h.size)).trans (h.block b hb hr)⟩
theorem Fr.alloc0 {R : Nat → Prop} {tg tg' : Nat → Nat} {w w' : World} (h : Fr R tg w tg' w') (o : Obj) : Fr R tg w tg' (w'.alloc o) :=
  ⟨h.os, h.output, by rw [World.size_alloc]; exact Nat.le_succ_of_le h.size, h.tag,
    fun b hb hr => (Below.heap_alloc _ _ _ (Nat.lt_of_lt_of_le hb h.size)).trans (h.block b hb hr)⟩
theorem Fr.retag {R : Nat → Prop} {tg tg' : Nat → Nat} {w w' : World} (h : Fr R tg w tg' w') (b r : Nat) (hb : w.heap.size ≤ b) : Fr R tg w (tagAt tg' b r) w' :=
  ⟨h.os, h.output, h.size, fun x hx => (tagAt_other _ (by omega)).trans (h.tag x hx), h.block⟩
theorem Fr.cell {R : Nat → Prop} {tg tg' : Nat → Nat} {w w' : World} (h : Fr R tg w tg' w') {a : Addr} (hb : a.block < w.heap.size) (hr : ¬ R (tg a.block)) : w'.cell? a = w.cell? a := World.cell?_of_block (h.block _ hb hr)
theorem Fr.frozen {R : Nat → Prop} {tg tg' : Nat → Nat} {w w' : World} (h : Fr R tg w tg' w') {a : Addr} (hb : a.block < w.heap.size) (hr : ¬ R (tg a.block)) : w'.frozen? a = w.frozen? a := World.frozen?_of_block (h.block _ hb hr)

/-- n cells of block b, none frozen. -/
def Row (w : World) (b n : Nat) (f : Nat → Value) : Prop := ∀ i, i < n → w.cell? ⟨b, i, none⟩ = some (f i) ∧ w.frozen? ⟨b, i, none⟩ = false
theorem Row.of_block {w w' : World} {b n : Nat} {f : Nat → Value} (h : Row w b n f) (e : w'.heap[b]? = w.heap[b]?) : Row w' b n f :=
  fun i hi => ⟨(World.cell?_of_block (a := ⟨b, i, none⟩) e).trans (h i hi).1, (World.frozen?_of_block (a := ⟨b, i, none⟩) e).trans (h i hi).2⟩
theorem Row.congr {w : World} {b n : Nat} {f g : Nat → Value} (h : Row w b n f) (e : ∀ i, i < n → f i = g i) : Row w b n g := fun i hi => ⟨by rw [(h i hi).1, e i hi], (h i hi).2⟩
def up1 (f : Nat → Value) (i : Nat) (v : Value) : Nat → Value := fun j => if j = i then v else f j
theorem up1_same (f : Nat → Value) (i : Nat) (v : Value) : up1 f i v i = v := if_pos rfl
theorem up1_other (f : Nat → Value) {i j : Nat} (v : Value) (h : j ≠ i) : up1 f i v j = f j := if_neg h
theorem addr_ne {b i j : Nat} (h : i ≠ j) : (⟨b, i, none⟩ : Addr) ≠ ⟨b, j, none⟩ := by
  intro e
  exact h (congrArg Addr.off e)
theorem Row.set {w : World} {b n : Nat} {f : Nat → Value} (h : Row w b n f) (i : Nat) (v : Value) : Row (w.setCell ⟨b, i, none⟩ v) b n (up1 f i v) := by
  intro j hj
  refine ⟨?_, by rw [World.frozen?_setCell]; exact (h j hj).2⟩
  by_cases e : j = i
  · subst e
    rw [up1_same, World.cell?_setCell_same _ _ _ (h j hj).1]
  · rw [up1_other _ _ e, World.cell?_setCell_other _ _ _ _ (addr_ne (fun x => e x.symm))]
    exact (h j hj).1
theorem Row.setOther {w : World} {b n : Nat} {f : Nat → Value} (h : Row w b n f) {a : Addr} (ha : b ≠ a.block) (v : Value) : Row (w.setCell a v) b n f := h.of_block (Below.heap_setCell _ _ _ _ ha)
theorem Row.lt {w : World} {b n : Nat} {f : Nat → Value} (h : Row w b n f) (hn : 0 < n) : b < w.heap.size := World.block_lt_of_cell? _ _ (h 0 hn).1
theorem Row.alloc {w : World} {b n : Nat} {f : Nat → Value} (h : Row w b n f) (hn : 0 < n) (o : Obj) : Row (w.alloc o) b n f := h.of_block (Below.heap_alloc _ _ _ (h.lt hn))
theorem Row.fr {R : Nat → Prop} {tg tg' : Nat → Nat} {w w' : World} {b n : Nat} {f : Nat → Value} (h : Row w b n f) (k : Fr R tg w tg' w') (hb : b < w.heap.size) (hr : ¬ R (tg b)) : Row w' b n f := h.of_block (k.block b hb hr)
theorem Row.new (w : World) (c : Array Value) (t : TypeId) (n : Nat) (f : Nat → Value) (hc : ∀ i, i < n → c[i]? = some (f i)) : Row (w.alloc (.cells c t)) w.heap.size n f := by
  intro i hi
  have h := heap_alloc_new w (.cells c t)
  refine ⟨?_, ?_⟩
  · unfold World.cell?
    rw [h]
    exact hc i hi
  · unfold World.frozen?
    rw [h]
    simp
theorem size_setCells' (b : Nat) : ∀ (vs : List Value) (o : Nat) (w : World), (w.setCells b o vs).heap.size = w.heap.size
  | [], _, _ => rfl
  | v :: vs, o, w => by rw [World.setCells, size_setCells' b vs, World.size_setCell]

/-- The slice v: n elements of z cells, room for cap, the cells f, in a block of role r. -/
structure Sl (tg : Nat → Nat) (w : World) (r z : Nat) (v : Value) (n cap : Nat) (f : Nat → Value) : Prop where
  is : ∃ ao b, v = .slice ao n cap ∧ (0 < cap → ao = some ⟨b, 0, none⟩ ∧ b < w.heap.size ∧ tg b = r) ∧ Row w b (cap * z) f
  le : n ≤ cap
  max : cap ≤ maxLen

theorem Sl.fr {R : Nat → Prop} {tg tg' : Nat → Nat} {w w' : World} {r z : Nat} {v : Value} {n cap : Nat} {f : Nat → Value} (h : Sl tg w r z v n cap f) (k : Fr R tg w tg' w') (hr : ¬ R r) : Sl tg' w' r z v n cap f := by
  obtain ⟨ao, b, hv, hb, hrow⟩ := h.is
  refine ⟨⟨ao, b, hv, fun h0 => ⟨(hb h0).1, Nat.lt_of_lt_of_le (hb h0).2.1 k.size, (k.tag b (hb h0).2.1).trans (hb h0).2.2⟩, ?_⟩, h.le, h.max⟩
  rcases Nat.eq_zero_or_pos cap with h0 | h0
  · subst h0
    intro i hi
    omega
  · obtain ⟨_, h1, h2⟩ := hb h0
    exact hrow.fr k h1 (by rw [h2]; exact hr)
theorem Sl.nil (tg : Nat → Nat) (w : World) (r z : Nat) (f : Nat → Value) : Sl tg w r z (.slice none 0 0) 0 0 f :=
  ⟨⟨none, 0, rfl, fun h => by omega, fun i hi => by omega⟩, Nat.le_refl _, Nat.zero_le _⟩
/-- A slice that holds something. -/
theorem Sl.pos {tg : Nat → Nat} {w : World} {r z : Nat} {v : Value} {n cap : Nat} {f : Nat → Value} (h : Sl tg w r z v n cap f) (hn : 0 < n) : ∃ b, v = .slice (some ⟨b, 0, none⟩) n cap ∧ b < w.heap.size ∧ tg b = r ∧ Row w b (cap * z) f := by
  obtain ⟨ao, b, hv, hb, hrow⟩ := h.is
  obtain ⟨h1, h2, h3⟩ := hb (by have := h.le; omega)
  exact ⟨b, by rw [hv, h1], h2, h3, hrow⟩
theorem Sl.came {tg : Nat → Nat} {w : World} {r z : Nat} {v : Value} {n cap : Nat} {f : Nat → Value} (h : Sl tg w r z v n cap f) : ∃ ao b, v = .slice ao n cap ∧ (0 < cap → ao = some ⟨b, 0, none⟩ ∧ b < w.heap.size ∧ tg b = r) ∧ Row w b (cap * z) f ∧ Came w z ao b 0 n cap ((List.range (n * z)).map f) := by
  obtain ⟨ao, b, hv, hb, hrow⟩ := h.is
  have hle := Nat.mul_le_mul_right z h.le
  refine ⟨ao, b, hv, hb, hrow, h.le, fun h0 => (hb h0).1, fun h0 => (hb h0).2.1, by simp, fun j u hu => ?_, fun j hj => ?_⟩
  · rw [List.getElem?_map] at hu
    cases hq : (List.range (n * z))[j]? with
    | none => rw [hq] at hu; simp at hu
    | some q =>
      rw [hq] at hu
      obtain ⟨h1, h2⟩ := List.getElem?_eq_some_iff.1 hq
      simp at h1 h2 hu
      subst h2
      rw [Nat.zero_add, (hrow j (by omega)).1, hu]
  · rw [Nat.sub_mul] at hj
    have := hrow (n * z + j) (by omega)
    rw [Nat.zero_add]
    exact ⟨by rw [this.1]; rfl, this.2⟩

/-- What append asks of the types. -/
def Elem (t e : TypeId) (z : Nat) : Prop := Yba.prog.underlying t = some (.slice e) ∧ ∃ i zv, Yba.prog.info? e = some i ∧ i.zero = some zv ∧ i.size = z ∧ zv.cells.size = z ∧ i.bytes ≤ 1000
theorem elem_of {t e : TypeId} {z : Nat} (h : Yba.prog.underlying t = some (.slice e)) (k : ((Yba.prog.info? e).any fun i => decide (i.size = z ∧ i.bytes ≤ 1000) && i.zero.any fun v => v.cells.size == z) = true) : Elem t e z := by
  refine ⟨h, ?_⟩
  cases hq : Yba.prog.info? e with
  | none => rw [hq] at k; simp at k
  | some i =>
    rw [hq] at k
    simp at k
    obtain ⟨⟨h1, h2⟩, h3⟩ := k
    cases hz : i.zero with
    | none => rw [hz] at h3; simp at h3
    | some zv =>
      rw [hz] at h3
      exact ⟨i, zv, rfl, hz, h1, by simpa using h3, h2⟩
theorem elem63 : Elem 63 80 2 := elem_of Yba.underlying63 (by kernel_rfl)
theorem elem123 : Elem 123 96 3 := elem_of Yba.underlying123 (by kernel_rfl)
theorem elem43 : Elem 43 123 1 := elem_of Yba.underlying43 (by kernel_rfl)
theorem elem46 : Elem 46 63 1 := elem_of Yba.underlying46 (by kernel_rfl)
theorem elem89 : Elem 89 72 4 := elem_of Yba.underlying89 (by kernel_rfl)
theorem elem57 : Elem 57 89 1 := elem_of Yba.underlying57 (by kernel_rfl)

/-- The cells behind an append. -/
def appF (f : Nat → Value) (a : Nat) (news : List Value) : Nat → Value := fun i => if a ≤ i then (news[i - a]?).getD (f i) else f i

/-- append, both ways. -/
theorem Sl.append {tg : Nat → Nat} {w : World} {r z : Nat} {v : Value} {n cap : Nat} {f : Nat → Value} (h : Sl tg w r z v n cap f) {t e : TypeId} (he : Elem t e z) (ty : TypeId) (hz : 0 < z) (x : Value) (m : Nat) (news : List Value) (hs : Src Yba.prog z t x m news w) (hm : n + m ≤ 1000000000) :
    ∃ v' w' tg' cap' f', (Builtin.append_ #[t, t] ty #[v, x]).run Yba.prog w = .ok v' w' ∧ Sl tg' w' r z v' (n + m) cap' f' ∧ (∀ i, i < n * z → f' i = f i) ∧ (∀ j u, news[j]? = some u → f' (n * z + j) = u) ∧ Fr (· = r) tg w tg' w' ∧
      (n + m ≤ cap → v' = (match v with | .slice ao _ c => .slice ao (n + m) c | _ => v) ∧ w'.heap.size = w.heap.size ∧ tg' = tg ∧ cap' = cap) ∧
      (cap = 0 → 0 < m → (∃ g, v' = .slice (some ⟨g, 0, none⟩) (n + m) cap' ∧ w.heap.size ≤ g) ∧ ∀ j, j < w.heap.size → w'.heap[j]? = w.heap[j]?) := by
  obtain ⟨ao, b, rfl, hb, hrow, hc⟩ := h.came
  obtain ⟨hu, i, zv, hi, hz0, hz1, hz2, hby⟩ := he
  have hb2 : (n + 0 + m) * i.bytes ≤ 140737488355328 := by
    have : (n + 0 + m) * i.bytes ≤ 1000000000 * 1000 := Nat.mul_le_mul (by omega) hby
    omega
  obtain ⟨v', w', hrun, hU⟩ := run_append_upon (P := Yba.prog) hc t t ty i zv i.bytes hu hi hz0 hz1 rfl hz2 (Upon.start hc) x m news hs (by unfold maxLen; omega) hb2
  rw [Nat.zero_add, List.nil_append] at hU
  have hnl : news.length = m * z := hU.ksLen
  have hsz := hU.kept.size
  have hblk : ∀ j, j < w.heap.size → (j ≠ b ∨ cap = 0) → w'.heap[j]? = w.heap[j]? := fun j hj hne => hU.kept.block hj (by
    rintro p ⟨t, ht, rfl⟩ e
    have := hU.capPos ht
    rcases hne with hne | hne
    · exact hne e.symm
    · omega)
  have hfr : Fr (· = r) tg w tg w' := ⟨hU.kept.1, hU.kept.2.1, hsz, fun _ _ => rfl, fun j hj hr => hblk j hj (by
    rcases Nat.eq_zero_or_pos cap with h0 | h0
    · exact Or.inr h0
    · refine Or.inl ?_
      rintro rfl
      exact hr (hb h0).2.2)⟩
  rcases hU.val with ⟨hle, rfl, hr⟩ | ⟨hgt, g, c', rfl, hO⟩
  · refine ⟨_, w', tg, cap, appF f (n * z) news, hrun, ⟨⟨ao, b, rfl, fun h0 => ⟨(hb h0).1, Nat.lt_of_lt_of_le (hb h0).2.1 hsz, (hb h0).2.2⟩, ?_⟩, hle, h.max⟩, fun i hi => if_neg (by omega), fun j u hu => ?_, hfr, fun _ => ⟨rfl, ?_, rfl, rfl⟩, fun h0 hm0 => by omega⟩
    · intro j hj
      have hcap : 0 < cap := by
        rcases Nat.eq_zero_or_pos cap with h0 | h0
        · subst h0; omega
        · exact h0
      refine ⟨?_, ((hU.frozen ⟨b, j, none⟩ (hb hcap).2.1).trans (hrow j hj).2)⟩
      unfold appF
      by_cases hj1 : n * z ≤ j
      · rw [if_pos hj1]
        by_cases hj2 : j - n * z < news.length
        · have := hU.written (j - n * z) (by omega)
          rw [Nat.zero_add, show n * z + (j - n * z) = j by omega] at this
          rw [this, List.getElem?_eq_getElem hj2]
          rfl
        · rw [List.getElem?_eq_none (by omega), hU.old (hb hcap).2.1 (by
            rintro t ht ⟨_, e2⟩
            omega)]
          exact (hrow j hj).1
      · rw [if_neg hj1, hU.old (hb hcap).2.1 (by
            rintro t ht ⟨_, e2⟩
            omega)]
        exact (hrow j hj).1
    · unfold appF
      rw [if_pos (by omega), show n * z + j - n * z = j by omega, hu]
      rfl
    · rcases Nat.eq_zero_or_pos m with h0 | h0
      · subst h0
        have h1 := run_append_nothing w t t ty e i hu hi ao n cap h.le x (by
          have : news = [] := List.eq_nil_of_length_eq_zero (by omega)
          subst this
          rw [hz1]
          exact hs)
        rw [h1] at hrun
        cases hrun
        rfl
      · have hcap : 0 < cap := by omega
        have h1 := run_append_room_src w t t ty e i hu hi b 0 n cap x m news (by rw [hz1]; exact hs) hle (fun j hj => by
          have := Nat.mul_le_mul_right z hle
          rw [Nat.add_mul] at this
          rw [hz1, Nat.zero_add, (hrow (n * z + j) (by omega)).1]; rfl) (fun j hj => by
          have := Nat.mul_le_mul_right z hle
          rw [Nat.add_mul] at this
          rw [hz1, Nat.zero_add]; exact (hrow (n * z + j) (by omega)).2)
        rw [(hb hcap).1] at hrun
        rw [h1] at hrun
        cases hrun
        exact size_setCells' _ _ _ _
  · have hpos : 0 < c' * z := Nat.mul_pos (by have := hO.le; omega) hz
    have hg : g < w'.heap.size := World.block_lt_of_cell? _ _ (Option.isSome_iff_exists.1 (hO.there 0 hpos).1).choose_spec
    have hNle : (n + m) * z ≤ c' * z := Nat.mul_le_mul_right z hO.le
    rw [Nat.add_mul] at hNle
    refine ⟨_, w', tagAt tg g r, c', fun i => ((w'.cell? ⟨g, i, none⟩).getD (.bool true)), hrun, ⟨⟨_, g, rfl, fun h0 => ⟨rfl, hg, tagAt_same ..⟩, ?_⟩, hO.le, hO.max⟩, fun i hi => ?_, fun j u hu => ?_, hfr.retag g r hO.new, fun hle => by omega, fun h0 hm0 => ⟨⟨g, rfl, hO.new⟩, fun j hj => hblk j hj (.inr h0)⟩⟩
    · intro j hj
      obtain ⟨h1, h2⟩ := hO.there j hj
      obtain ⟨u, hu⟩ := Option.isSome_iff_exists.1 h1
      exact ⟨by show _ = some ((w'.cell? ⟨g, j, none⟩).getD _); rw [hu]; rfl, h2⟩
    · show (w'.cell? ⟨g, i, none⟩).getD _ = _
      rw [hO.holds i (by rw [Nat.add_mul]; omega), List.getElem?_append_left (by simpa using hi)]
      simp [hi]
    · show (w'.cell? ⟨g, n * z + j, none⟩).getD _ = _
      have hj := (List.getElem?_eq_some_iff.1 hu).1
      rw [hO.holds (n * z + j) (by rw [Nat.add_mul]; omega), List.getElem?_append_right (by simp), List.length_map, List.length_range, Nat.add_sub_cancel_left, hu]
      rfl
/-- make. -/
theorem mk_any {t e : TypeId} {z : Nat} (he : Elem t e z) (n cap : Nat) (hn : n ≤ cap) (hcap : cap ≤ 1000000000) :
    ∃ cs : Array Value, ∃ f : Nat → Value, cs.size = cap * z ∧ (∀ i, i < cap * z → cs[i]? = some (f i)) ∧ ∀ w, (Instr.makeSlice t (.int .i64 (n : Int)) (.int .i64 (cap : Int))).run Yba.prog w = .ok (.slice (some ⟨w.heap.size, 0, none⟩) n cap) (w.alloc (.cells cs e)) := by
  obtain ⟨hu, i, zv, hi, hz0, hz1, hz2, hby⟩ := he
  refine ⟨madeCells zv.cells (cap * z), fun i => zv.cells[i % zv.cells.size]!, size_madeCells _ _, fun i hi => by simp [madeCells, hi], fun w => ?_⟩
  have hb : (i.bytes : Int) * (cap : Int) ≤ 281474976710656 := by
    have h : i.bytes * cap ≤ 1000 * 1000000000 := Nat.mul_le_mul hby hcap
    have h2 : ((i.bytes * cap : Nat) : Int) ≤ 281474976710656 := by omega
    rwa [Int.natCast_mul] at h2
  have hr := run_make (P := Yba.prog) w t e i zv hu hi hz0 .i64 .i64 n cap (by omega) (by omega) hb (by omega)
  simp only [Int.toNat_natCast, hz1] at hr
  exact hr
/-- A type whose cells are u32. -/
def Zero32 (t e : TypeId) (z : Nat) : Prop := Yba.prog.underlying t = some (.slice e) ∧ ∃ i zv, Yba.prog.info? e = some i ∧ i.zero = some zv ∧ i.size = z ∧ zv.cells = Array.replicate z (.int .u32 0) ∧ i.bytes ≤ 1000
theorem zero_of {t e : TypeId} {z : Nat} (h : Yba.prog.underlying t = some (.slice e)) (k : ((Yba.prog.info? e).map fun i => (i.size, i.bytes)) = some (z, 4 * z)) (hz : z ≤ 100) (k2 : ((Yba.prog.info? e).bind fun i => i.zero.map fun v => v.cells) = some (Array.replicate z (.int .u32 0))) : Zero32 t e z := by
  refine ⟨h, ?_⟩
  cases hq : Yba.prog.info? e with
  | none => rw [hq] at k; simp at k
  | some i =>
    rw [hq] at k k2
    simp at k k2
    obtain ⟨zv, h1, h2⟩ := k2
    exact ⟨i, zv, rfl, h1, k.1, h2, by omega⟩
theorem zero63 : Zero32 63 80 2 := zero_of Yba.underlying63 (by kernel_rfl) (by omega) (by kernel_rfl)
theorem zero123 : Zero32 123 96 3 := zero_of Yba.underlying123 (by kernel_rfl) (by omega) (by kernel_rfl)
theorem zero42 : Zero32 42 83 4 := zero_of Yba.underlying42 (by kernel_rfl) (by omega) (by kernel_rfl)
theorem zero49 : Zero32 49 139 2 := zero_of Yba.underlying49 (by kernel_rfl) (by omega) (by kernel_rfl)
theorem Zero32.elem {t e : TypeId} {z : Nat} (h : Zero32 t e z) : Elem t e z := by
  obtain ⟨hu, i, zv, hi, hz0, hz1, hz2, hby⟩ := h
  exact ⟨hu, i, zv, hi, hz0, hz1, by rw [hz2]; simp, hby⟩
/-- make of u32 cells. -/
theorem mk_zero {t e : TypeId} {z : Nat} (he : Zero32 t e z) (hz : 0 < z) (n cap : Nat) (hn : n ≤ cap) (hcap : cap ≤ 1000000000) :
    ∃ cs : Array Value, cs.size = cap * z ∧ (∀ i, i < cap * z → cs[i]? = some (.int .u32 0)) ∧ ∀ w, (Instr.makeSlice t (.int .i64 (n : Int)) (.int .i64 (cap : Int))).run Yba.prog w = .ok (.slice (some ⟨w.heap.size, 0, none⟩) n cap) (w.alloc (.cells cs e)) := by
  obtain ⟨hu, i, zv, hi, hz0, hz1, hz2, hby⟩ := he
  refine ⟨madeCells zv.cells (cap * z), size_madeCells _ _, fun i hi => ?_, fun w => ?_⟩
  · have : i % z < z := Nat.mod_lt _ hz
    simp [madeCells, hi, hz2, this]
  · have hb : (i.bytes : Int) * (cap : Int) ≤ 281474976710656 := by
      have h : i.bytes * cap ≤ 1000 * 1000000000 := Nat.mul_le_mul hby hcap
      have h2 : ((i.bytes * cap : Nat) : Int) ≤ 281474976710656 := by omega
      rwa [Int.natCast_mul] at h2
    have hr := run_make (P := Yba.prog) w t e i zv hu hi hz0 .i64 .i64 n cap (by omega) (by omega) hb (by omega)
    simp only [Int.toNat_natCast, hz1] at hr
    exact hr
end Go.Proofs.Ybulkakra

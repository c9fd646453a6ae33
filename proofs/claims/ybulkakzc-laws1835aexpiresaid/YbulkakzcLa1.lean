/-
  THE LAW OF EXPIRING (seat b1835a): the first loop's books.
-/
import Derived.Test.YbulkakzcExp2
namespace Go.Proofs.Ybulkakzc
open Go.RowKit
set_option linter.unusedSimpArgs false

/-- Sums of the first numbers. -/
def acc (F : Nat → Int) : Nat → Int
  | 0 => 0
  | n + 1 => acc F n + F n
theorem acc_bound {F : Nat → Int} {n : Nat} (h : ∀ i, i < n → 0 ≤ F i ∧ F i < 256) : ∀ i, i ≤ n → 0 ≤ acc F i ∧ acc F i ≤ 255 * (i : Int)
  | 0, _ => ⟨Int.le_refl _, by simp [acc]⟩
  | i + 1, hi => by
    have h1 := acc_bound h i (by omega)
    have h2 := h i (by omega)
    simp only [acc]
    omega

def fk (j : Nat) : K := ⟨0, 0, 1048576 + (j : Int)⟩
def fks (n : Nat) : List K := (List.range n).map fk
theorem fks_succ (n : Nat) : fks (n + 1) = fks n ++ [fk n] := by simp [fks, List.range_succ]
theorem fks_length (n : Nat) : (fks n).length = n := by simp [fks]
theorem fks_new (n : Nat) : fk n ∉ fks n := by
  intro h
  obtain ⟨j, hj, he⟩ := List.mem_map.1 h
  have hj' := List.mem_range.1 hj
  have := congrArg K.i he
  simp only [fk] at this
  omega

/-- What the first loop has laid: r of the seconds, the abandonments fl. -/
structure L1 (w0 w : World) (rb pm am tb fb : Nat) (tmo mp now : Int) (n : Nat) (F : Nat → Int) (r : Nat) (al : List En) (fl : List Fq) : Prop where
  same : Same w0 w
  rs : ∃ C, RS w rb pm am C tmo mp 0 now 0 0 [] al [] (fgs fl)
  aperm : (keysOf al).Perm (fl.map (·.k))
  keys : fl.map (·.k) = fks fl.length
  ats : ∀ j x, fl[j]? = some x → x.aw = 0 ∧ x.ae = acc F (j + 1)
  base : w.heap[tb]? = some (.cells (tm 0) 34 (0, 0))
  row : w.rowIs fb 2 n (fun j => .int .i64 (if j < r then acc F (j + 1) else 0))
  l1 : w0.heap.size ≤ rb
  l2 : w0.heap.size ≤ pm
  l3 : w0.heap.size ≤ am
  l4 : w0.heap.size ≤ fb
  l5 : ∀ b ∈ blks (fgs fl), w0.heap.size ≤ b

section
variable {w0 w w' : World} {rb pm am tb fb : Nat} {tmo mp now : Int} {n : Nat} {F : Nat → Int} {r : Nat} {al : List En} {fl : List Fq}
theorem ne_rowT {b : Nat} {c : Array Value} {T : TypeId} {t : TypeId} {m : Nat} {f : Nat → Value} {d : Nat} (h1 : w.heap[b]? = some (.cells c T (0, 0))) (h2 : w.rowIs d t m f) (ht : t ≠ T) : b ≠ d := ne_cells_row h1 h2 ht
theorem L1.apart (h : L1 w0 w rb pm am tb fb tmo mp now n F r al fl) : fb ≠ rb ∧ fb ≠ pm ∧ fb ≠ am ∧ fb ∉ blks (fgs fl) ∧ tb ≠ rb ∧ tb ≠ pm ∧ tb ≠ am ∧ tb ∉ blks (fgs fl) ∧ tb ≠ fb := by
  obtain ⟨C, hR⟩ := h.rs
  obtain ⟨c, hc, _, _⟩ := h.row
  obtain ⟨r1, r2, r3, r4, r5⟩ := hR.apart (by decide) (by decide) hc
  obtain ⟨s1, s2, s3, s4, s5⟩ := hR.apart (by decide) (by decide) h.base
  exact ⟨r1, r2, r3, r5, s1, s2, s3, s5, ne_cells_row h.base h.row (by decide)⟩
theorem L1.move (h : L1 w0 w rb pm am tb fb tmo mp now n F r al fl) (hS : Same w w') : L1 w0 w' rb pm am tb fb tmo mp now n F r al fl := by
  obtain ⟨C, hR⟩ := h.rs
  exact ⟨h.same.trans hS, ⟨C, hR.same hS⟩, h.aperm, h.keys, h.ats, (hS.block _ (lt_of_block h.base)).trans h.base, h.row.of_block (hS.block _ h.row.lt), h.l1, h.l2, h.l3, h.l4, h.l5⟩
/-- One second more is laid. -/
theorem L1.sec (h : L1 w0 w rb pm am tb fb tmo mp now n F r al fl) : L1 w0 (w.setCell ⟨fb, r, none⟩ (.int .i64 (acc F (r + 1)))) rb pm am tb fb tmo mp now n F (r + 1) al fl := by
  obtain ⟨C, hR⟩ := h.rs
  obtain ⟨a1, a2, a3, a4, a5, a6, a7, a8, a9⟩ := h.apart
  have hl := h.l4
  refine ⟨⟨h.same.os, h.same.output, by rw [World.size_setCell]; exact h.same.size, fun j hj => (heap_set_other _ _ _ (by omega)).trans (h.same.block j hj)⟩,
    ⟨C, hR.congr (heap_set_other _ _ _ (Ne.symm a1)) (heap_set_other _ _ _ (Ne.symm a2)) (heap_set_other _ _ _ (Ne.symm a3)) (fun b hb => by simp [blks] at hb) (fun b hb => heap_set_other _ _ _ (fun e => a4 (e ▸ hb)))⟩,
    h.aperm, h.keys, h.ats, (heap_set_other _ _ _ a9).trans h.base, (h.row.set r _).congr (fun i _ => ?_), h.l1, h.l2, h.l3, h.l4, h.l5⟩
  by_cases h1 : i = r
  · subst h1
    simp
  · rw [if_neg h1]
    by_cases h2 : i < r
    · rw [if_pos h2, if_pos (by omega)]
    · rw [if_neg h2, if_neg (by omega)]

/-- What the statement reads that fills the list. -/
def S19 (rb am tb kb : Nat) (i : Nat) (w' : World) : Prop :=
  w'.cell? ⟨rb, 17, none⟩ = some (.map (some am)) ∧ w'.cell? ⟨tb, 0, none⟩ = some (.int .u64 0) ∧ w'.cell? ⟨tb, 1, none⟩ = some (.int .i64 0) ∧ w'.cell? ⟨tb, 2, none⟩ = some (.pointer none) ∧
    w'.cell? ⟨kb, 0, none⟩ = some (.int .u64 0) ∧ w'.cell? ⟨kb, 1, none⟩ = some (.int .u64 0) ∧ w'.cell? ⟨kb, 2, none⟩ = some (.pointer none) ∧ w'.cell? ⟨kb, 3, none⟩ = some (.int .u16 0) ∧ w'.cell? ⟨kb, 4, none⟩ = some (.int .u64 0) ∧ w'.cell? ⟨kb, 5, none⟩ = some (.int .u64 0) ∧ w'.cell? ⟨kb, 6, none⟩ = some (.pointer none) ∧ w'.cell? ⟨kb, 7, none⟩ = some (.int .u16 0) ∧ w'.cell? ⟨kb, 8, none⟩ = some (.int .u32 (1048576 + (i : Int)))
theorem s19_of {kb i : Nat} (h1 : w.cell? ⟨rb, 17, none⟩ = some (.map (some am))) (h2 : w.heap[tb]? = some (.cells (tm 0) 34 (0, 0))) (h3 : w.heap[kb]? = some (.cells (kc (fk i)).toArray 60 (0, 0))) : S19 rb am tb kb i w :=
  ⟨h1, cell_of_heap h2 0 _ rfl, cell_of_heap h2 1 _ rfl, cell_of_heap h2 2 _ rfl, cell_of_heap h3 0 _ rfl, cell_of_heap h3 1 _ rfl, cell_of_heap h3 2 _ rfl, cell_of_heap h3 3 _ rfl, cell_of_heap h3 4 _ rfl, cell_of_heap h3 5 _ rfl, cell_of_heap h3 6 _ rfl, cell_of_heap h3 7 _ rfl, cell_of_heap h3 8 _ rfl⟩

theorem fill_push (h : L1 w0 w rb pm am tb fb tmo mp now n F r al fl) (kb : Nat) (hk : w.heap[kb]? = some (.cells (kc (fk fl.length)).toArray 60 (0, 0))) (hn : fl.length < 2000) :
    Calls Yba.prog 7 #[P2 rb 18, av (fk fl.length) 0 (acc F (fl.length + 1))] w fun e w6 => ∃ w7, e = .returned (P2 w.heap.size 0) ∧ (∀ N, (Instr.mapUpdate 43 (.map (some am)) (kv (fk fl.length)) (P2 w.heap.size 0)).run Yba.prog (w6.drewN N) = .ok () (w7.drewN N)) ∧
      S19 rb am tb kb fl.length w6 ∧ S19 rb am tb kb fl.length w7 ∧ ∃ al' nb, L1 w0 w7 rb pm am tb fb tmo mp now n F r al' (fl ++ [⟨nb, fk fl.length, 0, acc F (fl.length + 1)⟩]) := by
  obtain ⟨C, hR⟩ := h.rs
  obtain ⟨a1, a2, a3, a4, a5, a6, a7, a8, a9⟩ := h.apart
  obtain ⟨k1, k2, k3, k4, k5⟩ := hR.apart (by decide) (by decide) hk
  obtain ⟨ca, ha⟩ := hR.amap
  obtain ⟨cp, hp⟩ := hR.pmap
  have har : am ≠ rb := ne_map_row ha hR.row
  have haf : am ∉ blks (fgs fl) := ne_map_dq ha hR.qf
  have hpr : pm ≠ rb := ne_map_row hp hR.row
  have hpf : pm ∉ blks (fgs fl) := ne_map_dq hp hR.qf
  have za := lt_of_block ha
  have zp := lt_of_block hp
  refine (push_any w rb 18 C (fgs fl) 63 _ (by omega) hR.row hR.qf (by rw [fgs_length]; omega)).mono ?_
  rintro e w6 ⟨rfl, hz6, C6, hr6, hRing6, hC6, hQ6⟩
  have ha6 := (hQ6.block am za har haf).trans ha
  have hnew : fk fl.length ∉ keysOf al := by
    intro hm
    have := (h.aperm.mem_iff).1 hm
    rw [h.keys] at this
    exact fks_new _ this
  obtain ⟨w7, c7, hup, ho7, hb7⟩ := mapPut_run (w := w6) 43 37 Yba.underlying43 ha6 (fk fl.length) (P2 w.heap.size 0)
  have ht6 := (hQ6.block tb (lt_of_block h.base) a5 a8).trans h.base
  have hk6 := (hQ6.block kb (lt_of_block hk) k1 k5).trans hk
  have c17 := (hr6.cell (i := 17) (by omega)).trans (congrArg some ((hC6 17 (by omega) (by omega) (by omega)).trans hR.rc.c17))
  have hr7 : w7.rowIs rb 47 26 C6 := hr6.of_block (ho7.block rb (Ne.symm har))
  have c17' := (hr7.cell (i := 17) (by omega)).trans (congrArg some ((hC6 17 (by omega) (by omega) (by omega)).trans hR.rc.c17))
  have ht7 := (ho7.block tb a7).trans ht6
  have hk7 := (ho7.block kb k3).trans hk6
  have hfg : fgs (fl ++ [⟨w.heap.size, fk fl.length, 0, acc F (fl.length + 1)⟩]) = fgs fl ++ [(w.heap.size, av (fk fl.length) 0 (acc F (fl.length + 1)))] := by simp [fgs]
  refine ⟨w7, rfl, hup, s19_of c17 ht6 hk6, s19_of c17' ht7 hk7, put (fk fl.length) (P2 w.heap.size 0) ca al, w.heap.size, ?_⟩
  have hsz : w7.heap.size = w.heap.size + 1 := by rw [ho7.size, hz6]
  have hw0 := h.same.size
  refine ⟨⟨ho7.os.trans (hQ6.os.trans h.same.os), ho7.output.trans (hQ6.output.trans h.same.output), by omega, fun j hj => ?_⟩, ⟨C6, hr7, hR.rc.of (Or.inr rfl) hC6, ⟨cp, ?_⟩, ⟨c7, hb7⟩, ?_, ?_, ?_, hR.mm⟩, ?_, ?_, ?_, ht7, ?_, h.l1, h.l2, h.l3, h.l4, ?_⟩
  · have l1 := h.l1
    have l3 := h.l3
    refine ((ho7.block j (by omega)).trans (hQ6.block j (by omega) (by omega) (fun hb => ?_))).trans (h.same.block j hj)
    have := h.l5 j hb
    omega
  · exact ((ho7.block pm hR.mm).trans (hQ6.block pm zp hpr hpf)).trans hp
  · refine hR.qs.congr (fun b hb => by simp [sts, blks] at hb) (hC6 11 (by omega) (by omega) (by omega)) (hC6 12 (by omega) (by omega) (by omega)) (hC6 15 (by omega) (by omega) (by omega))
  · rw [hfg]
    refine Or.inr ⟨hRing6.chain.congr fun b hb => ho7.block b ?_, hRing6.hd, hRing6.tl, hRing6.len, hRing6.nd, hRing6.ne⟩
    intro e
    subst e
    have hD : DQ w6 rb 18 C6 (fgs fl ++ [(w.heap.size, av (fk fl.length) 0 (acc F (fl.length + 1)))]) := Or.inr hRing6
    exact ne_map_dq ha6 hD hb
  · intro b hb
    simp [blks] at hb
  · rw [keysOf_put, kput_new hnew, List.map_append]
    exact h.aperm.append (List.Perm.refl _)
  · rw [List.map_append, h.keys, List.length_append, List.length_cons, List.length_nil, Nat.zero_add, fks_succ]
    rfl
  · intro j x hx
    rw [List.getElem?_append] at hx
    split at hx
    · exact h.ats j x hx
    · rename_i hj
      have hj0 : j - fl.length = 0 := by
        have := (List.getElem?_eq_some_iff.1 hx).1
        simp at this
        omega
      rw [hj0] at hx
      simp at hx
      subst hx
      have : j = fl.length := by omega
      rw [this]
      exact ⟨rfl, rfl⟩
  · exact (h.row.of_block (hQ6.block fb h.row.lt a1 a4)).of_block (ho7.block fb a3)
  · intro b hb
    rw [hfg] at hb
    simp only [blks, List.map_append, List.map_cons, List.map_nil, List.mem_append, List.mem_singleton] at hb
    rcases hb with hb | hb
    · exact h.l5 b hb
    · omega
end
end Go.Proofs.Ybulkakzc

/-
  THE LAW OF ABANDONING (seat b1835a): what a round holds, and how each step keeps it.
-/
import Derived.Test.YbulkakzcListok
namespace Go.Proofs.Ybulkakzc
open Go.RowKit
set_option linter.unusedSimpArgs false

/-- m[k] = v, the entries written out. -/
theorem mapPut_run {w : World} (M e : TypeId) (hM : Yba.prog.underlying M = some (.map 60 e)) {r : Nat} {l : List En} {c : Nat} (hb : w.heap[r]? = some (.map (ents l) c)) (k : K) (v : Value) :
    ∃ w' c', (∀ n, (Instr.mapUpdate M (.map (some r)) (kv k) v).run Yba.prog (w.drewN n) = .ok () (w'.drewN n)) ∧ OnlyB r w w' ∧ w'.heap[r]? = some (.map (ents (put k v c l)) c') := by
  cases hf : fnd k l 0 with
  | none =>
    obtain ⟨w', h0, h1, h2, h3⟩ := setObj_only hb (.map ((ents l).push { key := kv k, val := v, born := c }) (c + 1))
    obtain ⟨g1, g2, g3⟩ := fnd_none k v c l 0 hf
    refine ⟨w', c + 1, fun n => ?_, h1, ?_⟩
    · have hg := MapKept.run_getObj_map (P := Yba.prog) (w := w.drewN n) hb
      have hfk := findKey_run (w.drewN n) k l
      rw [hf] at hfk
      simp only [Instr.mapUpdate, Sem.run_bind, run_underlying hM, Result.andThen_ok, hg, check60, ents, hfk]
      exact h3 n
    · rw [h2, g2]; simp [ents, En.raw]
  | some p =>
    obtain ⟨m, u⟩ := p
    obtain ⟨g1, g2, g3, g4, g5, g6⟩ := fnd_some k v c l 0 m u hf
    simp only [Nat.sub_zero] at g3 g4 g5 g6
    obtain ⟨w', h0, h1, h2, h3⟩ := setObj_only hb (.map ((ents l).modify m fun e => { e with key := kv k, val := v }) c)
    refine ⟨w', c, fun n => ?_, h1, ?_⟩
    · have hg := MapKept.run_getObj_map (P := Yba.prog) (w := w.drewN n) hb
      have hfk := findKey_run (w.drewN n) k l
      rw [hf] at hfk
      have hold : (((ents l)[m]?).map (·.key)).getD (kv k) = kv k := by
        have : (ents l)[m]? = (l.map En.raw)[m]? := by simp [ents]
        rw [this, g6]; rfl
      simp only [Instr.mapUpdate, Sem.run_bind, run_underlying hM, Result.andThen_ok, hg, check60]
      have hfk' : (Instr.findKey 60 (kv k) (ents l).toList).run Yba.prog (w.drewN n) = .ok (some (m, u)) (w.drewN n) := by simpa [ents] using hfk
      rw [hfk']
      simp only [Result.andThen_ok, Sem.run_bind, hold, Instr.keyThatStays, sameBits_kv, if_true, Sem.run_pure]
      exact h3 n
    · rw [h2]
      have : ents (put k v c l) = (ents l).modify m (fun e => { e with key := kv k, val := v }) := by
        unfold ents
        rw [g3]
        simp
      rw [this]

/-- Every entry holds true. -/
def AllT (l : List En) : Prop := ∀ e ∈ l, e.v = .bool true
theorem AllT.dele {k : K} : ∀ {l : List En}, AllT l → AllT (dele k l)
  | [], _ => fun e he => by simp [Ybulkakzc.dele] at he
  | x :: l, h => by
    intro e he
    simp only [Ybulkakzc.dele] at he
    split at he
    · exact h e (List.mem_cons_of_mem _ he)
    · rcases List.mem_cons.1 he with rfl | he
      · exact h _ List.mem_cons_self
      · exact AllT.dele (l := l) (fun e he => h e (List.mem_cons_of_mem _ he)) e he
theorem AllT.put {k : K} {c : Nat} : ∀ {l : List En}, AllT l → AllT (put k (.bool true) c l)
  | [], _ => fun e he => by
    simp [Ybulkakzc.put] at he
    subst he
    rfl
  | x :: l, h => by
    intro e he
    simp only [Ybulkakzc.put] at he
    split at he
    · rcases List.mem_cons.1 he with rfl | he
      · rfl
      · exact h e (List.mem_cons_of_mem _ he)
    · rcases List.mem_cons.1 he with rfl | he
      · exact h _ List.mem_cons_self
      · exact AllT.put (l := l) (fun e he => h e (List.mem_cons_of_mem _ he)) e he
theorem AllT.get {k : K} : ∀ {l : List En}, AllT l → (Ybulkakzc.get k l).getD (.bool false) = .bool (Ybulkakzc.get k l).isSome
  | [], _ => rfl
  | x :: l, h => by
    simp only [Ybulkakzc.get]
    split
    · simp [h x List.mem_cons_self]
    · exact AllT.get (l := l) (fun e he => h e (List.mem_cons_of_mem _ he))

theorem RS.congr {w w' : World} {rb pm am : Nat} {C : Nat → Value} {tmo mp nw ne held pk : Int} {pl al : List En} {st fg : List (Nat × Value)} (h : RS w rb pm am C tmo mp nw ne held pk pl al st fg)
    (h1 : w'.heap[rb]? = w.heap[rb]?) (h2 : w'.heap[pm]? = w.heap[pm]?) (h3 : w'.heap[am]? = w.heap[am]?) (h4 : ∀ b ∈ blks st, w'.heap[b]? = w.heap[b]?) (h5 : ∀ b ∈ blks fg, w'.heap[b]? = w.heap[b]?) : RS w' rb pm am C tmo mp nw ne held pk pl al st fg := by
  obtain ⟨cp, hp⟩ := h.pmap
  obtain ⟨ca, ha⟩ := h.amap
  exact ⟨h.row.of_block h1, h.rc, ⟨cp, h2.trans hp⟩, ⟨ca, h3.trans ha⟩, h.qs.congr h4 rfl rfl rfl, h.qf.congr h5 rfl rfl rfl, h.dj, h.mm⟩
theorem RS.same {w w' : World} {rb pm am : Nat} {C : Nat → Value} {tmo mp nw ne held pk : Int} {pl al : List En} {st fg : List (Nat × Value)} (h : RS w rb pm am C tmo mp nw ne held pk pl al st fg) (hS : Same w w') : RS w' rb pm am C tmo mp nw ne held pk pl al st fg := by
  obtain ⟨cp, hp⟩ := h.pmap
  obtain ⟨ca, ha⟩ := h.amap
  exact h.congr (hS.block _ h.row.lt) (hS.block _ (lt_of_block hp)) (hS.block _ (lt_of_block ha)) (fun b hb => hS.block b (h.qs.blks_lt b hb)) (fun b hb => hS.block b (h.qf.blks_lt b hb))

/-- The books of the program and of the law, side by side. -/
structure Core (w0 w : World) (rb pm am mo qb : Nat) (m pk : Int) (al ml : List En) (fl : List Fq) (qv : Value) (l : List K) : Prop where
  old : Same w0 w
  rs : ∃ C, RS w rb pm am C 0 m 0 0 0 pk [] al [] (fgs fl)
  mod : ∃ c, w.heap[mo]? = some (.map (ents ml) c)
  mop : mo ≠ pm
  moa : mo ≠ am
  q : Qs w qv qb l
  q1 : qb ≠ rb
  q2 : qb ≠ pm
  q3 : qb ≠ am
  q4 : qb ≠ mo
  q5 : qb ∉ blks (fgs fl)
  q6 : qb < w.heap.size
  l1 : w0.heap.size ≤ rb
  l2 : w0.heap.size ≤ pm
  l3 : w0.heap.size ≤ am
  l4 : w0.heap.size ≤ mo
  l5 : w0.heap.size ≤ qb
  l6 : ∀ b ∈ blks (fgs fl), w0.heap.size ≤ b

section
variable {w0 w w' : World} {rb pm am mo qb : Nat} {m pk : Int} {al ml : List En} {fl : List Fq} {qv : Value} {l : List K}

theorem Core.same (h : Core w0 w rb pm am mo qb m pk al ml fl qv l) (hS : Same w w') : Core w0 w' rb pm am mo qb m pk al ml fl qv l := by
  obtain ⟨C, hR⟩ := h.rs
  obtain ⟨c, hm⟩ := h.mod
  exact ⟨h.old.trans hS, ⟨C, hR.same hS⟩, ⟨c, (hS.block _ (lt_of_block hm)).trans hm⟩, h.mop, h.moa, h.q.of_block hS.size (hS.block qb), h.q1, h.q2, h.q3, h.q4, h.q5, Nat.lt_of_lt_of_le h.q6 hS.size, h.l1, h.l2, h.l3, h.l4, h.l5, h.l6⟩

/-- The model's map alone turns. -/
theorem Core.model (h : Core w0 w rb pm am mo qb m pk al ml fl qv l) {ml' : List En} {c' : Nat} (ho : OnlyB mo w w') (hm' : w'.heap[mo]? = some (.map (ents ml') c')) : Core w0 w' rb pm am mo qb m pk al ml' fl qv l := by
  obtain ⟨C, hR⟩ := h.rs
  obtain ⟨c, hm⟩ := h.mod
  have hmr : mo ≠ rb := ne_map_row hm hR.row
  have hmf : mo ∉ blks (fgs fl) := ne_map_dq hm hR.qf
  exact ⟨⟨ho.os.trans h.old.os, ho.output.trans h.old.output, by rw [ho.size]; exact h.old.size, fun j hj => (ho.block j (by have := h.l4; omega)).trans (h.old.block j hj)⟩,
    ⟨C, hR.congr (ho.block _ (Ne.symm hmr)) (ho.block _ (Ne.symm h.mop)) (ho.block _ (Ne.symm h.moa)) (fun b hb => by simp [blks] at hb) (fun b hb => ho.block b (fun e => hmf (e ▸ hb)))⟩,
    ⟨c', hm'⟩, h.mop, h.moa, h.q.of_block (by rw [ho.size]; exact Nat.le_refl _) (fun _ => ho.block qb h.q4), h.q1, h.q2, h.q3, h.q4, h.q5, by rw [ho.size]; exact h.q6, h.l1, h.l2, h.l3, h.l4, h.l5, h.l6⟩

/-- The slice alone turns. -/
theorem Core.slice (h : Core w0 w rb pm am mo qb m pk al ml fl qv l) {qv' : Value} {qb' : Nat} {l' : List K} (hq : Qs w' qv' qb' l') (hb' : qb' = qb ∨ w.heap.size ≤ qb') (hlt : qb' < w'.heap.size) (ho : w'.os = w.os) (hu : w'.output = w.output) (hz : w.heap.size ≤ w'.heap.size) (hblk : ∀ j, j < w.heap.size → j ≠ qb → w'.heap[j]? = w.heap[j]?) :
    Core w0 w' rb pm am mo qb' m pk al ml fl qv' l' := by
  obtain ⟨C, hR⟩ := h.rs
  obtain ⟨c, hm⟩ := h.mod
  obtain ⟨cp, hp⟩ := hR.pmap
  obtain ⟨ca, ha⟩ := hR.amap
  have z1 := hR.row.lt
  have z2 := lt_of_block hp
  have z3 := lt_of_block ha
  have z4 := lt_of_block hm
  have z5 := h.l5
  have z6 := h.old.size
  have hn : ∀ x, x < w.heap.size → x ≠ qb → x ≠ qb' := by
    intro x hx hne
    rcases hb' with rfl | hb'
    · exact hne
    · omega
  refine ⟨⟨ho.trans h.old.os, hu.trans h.old.output, Nat.le_trans h.old.size hz, fun j hj => (hblk j (by omega) (by omega)).trans (h.old.block j hj)⟩,
    ⟨C, hR.congr (hblk _ z1 (Ne.symm h.q1)) (hblk _ z2 (Ne.symm h.q2)) (hblk _ z3 (Ne.symm h.q3)) (fun b hb => by simp [blks] at hb) (fun b hb => hblk b (hR.qf.blks_lt b hb) (fun e => h.q5 (e ▸ hb)))⟩,
    ⟨c, (hblk _ z4 (Ne.symm h.q4)).trans hm⟩, h.mop, h.moa, hq, ?_, ?_, ?_, ?_, ?_, hlt, h.l1, h.l2, h.l3, h.l4, ?_, h.l6⟩
  · exact Ne.symm (hn rb z1 (Ne.symm h.q1))
  · exact Ne.symm (hn pm z2 (Ne.symm h.q2))
  · exact Ne.symm (hn am z3 (Ne.symm h.q3))
  · exact Ne.symm (hn mo z4 (Ne.symm h.q4))
  · intro hb
    exact hn qb' (hR.qf.blks_lt _ hb) (fun e => h.q5 (e ▸ hb)) rfl
  · rcases hb' with rfl | hb' <;> omega

/-- The reassembler turns. -/
theorem Core.step (h : Core w0 w rb pm am mo qb m pk al ml fl qv l) {pk' : Int} {al' : List En} {fl' : List Fq} (hr : ∃ C, RS w' rb pm am C 0 m 0 0 0 pk' [] al' [] (fgs fl')) (hsub : ∀ b ∈ blks (fgs fl'), b ∈ blks (fgs fl) ∨ w.heap.size ≤ b)
    (ho : w'.os = w.os) (hu : w'.output = w.output) (hz : w.heap.size ≤ w'.heap.size) (hblk : ∀ j, j < w.heap.size → j ≠ rb → j ≠ pm → j ≠ am → j ∉ blks (fgs fl) → w'.heap[j]? = w.heap[j]?) : Core w0 w' rb pm am mo qb m pk' al' ml fl' qv l := by
  obtain ⟨C, hR⟩ := h.rs
  obtain ⟨c, hm⟩ := h.mod
  have z4 := lt_of_block hm
  have hmr : mo ≠ rb := ne_map_row hm hR.row
  have hmf : mo ∉ blks (fgs fl) := ne_map_dq hm hR.qf
  have z6 := h.old.size
  refine ⟨⟨ho.trans h.old.os, hu.trans h.old.output, Nat.le_trans h.old.size hz, fun j hj => (hblk j (by omega) ?_ ?_ ?_ ?_).trans (h.old.block j hj)⟩, hr, ⟨c, (hblk mo z4 hmr h.mop h.moa hmf).trans hm⟩, h.mop, h.moa, h.q.of_block hz (fun hlt => hblk qb hlt h.q1 h.q2 h.q3 h.q5), h.q1, h.q2, h.q3, h.q4, ?_, Nat.lt_of_lt_of_le h.q6 hz, h.l1, h.l2, h.l3, h.l4, h.l5, ?_⟩
  · have := h.l1; omega
  · have := h.l2; omega
  · have := h.l3; omega
  · intro hb
    have := h.l6 j hb
    omega
  · intro hb
    have := h.q6
    rcases hsub qb hb with h1 | h1
    · exact h.q5 h1
    · omega
  · intro b hb
    rcases hsub b hb with h1 | h1
    · exact h.l6 b h1
    · omega
end
end Go.Proofs.Ybulkakzc

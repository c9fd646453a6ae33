/-
  THE REASSEMBLER of seat b1835a: its state in memory; forget, release, maxPending.
-/
import Derived.Test.YbulkakzcQueue
import Derived.Deep.RegionWith
import Derived.Deep.RegionHeld3
namespace Go.Proofs.Ybulkakzc
open Go.RowKit
set_option linter.unusedSimpArgs false

/-- An abandonment in a list's element. -/
def av (k : K) (nw ne : Int) : Value := .iface 63 (.agg #[.int .u64 0, .int .u64 0, .pointer none, .int .u16 k.s, .int .u64 0, .int .u64 0, .pointer none, .int .u16 k.d, .int .u32 k.i, .int .u64 nw, .int .i64 ne, .pointer none])

/-- The reassembler's block: what its cells hold, but for the two lists. -/
structure RC (C : Nat → Value) (pm am : Nat) (to mp nw ne held pk : Int) : Prop where
  c0 : C 0 = .int .i64 0
  c1 : C 1 = .slice none 0 0
  c2 : C 2 = .bool false
  c3 : C 3 = .int .i64 0
  c4 : C 4 = .int .i64 to
  c5 : C 5 = .int .i64 mp
  c6 : C 6 = .int .i64 0
  c7 : C 7 = .int .u64 nw
  c8 : C 8 = .int .i64 ne
  c9 : C 9 = .pointer none
  c10 : C 10 = .map (some pm)
  c16 : C 16 = .int .i64 held
  c17 : C 17 = .map (some am)
  c25 : C 25 = .int .i64 pk

structure RS (w : World) (rb pm am : Nat) (C : Nat → Value) (to mp nw ne held pk : Int) (pl al : List En) (st fg : List (Nat × Value)) : Prop where
  row : w.rowIs rb 47 26 C
  rc : RC C pm am to mp nw ne held pk
  pmap : ∃ c, w.heap[pm]? = some (.map (ents pl) c)
  amap : ∃ c, w.heap[am]? = some (.map (ents al) c)
  qs : DQ w rb 11 C st
  qf : DQ w rb 18 C fg
  dj : ∀ b ∈ blks st, b ∉ blks fg
  mm : pm ≠ am

/-- A block of cells is no map, and the like: by what stands there. -/
theorem ne_map_row {w : World} {a b : Nat} {es : Array MapEntry} {c n : Nat} {t : TypeId} {f : Nat → Value} (h1 : w.heap[a]? = some (.map es c)) (h2 : w.rowIs b t n f) : a ≠ b := by
  rintro rfl
  obtain ⟨c', h, _⟩ := h2
  rw [h] at h1
  cases h1
theorem ne_map_chain {w : World} {rb lo : Nat} {a : Nat} {es : Array MapEntry} {c : Nat} (h1 : w.heap[a]? = some (.map es c)) : ∀ {pv : Value} {l : List (Nat × Value)}, Chain w rb lo pv l → a ∉ blks l
  | _, [], _ => by simp [blks]
  | _, e :: l, h => by
    simp only [blks, List.map_cons, List.mem_cons, not_or]
    refine ⟨?_, ne_map_chain h1 h.2⟩
    rintro rfl
    have := h.1
    rw [h1] at this
    cases this
theorem ne_map_dq {w : World} {rb lo : Nat} {C : Nat → Value} {a : Nat} {es : Array MapEntry} {c : Nat} {l : List (Nat × Value)} (h1 : w.heap[a]? = some (.map es c)) (h : DQ w rb lo C l) : a ∉ blks l := by
  rcases h with ⟨rfl, _, _⟩ | h
  · simp [blks]
  · exact ne_map_chain h1 h.chain

theorem RS.ringF {w : World} {rb pm am : Nat} {C : Nat → Value} {to mp nw ne held pk : Int} {pl al : List En} {st fg : List (Nat × Value)} {e : Nat × Value} (h : RS w rb pm am C to mp nw ne held pk pl al st (e :: fg)) : Ring w rb 18 C (e :: fg) := by
  rcases h.qf with ⟨h1, _⟩ | h1
  · cases h1
  · exact h1

/-- What a step of the reassembler leaves alone: every old block that is neither its own, nor a map of its own, nor an element of its lists. -/
structure Far (rb pm am : Nat) (bs : List Nat) (w w' : World) : Prop where
  os : w'.os = w.os
  tape : w'.tape = w.tape
  output : w'.output = w.output
  size : w.heap.size ≤ w'.heap.size
  block : ∀ k, k < w.heap.size → k ≠ rb → k ≠ pm → k ≠ am → k ∉ bs → w'.heap[k]? = w.heap[k]?

theorem Ring.drew {w : World} {rb lo : Nat} {C : Nat → Value} {es : List (Nat × Value)} (h : Ring w rb lo C es) : Ring w.drew rb lo C es := ⟨h.chain.congr fun _ _ => rfl, h.hd, h.tl, h.len, h.nd, h.ne⟩

theorem ringF_lt {w : World} {rb lo : Nat} {C : Nat → Value} {e : Nat × Value} {es : List (Nat × Value)} (h : Ring w rb lo C (e :: es)) : ∀ b ∈ blks es, b ≠ e.1 := by
  intro b hb hbe
  have hnd := h.nd
  simp only [blks, List.map_cons, List.nodup_cons] at hnd
  exact hnd.1 (hbe ▸ hb)

theorem assert63 (w : World) (v : Value) : (Instr.typeAssert (.iface 63 v) 20 63 false).run Yba.prog w = .ok v w := by
  simp [Instr.typeAssert, run_underlying Yba.underlying63]
theorem assert63ok (w : World) (v : Value) : (Instr.typeAssert (.iface 63 v) 20 63 true).run Yba.prog w = .ok (.tuple #[v, .bool true]) w := by
  simp [Instr.typeAssert, run_underlying Yba.underlying63]
theorem assert66 (w : World) (v : Value) : (Instr.typeAssert (.iface 66 v) 20 66 false).run Yba.prog w = .ok v w := by
  simp [Instr.typeAssert, run_underlying Yba.underlying66]
theorem assert66ok (w : World) (v : Value) : (Instr.typeAssert (.iface 66 v) 20 66 true).run Yba.prog w = .ok (.tuple #[v, .bool true]) w := by
  simp [Instr.typeAssert, run_underlying Yba.underlying66]

theorem field63 (w : World) (s d i aw ae : Int) : (Instr.field 63 (.agg #[.int .u64 0, .int .u64 0, .pointer none, .int .u16 s, .int .u64 0, .int .u64 0, .pointer none, .int .u16 d, .int .u32 i, .int .u64 aw, .int .i64 ae, .pointer none]) 0).run Yba.prog w =
    .ok (.agg #[.int .u64 0, .int .u64 0, .pointer none, .int .u16 s, .int .u64 0, .int .u64 0, .pointer none, .int .u16 d, .int .u32 i]) w := by kernel_rfl

/-- What forget leaves, out of what Remove and delete leave. -/
theorem forget_post {w w1 w2 : World} {rb pm am : Nat} {C C1 : Nat → Value} {to mp nw ne held pk : Int} {pl al al' : List En} {st fg : List (Nat × Value)} {eb : Nat} {v : Value} {c : Nat}
    (h : RS w rb pm am C to mp nw ne held pk pl al st ((eb, v) :: fg)) (hz1 : w1.heap.size = w.heap.size) (hr1 : w1.rowIs rb 47 26 C1) (hR1 : Ring w1 rb 18 C1 fg) (hC1 : ∀ j, j ≠ 18 → j ≠ 18 + 1 → j ≠ 18 + 4 → C1 j = C j) (hQ1 : QOnly rb (blks ((eb, v) :: fg)) w w1)
    (ho : OnlyB am w1 w2) (hb2 : w2.heap[am]? = some (.map (ents al') c)) :
    (∃ C', RS w2 rb pm am C' to mp nw ne held pk pl al' st fg) ∧ w2.heap.size = w.heap.size ∧ Far rb pm am (eb :: blks fg) w w2 := by
  obtain ⟨cp, hp⟩ := h.pmap
  obtain ⟨ca, ha⟩ := h.amap
  have hpr : pm ≠ rb := ne_map_row hp h.row
  have har : am ≠ rb := ne_map_row ha h.row
  have hpf : pm ∉ blks ((eb, v) :: fg) := ne_map_dq hp h.qf
  have has : am ∉ blks st := ne_map_dq ha h.qs
  have hbl : blks ((eb, v) :: fg) = eb :: blks fg := rfl
  have hr2 : w2.rowIs rb 47 26 C1 := hr1.of_block (ho.block rb (Ne.symm har))
  have hrf := h.ringF
  refine ⟨⟨C1, hr2, ?_, ⟨cp, ?_⟩, ⟨c, hb2⟩, ?_, ?_, ?_, h.mm⟩, by rw [ho.size, hz1], ?_⟩
  · have r := h.rc
    exact ⟨(hC1 0 (by omega) (by omega) (by omega)).trans r.c0, (hC1 1 (by omega) (by omega) (by omega)).trans r.c1, (hC1 2 (by omega) (by omega) (by omega)).trans r.c2, (hC1 3 (by omega) (by omega) (by omega)).trans r.c3, (hC1 4 (by omega) (by omega) (by omega)).trans r.c4, (hC1 5 (by omega) (by omega) (by omega)).trans r.c5, (hC1 6 (by omega) (by omega) (by omega)).trans r.c6, (hC1 7 (by omega) (by omega) (by omega)).trans r.c7, (hC1 8 (by omega) (by omega) (by omega)).trans r.c8, (hC1 9 (by omega) (by omega) (by omega)).trans r.c9, (hC1 10 (by omega) (by omega) (by omega)).trans r.c10, (hC1 16 (by omega) (by omega) (by omega)).trans r.c16, (hC1 17 (by omega) (by omega) (by omega)).trans r.c17, (hC1 25 (by omega) (by omega) (by omega)).trans r.c25⟩
  · exact ((ho.block pm h.mm).trans (hQ1.block pm (lt_of_block hp) hpr hpf)).trans hp
  · refine h.qs.congr (fun b hb => (ho.block b (fun e => has (e ▸ hb))).trans (hQ1.block b (h.qs.blks_lt b hb) ?_ (h.dj b hb))) (hC1 11 (by omega) (by omega) (by omega)) (hC1 12 (by omega) (by omega) (by omega)) (hC1 15 (by omega) (by omega) (by omega))
    rcases h.qs with ⟨rfl, _, _⟩ | hq
    · simp [blks] at hb
    · exact hq.ne b hb
  · refine Or.inr ⟨hR1.chain.congr fun b hb => ho.block b ?_, hR1.hd, hR1.tl, hR1.len, hR1.nd, hR1.ne⟩
    intro e
    exact ne_map_dq ha h.qf (by rw [hbl]; exact List.mem_cons_of_mem _ (e ▸ hb))
  · intro b hb hb'
    exact h.dj b hb (by rw [hbl]; exact List.mem_cons_of_mem _ hb')
  · exact ⟨ho.os.trans hQ1.os, ho.tape.trans hQ1.tape, ho.output.trans hQ1.output, by rw [ho.size, hz1]; exact Nat.le_refl _, fun k hk h1 h2 h3 h4 => (ho.block k h3).trans (hQ1.block k hk h1 (by rw [hbl]; exact h4))⟩

theorem Far.of_drew {rb pm am : Nat} {bs : List Nat} {w w' : World} (h : Far rb pm am bs w.drew w') : Far rb pm am bs w w' := ⟨h.os, h.tape, h.output, h.size, h.block⟩

theorem RS.drew {w : World} {rb pm am : Nat} {C : Nat → Value} {to mp nw ne held pk : Int} {pl al : List En} {st fg : List (Nat × Value)} (h : RS w rb pm am C to mp nw ne held pk pl al st fg) : RS w.drew rb pm am C to mp nw ne held pk pl al st fg :=
  ⟨h.row.drew, h.rc, h.pmap, h.amap, h.qs.congr (fun _ _ => rfl) rfl rfl rfl, h.qf.congr (fun _ _ => rfl) rfl rfl rfl, h.dj, h.mm⟩

set_option maxHeartbeats 1000000 in
set_option maxRecDepth 100000 in
theorem forget_any (w : World) (rb pm am : Nat) (C : Nat → Value) (to mp nw ne held pk : Int) (pl al : List En) (st fg : List (Nat × Value)) (eb : Nat) (k : K) (aw ae : Int)
    (hn : ((eb, av k aw ae) :: fg).length < 1000000) (h : RS w rb pm am C to mp nw ne held pk pl al st ((eb, av k aw ae) :: fg)) :
    Calls Yba.prog 26 #[P2 rb 0, P2 eb 0] w fun e w' => e = .returned (.tuple #[]) ∧ (∃ C', RS w' rb pm am C' to mp nw ne held pk pl (dele k al) st fg) ∧ w'.heap.size = w.heap.size ∧ Far rb pm am (eb :: blks fg) w w' := by
  have c17 := h.row.cell (i := 17) (by omega)
  rw [h.rc.c17] at c17
  obtain ⟨ca, ha⟩ := h.amap
  have hne1 : am ≠ rb := ne_map_row ha h.row
  have hne2 : am ∉ blks ((eb, av k aw ae) :: fg) := ne_map_dq ha h.qf
  have hlt := lt_of_block ha
  have HA : Hid (w.heap[am]? = some (.map (ents al) ca)) := ha
  clear ha
  have ta := assert63
  have tf := field63
  go_enter Yba.func26, Yba.ntmps26
  go_wp2
  go_region_with (first | (go_at_call 36; refine (pop_any _ rb 18 C (eb, av k aw ae) fg (by omega) h.row.drew ?_ hn).mono ?_; exact h.ringF.drew; rintro r w1 ⟨rfl, hz1, C1, hr1, hR1, hC1, hQ1⟩; have k17 := (hr1.cell (i := 17) (by omega)).trans (congrArg some ((hC1 17 (by omega) (by omega) (by omega)).trans h.rc.c17)); obtain ⟨w2, hd, ho2, hb2⟩ := delete_run (w := w1) 43 37 Yba.underlying43 ((hQ1.block am hlt hne1 hne2).trans HA.out) k; have hd0 := fun T => hd T 0; simp only [World.drewN_zero, kv, kc] at hd0; have hfin := forget_post h.drew hz1 hr1 hR1 hC1 hQ1 ho2 hb2; unfold av; clear hd))
  all_goals
    go_wp2
    go_end0
    exact ⟨rfl, hfin.1, hfin.2.1, hfin.2.2.of_drew⟩
end Go.Proofs.Ybulkakzc

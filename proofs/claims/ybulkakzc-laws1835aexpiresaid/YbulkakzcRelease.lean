/-
  THE REASSEMBLER of seat b1835a: release, maxPending.
-/
import Derived.Test.YbulkakzcForget
import Derived.Deep.QuietTactic
import Derived.BigQuiet
namespace Go.Proofs.Ybulkakzc
open Go.RowKit
set_option linter.unusedSimpArgs false

/-- The limit that a decoder sets. -/
def lim (mp : Int) : Int := if mp ≤ 0 then 64 else mp

theorem maxp_any (w : World) (to mp : Int) : Calls Yba.prog 12 #[.agg #[.int .i64 0, .slice none 0 0, .bool false, .int .i64 0, .int .i64 to, .int .i64 mp, .int .i64 0]] w fun e w' => e = .returned (.int .i64 (lim mp)) ∧ ∃ o, w' = w.alloc o := by
  unfold lim
  by_cases h : mp ≤ 0
  · rw [if_pos h]
    go_enter Yba.func12, Yba.ntmps12
    go_wp2
    go_ret
    exact ⟨rfl, _, rfl⟩
  · rw [if_neg h]
    go_enter Yba.func12, Yba.ntmps12
    go_wp2
    go_ret
    exact ⟨rfl, _, rfl⟩

/-- A message's block. -/
def msg (k : K) (fw fe : Int) (stv : Value) (cost frag : Int) (start : Bool) : Array Value :=
  #[.int .u64 0, .int .u64 0, .pointer none, .int .u16 k.s, .int .u64 0, .int .u64 0, .pointer none, .int .u16 k.d, .int .u32 k.i, .int .u64 fw, .int .i64 fe, .pointer none, stv, .int .i64 cost, .slice none 0 0, .int .i64 0, .int .i64 0, .bool false, .int .i64 0, .int .i64 0, .int .i64 frag, .bool start, .bool false]

def Msg (w : World) (mb : Nat) (k : K) (fw fe : Int) (stv : Value) (cost frag : Int) (start : Bool) : Prop := w.heap[mb]? = some (.cells (msg k fw fe stv cost frag start) 71 (0, 0))

theorem release_none (w : World) (rb mb : Nat) (k : K) (fw fe cost frag : Int) (start : Bool) (hm : Msg w mb k fw fe (.pointer none) cost frag start) :
    Calls Yba.prog 27 #[P2 rb 0, P2 mb 0] w fun e w' => e = .returned (.tuple #[]) ∧ w = w' := by
  have c12 : w.cell? ⟨mb, 12, none⟩ = some (.pointer none) := by unfold Msg msg at hm; simp [World.cell?, hm]
  go_enter Yba.func27, Yba.ntmps27
  go_wp2
  refine bodyPost_ret (results_none rfl _ _ _) rfl ?_
  exact ⟨rfl, rfl⟩

theorem ne_msg_row {w : World} {mb b n : Nat} {c : Array Value} {t : TypeId} {f : Nat → Value} (h1 : w.heap[mb]? = some (.cells c 71 (0, 0))) (h2 : w.rowIs b t n f) (ht : t ≠ 71) : mb ≠ b := by
  rintro rfl
  obtain ⟨c', h, _⟩ := h2
  rw [h] at h1
  simp only [Option.some.injEq, Obj.cells.injEq] at h1
  exact ht h1.2.1
theorem ne_msg_chain {w : World} {rb lo mb : Nat} {c : Array Value} (h1 : w.heap[mb]? = some (.cells c 71 (0, 0))) : ∀ {pv : Value} {l : List (Nat × Value)}, Chain w rb lo pv l → mb ∉ blks l
  | _, [], _ => by simp [blks]
  | _, e :: l, h => by
    simp only [blks, List.map_cons, List.mem_cons, not_or]
    refine ⟨?_, ne_msg_chain h1 h.2⟩
    rintro rfl
    have := h.1
    rw [h1] at this
    simp at this
theorem ne_msg_dq {w : World} {rb lo mb : Nat} {C : Nat → Value} {c : Array Value} {l : List (Nat × Value)} (h1 : w.heap[mb]? = some (.cells c 71 (0, 0))) (h : DQ w rb lo C l) : mb ∉ blks l := by
  rcases h with ⟨rfl, _, _⟩ | h
  · simp [blks]
  · exact ne_msg_chain h1 h.chain
theorem ne_msg_map {w : World} {mb a : Nat} {c : Array Value} {es : Array MapEntry} {cl : Nat} (h1 : w.heap[mb]? = some (.cells c 71 (0, 0))) (h2 : w.heap[a]? = some (.map es cl)) : mb ≠ a := by
  rintro rfl
  rw [h1] at h2
  cases h2

theorem RS.ringS {w : World} {rb pm am : Nat} {C : Nat → Value} {to mp nw ne held pk : Int} {pl al : List En} {st fg : List (Nat × Value)} {e : Nat × Value} (h : RS w rb pm am C to mp nw ne held pk pl al (e :: st) fg) : Ring w rb 11 C (e :: st) := by
  rcases h.qs with ⟨h1, _⟩ | h1
  · cases h1
  · exact h1

/-- The content with one of the plain cells turned. -/
theorem RC.held {C : Nat → Value} {pm am : Nat} {to mp nw ne held pk : Int} (r : RC C pm am to mp nw ne held pk) (x : Int) : RC (up1 C 16 (.int .i64 x)) pm am to mp nw ne x pk :=
  ⟨(up1_other _ _ (by omega)).trans r.c0, (up1_other _ _ (by omega)).trans r.c1, (up1_other _ _ (by omega)).trans r.c2, (up1_other _ _ (by omega)).trans r.c3, (up1_other _ _ (by omega)).trans r.c4, (up1_other _ _ (by omega)).trans r.c5, (up1_other _ _ (by omega)).trans r.c6, (up1_other _ _ (by omega)).trans r.c7, (up1_other _ _ (by omega)).trans r.c8, (up1_other _ _ (by omega)).trans r.c9, (up1_other _ _ (by omega)).trans r.c10, up1_same .., (up1_other _ _ (by omega)).trans r.c17, (up1_other _ _ (by omega)).trans r.c25⟩
theorem RC.peak {C : Nat → Value} {pm am : Nat} {to mp nw ne held pk : Int} (r : RC C pm am to mp nw ne held pk) (x : Int) : RC (up1 C 25 (.int .i64 x)) pm am to mp nw ne held x :=
  ⟨(up1_other _ _ (by omega)).trans r.c0, (up1_other _ _ (by omega)).trans r.c1, (up1_other _ _ (by omega)).trans r.c2, (up1_other _ _ (by omega)).trans r.c3, (up1_other _ _ (by omega)).trans r.c4, (up1_other _ _ (by omega)).trans r.c5, (up1_other _ _ (by omega)).trans r.c6, (up1_other _ _ (by omega)).trans r.c7, (up1_other _ _ (by omega)).trans r.c8, (up1_other _ _ (by omega)).trans r.c9, (up1_other _ _ (by omega)).trans r.c10, (up1_other _ _ (by omega)).trans r.c16, (up1_other _ _ (by omega)).trans r.c17, up1_same ..⟩
theorem RC.of {C C' : Nat → Value} {pm am : Nat} {to mp nw ne held pk : Int} (r : RC C pm am to mp nw ne held pk) {lo : Nat} (hlo : lo = 11 ∨ lo = 18) (h : ∀ j, j ≠ lo → j ≠ lo + 1 → j ≠ lo + 4 → C' j = C j) : RC C' pm am to mp nw ne held pk :=
  ⟨(h 0 (by omega) (by omega) (by omega)).trans r.c0, (h 1 (by omega) (by omega) (by omega)).trans r.c1, (h 2 (by omega) (by omega) (by omega)).trans r.c2, (h 3 (by omega) (by omega) (by omega)).trans r.c3, (h 4 (by omega) (by omega) (by omega)).trans r.c4, (h 5 (by omega) (by omega) (by omega)).trans r.c5, (h 6 (by omega) (by omega) (by omega)).trans r.c6, (h 7 (by omega) (by omega) (by omega)).trans r.c7, (h 8 (by omega) (by omega) (by omega)).trans r.c8, (h 9 (by omega) (by omega) (by omega)).trans r.c9, (h 10 (by omega) (by omega) (by omega)).trans r.c10, (h 16 (by omega) (by omega) (by omega)).trans r.c16, (h 17 (by omega) (by omega) (by omega)).trans r.c17, (h 25 (by omega) (by omega) (by omega)).trans r.c25⟩

theorem Far.drew {rb pm am : Nat} {bs : List Nat} {w w' : World} (h : Far rb pm am bs w w') : Far rb pm am bs w w'.drew := ⟨h.os, h.tape, h.output, h.size, h.block⟩

/-- What release leaves, out of what Remove and delete leave. -/
theorem release_post {w w1 w2 : World} {rb pm am : Nat} {C C1 : Nat → Value} {to mp nw ne held pk : Int} {pl pl' al : List En} {st fg : List (Nat × Value)} {eb mb : Nat} {v : Value} {k : K} {fw fe cost frag : Int} {start : Bool} {c : Nat} {stv : Value}
    (h : RS w rb pm am C to mp nw ne held pk pl al ((eb, v) :: st) fg) (hm : Msg w mb k fw fe stv cost frag start) (hz1 : w1.heap.size = w.heap.size) (hr1 : w1.rowIs rb 47 26 C1) (hR1 : Ring w1 rb 11 C1 st) (hC1 : ∀ j, j ≠ 11 → j ≠ 11 + 1 → j ≠ 11 + 4 → C1 j = C j) (hQ1 : QOnly rb (blks ((eb, v) :: st)) w w1)
    (ho : OnlyB pm w1 w2) (hb2 : w2.heap[pm]? = some (.map (ents pl') c)) :
    (∃ C', RS ((w2.setCell ⟨rb, 16, none⟩ (.int .i64 (held - cost))).setCell ⟨mb, 12, none⟩ (.pointer none)) rb pm am C' to mp nw ne (held - cost) pk pl' al st fg) ∧ w2.heap.size = w.heap.size ∧
      Msg ((w2.setCell ⟨rb, 16, none⟩ (.int .i64 (held - cost))).setCell ⟨mb, 12, none⟩ (.pointer none)) mb k fw fe (.pointer none) cost frag start ∧ Far rb pm am (mb :: eb :: blks st) w ((w2.setCell ⟨rb, 16, none⟩ (.int .i64 (held - cost))).setCell ⟨mb, 12, none⟩ (.pointer none)) ∧
      w1.heap[mb]? = w.heap[mb]? ∧ w2.heap[mb]? = w.heap[mb]? ∧ w2.rowIs rb 47 26 C1 := by
  obtain ⟨cp, hp⟩ := h.pmap
  obtain ⟨ca, ha⟩ := h.amap
  have hpr : pm ≠ rb := ne_map_row hp h.row
  have har : am ≠ rb := ne_map_row ha h.row
  have has : am ∉ blks ((eb, v) :: st) := ne_map_dq ha h.qs
  have hpf : pm ∉ blks fg := ne_map_dq hp h.qf
  have hps : pm ∉ blks ((eb, v) :: st) := ne_map_dq hp h.qs
  have hbl : blks ((eb, v) :: st) = eb :: blks st := rfl
  have hr2 : w2.rowIs rb 47 26 C1 := hr1.of_block (ho.block rb (Ne.symm hpr))
  have hmr : mb ≠ rb := ne_msg_row hm h.row (by decide)
  have hms : mb ∉ blks ((eb, v) :: st) := ne_msg_dq hm h.qs
  have hmf : mb ∉ blks fg := ne_msg_dq hm h.qf
  have hmp : mb ≠ pm := ne_msg_map hm hp
  have hma : mb ≠ am := ne_msg_map hm ha
  have hm1 : w1.heap[mb]? = w.heap[mb]? := hQ1.block mb (lt_of_block hm) hmr hms
  have hm2 : w2.heap[mb]? = w.heap[mb]? := (ho.block mb hmp).trans hm1
  have hm2' : w2.heap[mb]? = some (.cells (msg k fw fe stv cost frag start) 71 (0, 0)) := hm2.trans hm
  -- a block that is neither rb nor mb
  have hk : ∀ j, j ≠ rb → j ≠ mb → ((w2.setCell ⟨rb, 16, none⟩ (.int .i64 (held - cost))).setCell ⟨mb, 12, none⟩ (.pointer none)).heap[j]? = w2.heap[j]? := fun j h1 h2 => by
    rw [heap_set_other _ _ _ h2, heap_set_other _ _ _ h1]
  have hsr : ∀ b ∈ blks st, b ≠ rb := fun b hb => h.ringS.ne b (by rw [hbl]; exact List.mem_cons_of_mem _ hb)
  refine ⟨⟨up1 C1 16 (.int .i64 (held - cost)), (row_up hr2 16 _).setOther (by exact Ne.symm hmr) _, (h.rc.of (Or.inl rfl) hC1).held _, ⟨c, (hk pm hpr (Ne.symm hmp)).trans hb2⟩, ⟨ca, ?_⟩, ?_, ?_, ?_, h.mm⟩, by rw [ho.size, hz1], ?_, ?_, hm1, hm2, hr2⟩
  · exact (((hk am har (Ne.symm hma)).trans (ho.block am (Ne.symm h.mm))).trans (hQ1.block am (lt_of_block ha) har has)).trans ha
  · have hR2 : DQ w1 rb 11 C1 st := Or.inr hR1
    refine hR2.congr (fun b hb => (hk b (hsr b hb) ?_).trans (ho.block b ?_)) (up1_other _ _ (by omega)) (up1_other _ _ (by omega)) (up1_other _ _ (by omega))
    · intro e; exact hms (by rw [hbl]; exact List.mem_cons_of_mem _ (e ▸ hb))
    · intro e; exact hps (by rw [hbl]; exact List.mem_cons_of_mem _ (e ▸ hb))
  · have hne : ∀ b ∈ blks fg, b ≠ rb := by
      intro b hb
      rcases h.qf with ⟨rfl, _, _⟩ | hq
      · simp [blks] at hb
      · exact hq.ne b hb
    refine h.qf.congr (fun b hb => (((hk b (hne b hb) ?_).trans (ho.block b ?_)).trans (hQ1.block b (h.qf.blks_lt b hb) (hne b hb) ?_))) ((up1_other _ _ (by omega)).trans (hC1 18 (by omega) (by omega) (by omega))) ((up1_other _ _ (by omega)).trans (hC1 19 (by omega) (by omega) (by omega))) ((up1_other _ _ (by omega)).trans (hC1 22 (by omega) (by omega) (by omega)))
    · intro e; exact hmf (e ▸ hb)
    · intro e; exact hpf (e ▸ hb)
    · intro hb'; exact h.dj b hb' hb
  · intro b hb hb'
    exact h.dj b (by rw [hbl]; exact List.mem_cons_of_mem _ hb) hb'
  · show ((w2.setCell ⟨rb, 16, none⟩ (.int .i64 (held - cost))).setCell ⟨mb, 12, none⟩ (.pointer none)).heap[mb]? = _
    have h0 : (w2.setCell ⟨rb, 16, none⟩ (.int .i64 (held - cost))).heap[mb]? = some (.cells (msg k fw fe stv cost frag start) 71 (0, 0)) := (heap_set_other _ _ _ hmr).trans hm2'
    rw [heap_set_same h0]
    rfl
  · refine ⟨ho.os.trans hQ1.os, ho.tape.trans hQ1.tape, ho.output.trans hQ1.output, by simp [ho.size, hz1], fun j hj h1 h2 h3 h4 => ?_⟩
    simp only [List.mem_cons, not_or] at h4
    exact ((hk j h1 h4.1).trans (ho.block j h2)).trans (hQ1.block j hj h1 (by rw [hbl]; simp only [List.mem_cons, not_or]; exact h4.2))

set_option maxRecDepth 100000 in
set_option maxHeartbeats 1000000 in
theorem release_some (w : World) (rb pm am : Nat) (C : Nat → Value) (to mp nw ne held pk : Int) (pl al : List En) (st fg : List (Nat × Value)) (eb mb : Nat) (v : Value) (k : K) (fw fe cost frag : Int) (start : Bool)
    (hn : ((eb, v) :: st).length < 1000000) (h : RS w rb pm am C to mp nw ne held pk pl al ((eb, v) :: st) fg) (hm : Msg w mb k fw fe (P2 eb 0) cost frag start) (hc0 : 0 ≤ cost) (hc1 : cost ≤ held) (hc2 : held ≤ 1000000000) :
    Calls Yba.prog 27 #[P2 rb 0, P2 mb 0] w fun e w' => e = .returned (.tuple #[]) ∧ (∃ C', RS w' rb pm am C' to mp nw ne (held - cost) pk (dele k pl) al st fg) ∧ w'.heap.size = w.heap.size ∧
      Msg w' mb k fw fe (.pointer none) cost frag start ∧ Far rb pm am (mb :: eb :: blks st) w w' := by
  have c12 : w.cell? ⟨mb, 12, none⟩ = some (P2 eb 0) := by unfold Msg msg at hm; simp [World.cell?, hm]
  obtain ⟨cp, hp⟩ := h.pmap
  have hne1 : pm ≠ rb := ne_map_row hp h.row
  have hne2 : pm ∉ blks ((eb, v) :: st) := ne_map_dq hp h.qs
  have hlt := lt_of_block hp
  have HP : Hid (w.heap[pm]? = some (.map (ents pl) cp)) := hp
  clear hp
  go_enter Yba.func27, Yba.ntmps27
  go_wp2
  go_region_with (first | (go_at_call 36; refine (pop_any _ rb 11 C (eb, v) st (by omega) h.row.drew ?_ hn).mono ?_; exact h.ringS.drew; rintro r w1 ⟨rfl, hz1, C1, hr1, hR1, hC1, hQ1⟩))
  go_wp2
  obtain ⟨w2, hd, ho2, hb2⟩ := delete_run (w := w1) 36 66 Yba.underlying36 ((hQ1.block pm hlt hne1 hne2).trans HP.out) k
  obtain ⟨hRS, hz2, hM2, hF2, hm1, hm2, hr2⟩ := release_post h.drew hm hz1 hr1 hR1 hC1 hQ1 ho2 hb2
  have k10 := (hr1.cell (i := 10) (by omega)).trans (congrArg some ((hC1 10 (by omega) (by omega) (by omega)).trans h.rc.c10))
  have k16 := (hr2.cell (i := 16) (by omega)).trans (congrArg some ((hC1 16 (by omega) (by omega) (by omega)).trans h.rc.c16))
  have f16 := hr2.frozen 16
  have hm1' : w1.heap[mb]? = some (.cells (msg k fw fe (P2 eb 0) cost frag start) 71 (0, 0)) := hm1.trans hm
  have hm2' : w2.heap[mb]? = some (.cells (msg k fw fe (P2 eb 0) cost frag start) 71 (0, 0)) := hm2.trans hm
  have m0 : w1.cell? ⟨mb, 0, none⟩ = some (.int .u64 0) := by simp [World.cell?, hm1', msg]
  have m1 : w1.cell? ⟨mb, 1, none⟩ = some (.int .u64 0) := by simp [World.cell?, hm1', msg]
  have m2 : w1.cell? ⟨mb, 2, none⟩ = some (.pointer none) := by simp [World.cell?, hm1', msg]
  have m3 : w1.cell? ⟨mb, 3, none⟩ = some (.int .u16 k.s) := by simp [World.cell?, hm1', msg]
  have m4 : w1.cell? ⟨mb, 4, none⟩ = some (.int .u64 0) := by simp [World.cell?, hm1', msg]
  have m5 : w1.cell? ⟨mb, 5, none⟩ = some (.int .u64 0) := by simp [World.cell?, hm1', msg]
  have m6 : w1.cell? ⟨mb, 6, none⟩ = some (.pointer none) := by simp [World.cell?, hm1', msg]
  have m7 : w1.cell? ⟨mb, 7, none⟩ = some (.int .u16 k.d) := by simp [World.cell?, hm1', msg]
  have m8 : w1.cell? ⟨mb, 8, none⟩ = some (.int .u32 k.i) := by simp [World.cell?, hm1', msg]
  have m13 : w2.cell? ⟨mb, 13, none⟩ = some (.int .i64 cost) := by simp [World.cell?, hm2', msg]
  have m12 : w2.cell? ⟨mb, 12, none⟩ = some (P2 eb 0) := by simp [World.cell?, hm2', msg]
  have f12 : w2.frozen? ⟨mb, 12, none⟩ = false := by simp [World.frozen?, hm2']
  have hd1 : ∀ T, (Builtin.delete_ #[36, 60] T #[.map (some pm), kv k]).run Yba.prog w1.drew = .ok (.tuple #[]) w2.drew := fun T => hd T 1
  simp only [kv, kc] at hd1
  have HF : Hid ((∃ C', RS ((w2.setCell ⟨rb, 16, none⟩ (.int .i64 (held - cost))).setCell ⟨mb, 12, none⟩ (.pointer none)) rb pm am C' to mp nw ne (held - cost) pk (dele k pl) al st fg) ∧ w2.heap.size = w.heap.size ∧ Msg ((w2.setCell ⟨rb, 16, none⟩ (.int .i64 (held - cost))).setCell ⟨mb, 12, none⟩ (.pointer none)) mb k fw fe (.pointer none) cost frag start ∧ Far rb pm am (mb :: eb :: blks st) w.drew ((w2.setCell ⟨rb, 16, none⟩ (.int .i64 (held - cost))).setCell ⟨mb, 12, none⟩ (.pointer none))) := ⟨hRS, hz2, hM2, hF2⟩
  have hmr : mb ≠ rb := ne_msg_row hm h.row (by decide)
  clear hd hRS hz2 hM2 hF2 hm1 hm2 hm1' hm2' hr1 hR1 hC1 hQ1 ho2 hb2 hr2 hz1 c12
  go_region
  go_wp2
  go_region
  go_wp2
  go_end0
  obtain ⟨⟨C', g1⟩, g2, g3, g4⟩ := HF.out
  exact ⟨rfl, ⟨C', g1.drew.drew⟩, by rw [heap_drew, heap_drew, World.size_setCell, World.size_setCell]; exact g2, by unfold Msg at g3 ⊢; rw [heap_drew, heap_drew]; exact g3, g4.of_drew.drew.drew⟩
end Go.Proofs.Ybulkakzc

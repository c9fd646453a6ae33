/-
  THE REASSEMBLER of seat b1835a: what abandon carries from step to step.
-/
import Derived.Test.YbulkakzcRelease
import Derived.Deep.LoopGhost
import Derived.Deep.DeepCutAuto
import Derived.Outline
namespace Go.Proofs.Ybulkakzc
open Go.RowKit
set_option linter.unusedSimpArgs false

/-- An abandonment that is remembered: the block of its element, its key, when. -/
structure Fq where
  b : Nat
  k : K
  aw : Int
  ae : Int
def fgs (l : List Fq) : List (Nat × Value) := l.map fun x => (x.b, av x.k x.aw x.ae)
theorem fgs_length (l : List Fq) : (fgs l).length = l.length := by simp [fgs]

/-- A datagram, zero but for the verdict's line. -/
def dg (k : K) (ver rs : ByteArray) (frag : Int) : Array Value :=
  #[.int .u64 0, .int .u64 0, .pointer none, .int .u16 k.s, .int .u64 0, .int .u64 0, .pointer none, .int .u16 k.d, .bool false, .bool false, .slice none 0 0, .slice none 0 0, .string ⟨#[]⟩, .string ver, .string rs, .slice none 0 0,
    .string ⟨#[]⟩, .int .u16 0, .int .u16 0, .int .u32 0, .int .u32 0, .int .u32 0, .int .u32 0, .int .u8 0, .int .u8 0, .int .u32 0, .slice none 0 0, .int .u16 0, .int .u32 0, .int .u16 0, .bool false, .int .u16 0, .slice none 0 0, .int .i64 frag, .int .u32 k.i]
def dz : Array Value := dg ⟨0, 0, 0⟩ ⟨#[]⟩ ⟨#[]⟩ 0
def vDrop : ByteArray := ⟨#[100, 114, 111, 112]⟩
def vDeliver : ByteArray := ⟨#[100, 101, 108, 105, 118, 101, 114]⟩
def ver (start : Bool) : ByteArray := if start then vDeliver else vDrop

theorem RS.alloc {w : World} {rb pm am : Nat} {C : Nat → Value} {tmo mp nw ne held pk : Int} {pl al : List En} {st fg : List (Nat × Value)} (h : RS w rb pm am C tmo mp nw ne held pk pl al st fg) (o : Obj) : RS (w.alloc o) rb pm am C tmo mp nw ne held pk pl al st fg := by
  obtain ⟨cp, hp⟩ := h.pmap
  obtain ⟨ca, ha⟩ := h.amap
  exact ⟨h.row.alloc o, h.rc, ⟨cp, (Below.heap_alloc _ _ _ (lt_of_block hp)).trans hp⟩, ⟨ca, (Below.heap_alloc _ _ _ (lt_of_block ha)).trans ha⟩, h.qs.congr (fun b hb => Below.heap_alloc _ _ _ (h.qs.blks_lt b hb)) rfl rfl rfl, h.qf.congr (fun b hb => Below.heap_alloc _ _ _ (h.qf.blks_lt b hb)) rfl rfl rfl, h.dj, h.mm⟩

/-- What abandon carries from step to step: the reassembler, its message, its result's block, what it leaves alone. -/
structure Mid (w w' : World) (rb pm am : Nat) (tmo mp nw ne held pk : Int) (pl al : List En) (st : List (Nat × Value)) (fl : List Fq) (mb : Nat) (k : K) (fw fe cost frag : Int) (start : Bool) (bs : List Nat) : Prop where
  rs : ∃ C, RS w' rb pm am C tmo mp nw ne held pk pl al st (fgs fl)
  msg : Msg w' mb k fw fe (.pointer none) cost frag start
  res : w'.heap[w.heap.size]? = some (.cells dz 88 (0, 0))
  far : Far rb pm am bs w w'
  sub : ∀ b ∈ blks (fgs fl), b ∈ bs ∨ w.heap.size ≤ b

theorem Far.alloc {rb pm am : Nat} {bs : List Nat} {w w' : World} (h : Far rb pm am bs w w') (o : Obj) : Far rb pm am bs w (w'.alloc o) :=
  ⟨h.os, h.tape, h.output, by rw [World.size_alloc]; exact Nat.le_succ_of_le h.size, fun k hk h1 h2 h3 h4 => (Below.heap_alloc _ _ _ (Nat.lt_of_lt_of_le hk h.size)).trans (h.block k hk h1 h2 h3 h4)⟩

section
variable {w w' : World} {rb pm am : Nat} {tmo mp nw ne held pk : Int} {pl al : List En} {st : List (Nat × Value)} {fl : List Fq} {mb : Nat} {k : K} {fw fe cost frag : Int} {start : Bool} {bs : List Nat}
theorem Mid.drew (h : Mid w w' rb pm am tmo mp nw ne held pk pl al st fl mb k fw fe cost frag start bs) : Mid w w'.drew rb pm am tmo mp nw ne held pk pl al st fl mb k fw fe cost frag start bs := by
  obtain ⟨C, hr⟩ := h.rs
  exact ⟨⟨C, hr.drew⟩, h.msg, h.res, h.far.drew, h.sub⟩
theorem Mid.alloc (h : Mid w w' rb pm am tmo mp nw ne held pk pl al st fl mb k fw fe cost frag start bs) (o : Obj) : Mid w (w'.alloc o) rb pm am tmo mp nw ne held pk pl al st fl mb k fw fe cost frag start bs := by
  obtain ⟨C, hr⟩ := h.rs
  exact ⟨⟨C, hr.alloc o⟩, (Below.heap_alloc _ _ _ (lt_of_block h.msg)).trans h.msg, (Below.heap_alloc _ _ _ (lt_of_block h.res)).trans h.res, h.far.alloc o, h.sub⟩

/-- A block of cells of another type than the reassembler's own. -/
theorem ne_cells_row {w : World} {mb b n : Nat} {c : Array Value} {T t : TypeId} {f : Nat → Value} (h1 : w.heap[mb]? = some (.cells c T (0, 0))) (h2 : w.rowIs b t n f) (ht : t ≠ T) : mb ≠ b := by
  rintro rfl
  obtain ⟨c', h, _⟩ := h2
  rw [h] at h1
  simp only [Option.some.injEq, Obj.cells.injEq] at h1
  exact ht h1.2.1
theorem ne_cells_chain {w : World} {rb lo mb : Nat} {c : Array Value} {T : TypeId} (hT : 40 ≠ T) (h1 : w.heap[mb]? = some (.cells c T (0, 0))) : ∀ {pv : Value} {l : List (Nat × Value)}, Chain w rb lo pv l → mb ∉ blks l
  | _, [], _ => by simp [blks]
  | _, e :: l, h => by
    simp only [blks, List.map_cons, List.mem_cons, not_or]
    refine ⟨?_, ne_cells_chain hT h1 h.2⟩
    rintro rfl
    have := h.1
    rw [h1] at this
    simp only [Option.some.injEq, Obj.cells.injEq] at this
    exact hT this.2.1.symm
theorem ne_cells_dq {w : World} {rb lo mb : Nat} {C : Nat → Value} {c : Array Value} {T : TypeId} {l : List (Nat × Value)} (hT : 40 ≠ T) (h1 : w.heap[mb]? = some (.cells c T (0, 0))) (h : DQ w rb lo C l) : mb ∉ blks l := by
  rcases h with ⟨rfl, _, _⟩ | h
  · simp [blks]
  · exact ne_cells_chain hT h1 h.chain
theorem ne_cells_map {w : World} {mb a : Nat} {c : Array Value} {T : TypeId} {es : Array MapEntry} {cl : Nat} (h1 : w.heap[mb]? = some (.cells c T (0, 0))) (h2 : w.heap[a]? = some (.map es cl)) : mb ≠ a := by
  rintro rfl
  rw [h1] at h2
  cases h2

/-- A block of a foreign type lies beyond what a step on the remembered list turns. -/
theorem RS.apart {C : Nat → Value} {fg : List (Nat × Value)} (h : RS w' rb pm am C tmo mp nw ne held pk pl al st fg) {b : Nat} {c : Array Value} {T : TypeId} (hT : 40 ≠ T) (hT2 : 47 ≠ T) (hb : w'.heap[b]? = some (.cells c T (0, 0))) :
    b ≠ rb ∧ b ≠ pm ∧ b ≠ am ∧ b ∉ blks st ∧ b ∉ blks fg := by
  obtain ⟨cp, hp⟩ := h.pmap
  obtain ⟨ca, ha⟩ := h.amap
  exact ⟨ne_cells_row hb h.row hT2, ne_cells_map hb hp, ne_cells_map hb ha, ne_cells_dq hT hb h.qs, ne_cells_dq hT hb h.qf⟩

theorem Mid.forget {x : Fq} {w2 : World} (h : Mid w w' rb pm am tmo mp nw ne held pk pl al st (x :: fl) mb k fw fe cost frag start bs)
    (hr : ∃ C', RS w2 rb pm am C' tmo mp nw ne held pk pl (dele x.k al) st (fgs fl)) (hf : Far rb pm am (x.b :: blks (fgs fl)) w' w2) :
    Mid w w2 rb pm am tmo mp nw ne held pk pl (dele x.k al) st fl mb k fw fe cost frag start bs := by
  obtain ⟨C, hR⟩ := h.rs
  have hbl : blks (fgs (x :: fl)) = x.b :: blks (fgs fl) := rfl
  obtain ⟨m1, m2, m3, _, m5⟩ := hR.apart (by decide) (by decide) h.msg
  obtain ⟨r1, r2, r3, _, r5⟩ := hR.apart (by decide) (by decide) h.res
  rw [hbl] at m5 r5
  refine ⟨hr, (hf.block mb (lt_of_block h.msg) m1 m2 m3 m5).trans h.msg, (hf.block _ (lt_of_block h.res) r1 r2 r3 r5).trans h.res, ⟨hf.os.trans h.far.os, hf.tape.trans h.far.tape, hf.output.trans h.far.output, Nat.le_trans h.far.size hf.size, fun j hj h1 h2 h3 h4 => (hf.block j (Nat.lt_of_lt_of_le hj h.far.size) h1 h2 h3 ?_).trans (h.far.block j hj h1 h2 h3 h4)⟩, fun b hb => h.sub b (by rw [hbl]; exact List.mem_cons_of_mem _ hb)⟩
  intro hb
  rcases h.sub j (by rw [hbl]; exact hb) with h5 | h5
  · exact h4 h5
  · omega
end

/-- Behind the test: the oldest abandonment dropped where the memory is full. -/
def dropF (mp : Int) (fl : List Fq) : List Fq := if 16 * lim mp ≤ (fl.length : Int) then fl.tail else fl
def dropA (mp : Int) (al : List En) (fl : List Fq) : List En := if 16 * lim mp ≤ (fl.length : Int) then (match fl with | [] => al | x :: _ => dele x.k al) else al

/-- The decoder's cells and the remembered list's length. -/
theorem seeDec {w' : World} {rb pm am : Nat} {C : Nat → Value} {tmo mp nw ne held pk : Int} {n : Nat} (hr : w'.rowIs rb 47 26 C) (rc : RC C pm am tmo mp nw ne held pk) (hl : C 22 = .int .i64 (n : Int)) :
    w'.cell? ⟨rb, 0, none⟩ = some (.int .i64 0) ∧ w'.cell? ⟨rb, 1, none⟩ = some (.slice none 0 0) ∧ w'.cell? ⟨rb, 2, none⟩ = some (.bool false) ∧ w'.cell? ⟨rb, 3, none⟩ = some (.int .i64 0) ∧ w'.cell? ⟨rb, 4, none⟩ = some (.int .i64 tmo) ∧ w'.cell? ⟨rb, 5, none⟩ = some (.int .i64 mp) ∧ w'.cell? ⟨rb, 6, none⟩ = some (.int .i64 0) ∧ w'.cell? ⟨rb, 22, none⟩ = some (.int .i64 (n : Int)) ∧ w'.rowIs rb 47 26 C := by
  refine ⟨?_, ?_, ?_, ?_, ?_, ?_, ?_, ?_, hr⟩
  · rw [hr.cell (by omega), rc.c0]
  · rw [hr.cell (by omega), rc.c1]
  · rw [hr.cell (by omega), rc.c2]
  · rw [hr.cell (by omega), rc.c3]
  · rw [hr.cell (by omega), rc.c4]
  · rw [hr.cell (by omega), rc.c5]
  · rw [hr.cell (by omega), rc.c6]
  · rw [hr.cell (by omega), hl]
theorem seeDec_alloc {w' : World} {rb pm am : Nat} {C : Nat → Value} {tmo mp nw ne held pk : Int} {n : Nat} {o : Obj} (rc : RC C pm am tmo mp nw ne held pk) (hl : C 22 = .int .i64 (n : Int))
    (h : w'.cell? ⟨rb, 0, none⟩ = some (.int .i64 0) ∧ w'.cell? ⟨rb, 1, none⟩ = some (.slice none 0 0) ∧ w'.cell? ⟨rb, 2, none⟩ = some (.bool false) ∧ w'.cell? ⟨rb, 3, none⟩ = some (.int .i64 0) ∧ w'.cell? ⟨rb, 4, none⟩ = some (.int .i64 tmo) ∧ w'.cell? ⟨rb, 5, none⟩ = some (.int .i64 mp) ∧ w'.cell? ⟨rb, 6, none⟩ = some (.int .i64 0) ∧ w'.cell? ⟨rb, 22, none⟩ = some (.int .i64 (n : Int)) ∧ w'.rowIs rb 47 26 C) :
    (w'.alloc o).cell? ⟨rb, 0, none⟩ = some (.int .i64 0) ∧ (w'.alloc o).cell? ⟨rb, 1, none⟩ = some (.slice none 0 0) ∧ (w'.alloc o).cell? ⟨rb, 2, none⟩ = some (.bool false) ∧ (w'.alloc o).cell? ⟨rb, 3, none⟩ = some (.int .i64 0) ∧ (w'.alloc o).cell? ⟨rb, 4, none⟩ = some (.int .i64 tmo) ∧ (w'.alloc o).cell? ⟨rb, 5, none⟩ = some (.int .i64 mp) ∧ (w'.alloc o).cell? ⟨rb, 6, none⟩ = some (.int .i64 0) ∧ (w'.alloc o).cell? ⟨rb, 22, none⟩ = some (.int .i64 (n : Int)) ∧ (w'.alloc o).rowIs rb 47 26 C :=
  seeDec (h.2.2.2.2.2.2.2.2.alloc o) rc hl

theorem seeKey {w' : World} {rb pm am mb : Nat} {C : Nat → Value} {tmo mp nw ne held pk : Int} {k : K} {fw fe cost frag : Int} {start : Bool} {stv : Value} (hr : w'.rowIs rb 47 26 C) (rc : RC C pm am tmo mp nw ne held pk) (hm : Msg w' mb k fw fe stv cost frag start) :
    w'.cell? ⟨rb, 17, none⟩ = some (.map (some am)) ∧ w'.cell? ⟨rb, 7, none⟩ = some (.int .u64 nw) ∧ w'.cell? ⟨rb, 8, none⟩ = some (.int .i64 ne) ∧ w'.cell? ⟨rb, 9, none⟩ = some (.pointer none) ∧ w'.cell? ⟨mb, 0, none⟩ = some (.int .u64 0) ∧ w'.cell? ⟨mb, 1, none⟩ = some (.int .u64 0) ∧ w'.cell? ⟨mb, 2, none⟩ = some (.pointer none) ∧ w'.cell? ⟨mb, 3, none⟩ = some (.int .u16 k.s) ∧ w'.cell? ⟨mb, 4, none⟩ = some (.int .u64 0) ∧ w'.cell? ⟨mb, 5, none⟩ = some (.int .u64 0) ∧ w'.cell? ⟨mb, 6, none⟩ = some (.pointer none) ∧ w'.cell? ⟨mb, 7, none⟩ = some (.int .u16 k.d) ∧ w'.cell? ⟨mb, 8, none⟩ = some (.int .u32 k.i) := by
  unfold Msg at hm
  refine ⟨by rw [hr.cell (by omega), rc.c17], by rw [hr.cell (by omega), rc.c7], by rw [hr.cell (by omega), rc.c8], by rw [hr.cell (by omega), rc.c9], ?_, ?_, ?_, ?_, ?_, ?_, ?_, ?_, ?_⟩
  all_goals simp [World.cell?, hm, msg]

/-- What PushBack and the store into the map leave. -/
theorem Mid.push {w w' w5 w6 : World} {rb pm am : Nat} {C C5 : Nat → Value} {tmo mp nw ne held pk : Int} {pl al al6 : List En} {st : List (Nat × Value)} {fl : List Fq} {mb : Nat} {k : K} {fw fe cost frag : Int} {start : Bool} {bs : List Nat} {c6 : Nat}
    (h : Mid w w' rb pm am tmo mp nw ne held pk pl al st fl mb k fw fe cost frag start bs) (hR : RS w' rb pm am C tmo mp nw ne held pk pl al st (fgs fl))
    (hz5 : w5.heap.size = w'.heap.size + 1) (hr5 : w5.rowIs rb 47 26 C5) (hRing : Ring w5 rb 18 C5 (fgs fl ++ [(w'.heap.size, av k nw ne)])) (hC5 : ∀ j, j ≠ 18 → j ≠ 18 + 1 → j ≠ 18 + 4 → C5 j = C j) (hQ5 : QOnly rb (blks (fgs fl)) w' w5)
    (ho6 : OnlyB am w5 w6) (hb6 : w6.heap[am]? = some (.map (ents al6) c6)) :
    Mid w w6 rb pm am tmo mp nw ne held pk pl al6 st (fl ++ [⟨w'.heap.size, k, nw, ne⟩]) mb k fw fe cost frag start bs ∧ (w5.cell? ⟨rb, 17, none⟩ = some (.map (some am)) ∧ w5.cell? ⟨rb, 7, none⟩ = some (.int .u64 nw) ∧ w5.cell? ⟨rb, 8, none⟩ = some (.int .i64 ne) ∧ w5.cell? ⟨rb, 9, none⟩ = some (.pointer none) ∧ w5.cell? ⟨mb, 0, none⟩ = some (.int .u64 0) ∧ w5.cell? ⟨mb, 1, none⟩ = some (.int .u64 0) ∧ w5.cell? ⟨mb, 2, none⟩ = some (.pointer none) ∧ w5.cell? ⟨mb, 3, none⟩ = some (.int .u16 k.s) ∧ w5.cell? ⟨mb, 4, none⟩ = some (.int .u64 0) ∧ w5.cell? ⟨mb, 5, none⟩ = some (.int .u64 0) ∧ w5.cell? ⟨mb, 6, none⟩ = some (.pointer none) ∧ w5.cell? ⟨mb, 7, none⟩ = some (.int .u16 k.d) ∧ w5.cell? ⟨mb, 8, none⟩ = some (.int .u32 k.i)) ∧ (w6.cell? ⟨rb, 17, none⟩ = some (.map (some am)) ∧ w6.cell? ⟨rb, 7, none⟩ = some (.int .u64 nw) ∧ w6.cell? ⟨rb, 8, none⟩ = some (.int .i64 ne) ∧ w6.cell? ⟨rb, 9, none⟩ = some (.pointer none) ∧ w6.cell? ⟨mb, 0, none⟩ = some (.int .u64 0) ∧ w6.cell? ⟨mb, 1, none⟩ = some (.int .u64 0) ∧ w6.cell? ⟨mb, 2, none⟩ = some (.pointer none) ∧ w6.cell? ⟨mb, 3, none⟩ = some (.int .u16 k.s) ∧ w6.cell? ⟨mb, 4, none⟩ = some (.int .u64 0) ∧ w6.cell? ⟨mb, 5, none⟩ = some (.int .u64 0) ∧ w6.cell? ⟨mb, 6, none⟩ = some (.pointer none) ∧ w6.cell? ⟨mb, 7, none⟩ = some (.int .u16 k.d) ∧ w6.cell? ⟨mb, 8, none⟩ = some (.int .u32 k.i)) := by
  obtain ⟨cp, hp⟩ := hR.pmap
  obtain ⟨ca, ha⟩ := hR.amap
  have hpr : pm ≠ rb := ne_map_row hp hR.row
  have har : am ≠ rb := ne_map_row ha hR.row
  obtain ⟨m1, m2, m3, _, m5⟩ := hR.apart (by decide) (by decide) h.msg
  obtain ⟨r1, r2, r3, _, r5⟩ := hR.apart (by decide) (by decide) h.res
  have hm5 : w5.heap[mb]? = w'.heap[mb]? := hQ5.block mb (lt_of_block h.msg) m1 m5
  have hm6 : w6.heap[mb]? = w'.heap[mb]? := (ho6.block mb m3).trans hm5
  have hr6 : w6.rowIs rb 47 26 C5 := hr5.of_block (ho6.block rb (Ne.symm har))
  have rc5 := hR.rc.of (Or.inr rfl) hC5
  have hps : pm ∉ blks (fgs fl) := ne_map_dq hp hR.qf
  have has : am ∉ blks (fgs fl) := ne_map_dq ha hR.qf
  have has' : am ∉ blks st := ne_map_dq ha hR.qs
  have hfgs : fgs (fl ++ [⟨w'.heap.size, k, nw, ne⟩]) = fgs fl ++ [(w'.heap.size, av k nw ne)] := by simp [fgs]
  have hsr : ∀ b ∈ blks st, b ≠ rb := by
    intro b hb
    rcases hR.qs with ⟨rfl, _, _⟩ | hq
    · simp [blks] at hb
    · exact hq.ne b hb
  have hlta := lt_of_block ha
  have hltp := lt_of_block hp
  refine ⟨⟨⟨C5, hr6, rc5, ⟨cp, ?_⟩, ⟨c6, hb6⟩, ?_, ?_, ?_, hR.mm⟩, hm6.trans h.msg, ?_, ?_, ?_⟩, seeKey hr5 rc5 (hm5.trans h.msg), seeKey hr6 rc5 (hm6.trans h.msg)⟩
  · exact ((ho6.block pm hR.mm).trans (hQ5.block pm hltp hpr hps)).trans hp
  · refine hR.qs.congr (fun b hb => (ho6.block b (fun e => has' (e ▸ hb))).trans (hQ5.block b (hR.qs.blks_lt b hb) (hsr b hb) (hR.dj b hb))) (hC5 11 (by omega) (by omega) (by omega)) (hC5 12 (by omega) (by omega) (by omega)) (hC5 15 (by omega) (by omega) (by omega))
  · rw [hfgs]
    refine Or.inr ⟨hRing.chain.congr fun b hb => ho6.block b ?_, hRing.hd, hRing.tl, hRing.len, hRing.nd, hRing.ne⟩
    intro e
    simp only [blks, List.map_append, List.map_cons, List.map_nil, List.mem_append, List.mem_singleton] at hb
    rcases hb with hb | hb
    · exact has (e ▸ hb)
    · omega
  · intro b hb hb'
    rw [hfgs] at hb'
    simp only [blks, List.map_append, List.map_cons, List.map_nil, List.mem_append, List.mem_singleton] at hb'
    rcases hb' with hb' | hb'
    · exact hR.dj b hb hb'
    · have := hR.qs.blks_lt b hb; omega
  · exact ((ho6.block _ r3).trans (hQ5.block _ (lt_of_block h.res) r1 r5)).trans h.res
  · refine ⟨(ho6.os.trans hQ5.os).trans h.far.os, (ho6.tape.trans hQ5.tape).trans h.far.tape, (ho6.output.trans hQ5.output).trans h.far.output, by have := h.far.size; have := ho6.size; omega, fun j hj h1 h2 h3 h4 => ((ho6.block j h3).trans (hQ5.block j (Nat.lt_of_lt_of_le hj h.far.size) h1 ?_)).trans (h.far.block j hj h1 h2 h3 h4)⟩
    intro hb
    rcases h.sub j hb with h5 | h5
    · exact h4 h5
    · omega
  · intro b hb
    rw [hfgs] at hb
    simp only [blks, List.map_append, List.map_cons, List.map_nil, List.mem_append, List.mem_singleton] at hb
    rcases hb with hb | hb
    · exact h.sub b hb
    · right; have := h.far.size; omega

/-- The peak written. -/
theorem Mid.peak {w w' : World} {rb pm am : Nat} {C : Nat → Value} {tmo mp nw ne held pk : Int} {pl al : List En} {st : List (Nat × Value)} {fl : List Fq} {mb : Nat} {k : K} {fw fe cost frag : Int} {start : Bool} {bs : List Nat}
    (h : Mid w w' rb pm am tmo mp nw ne held pk pl al st fl mb k fw fe cost frag start bs) (hR : RS w' rb pm am C tmo mp nw ne held pk pl al st (fgs fl)) (x : Int) :
    Mid w (w'.setCell ⟨rb, 25, none⟩ (.int .i64 x)) rb pm am tmo mp nw ne held x pl al st fl mb k fw fe cost frag start bs := by
  obtain ⟨cp, hp⟩ := hR.pmap
  obtain ⟨ca, ha⟩ := hR.amap
  have hpr : pm ≠ rb := ne_map_row hp hR.row
  have har : am ≠ rb := ne_map_row ha hR.row
  obtain ⟨m1, _⟩ := hR.apart (by decide) (by decide) h.msg
  obtain ⟨r1, _⟩ := hR.apart (by decide) (by decide) h.res
  have hsr : ∀ b ∈ blks st, b ≠ rb := by
    intro b hb
    rcases hR.qs with ⟨rfl, _, _⟩ | hq
    · simp [blks] at hb
    · exact hq.ne b hb
  have hfr : ∀ b ∈ blks (fgs fl), b ≠ rb := by
    intro b hb
    rcases hR.qf with ⟨h1, _, _⟩ | hq
    · rw [h1] at hb; simp [blks] at hb
    · exact hq.ne b hb
  refine ⟨⟨up1 C 25 (.int .i64 x), row_up hR.row 25 _, hR.rc.peak x, ⟨cp, (heap_set_other _ _ _ hpr).trans hp⟩, ⟨ca, (heap_set_other _ _ _ har).trans ha⟩, ?_, ?_, hR.dj, hR.mm⟩, (heap_set_other _ _ _ m1).trans h.msg, (heap_set_other _ _ _ r1).trans h.res, ?_, h.sub⟩
  · exact hR.qs.congr (fun b hb => heap_set_other _ _ _ (hsr b hb)) (up1_other _ _ (by omega)) (up1_other _ _ (by omega)) (up1_other _ _ (by omega))
  · exact hR.qf.congr (fun b hb => heap_set_other _ _ _ (hfr b hb)) (up1_other _ _ (by omega)) (up1_other _ _ (by omega)) (up1_other _ _ (by omega))
  · exact ⟨h.far.os, h.far.tape, h.far.output, by rw [World.size_setCell]; exact h.far.size, fun j hj h1 h2 h3 h4 => (heap_set_other _ _ _ h1).trans (h.far.block j hj h1 h2 h3 h4)⟩

theorem see2 {w' : World} {mb : Nat} {k : K} {fw fe cost frag : Int} {start : Bool} (hm : w'.heap[mb]? = some (.cells (msg k fw fe (.pointer none) cost frag start) 71 (0, 0))) : w'.cell? ⟨mb, 0, none⟩ = some (.int .u64 0) ∧ w'.cell? ⟨mb, 1, none⟩ = some (.int .u64 0) ∧ w'.cell? ⟨mb, 2, none⟩ = some (.pointer none) ∧ w'.cell? ⟨mb, 3, none⟩ = some (.int .u16 k.s) ∧ w'.cell? ⟨mb, 4, none⟩ = some (.int .u64 0) ∧ w'.cell? ⟨mb, 5, none⟩ = some (.int .u64 0) ∧ w'.cell? ⟨mb, 6, none⟩ = some (.pointer none) ∧ w'.cell? ⟨mb, 7, none⟩ = some (.int .u16 k.d) ∧ w'.cell? ⟨mb, 8, none⟩ = some (.int .u32 k.i) ∧ w'.cell? ⟨mb, 20, none⟩ = some (.int .i64 frag) ∧ w'.heap[mb]? = some (.cells (msg k fw fe (.pointer none) cost frag start) 71 (0, 0)) := by
  refine ⟨?_, ?_, ?_, ?_, ?_, ?_, ?_, ?_, ?_, ?_, hm⟩
  all_goals simp [World.cell?, hm, msg]
theorem see2_alloc {w' : World} {mb : Nat} {k : K} {fw fe cost frag : Int} {start : Bool} {o : Obj} (h : w'.cell? ⟨mb, 0, none⟩ = some (.int .u64 0) ∧ w'.cell? ⟨mb, 1, none⟩ = some (.int .u64 0) ∧ w'.cell? ⟨mb, 2, none⟩ = some (.pointer none) ∧ w'.cell? ⟨mb, 3, none⟩ = some (.int .u16 k.s) ∧ w'.cell? ⟨mb, 4, none⟩ = some (.int .u64 0) ∧ w'.cell? ⟨mb, 5, none⟩ = some (.int .u64 0) ∧ w'.cell? ⟨mb, 6, none⟩ = some (.pointer none) ∧ w'.cell? ⟨mb, 7, none⟩ = some (.int .u16 k.d) ∧ w'.cell? ⟨mb, 8, none⟩ = some (.int .u32 k.i) ∧ w'.cell? ⟨mb, 20, none⟩ = some (.int .i64 frag) ∧ w'.heap[mb]? = some (.cells (msg k fw fe (.pointer none) cost frag start) 71 (0, 0))) : (w'.alloc o).cell? ⟨mb, 0, none⟩ = some (.int .u64 0) ∧ (w'.alloc o).cell? ⟨mb, 1, none⟩ = some (.int .u64 0) ∧ (w'.alloc o).cell? ⟨mb, 2, none⟩ = some (.pointer none) ∧ (w'.alloc o).cell? ⟨mb, 3, none⟩ = some (.int .u16 k.s) ∧ (w'.alloc o).cell? ⟨mb, 4, none⟩ = some (.int .u64 0) ∧ (w'.alloc o).cell? ⟨mb, 5, none⟩ = some (.int .u64 0) ∧ (w'.alloc o).cell? ⟨mb, 6, none⟩ = some (.pointer none) ∧ (w'.alloc o).cell? ⟨mb, 7, none⟩ = some (.int .u16 k.d) ∧ (w'.alloc o).cell? ⟨mb, 8, none⟩ = some (.int .u32 k.i) ∧ (w'.alloc o).cell? ⟨mb, 20, none⟩ = some (.int .i64 frag) ∧ (w'.alloc o).heap[mb]? = some (.cells (msg k fw fe (.pointer none) cost frag start) 71 (0, 0)) := by
  have hm := h.2.2.2.2.2.2.2.2.2.2
  exact see2 ((Below.heap_alloc _ _ _ (lt_of_block hm)).trans hm)

theorem setRow_new (w : World) (old cells : Array Value) (t : TypeId) : (w.alloc (.cells old t)).setRow w.heap.size cells = w.alloc (.cells cells t) := by
  unfold World.setRow World.alloc
  congr 1
  apply Array.ext
  · simp
  · intro i h1 h2
    simp only [Array.getElem_modify, Array.getElem_push]
    by_cases e : i = w.heap.size
    · subst e; simp
    · have : i < w.heap.size := by simp at h2; omega
      simp [this, Ne.symm e]

theorem info88 : (Yba.prog.info? 88).map (·.size) = some 35 := by kernel_rfl

theorem store88 (w : World) (old cells : Array Value) (h1 : old.size = 35) (h2 : cells.size = 35) (h3 : cells.all (·.oneCell') = true) :
    (Instr.storeAt 88 (.pointer (some ⟨w.heap.size, 0, none⟩)) (.agg cells)).run Yba.prog (w.alloc (.cells old 88)) = .ok () (w.alloc (.cells cells 88)) := by
  have h := run_storeVar_row (P := Yba.prog) (w.alloc (.cells old 88)) w.heap.size 88 88 old cells (heap_alloc_new _ _) (by rw [info88, h2]) (by omega) h3
  rw [setRow_new] at h
  simp only [Instr.storeAt, Instr.sureAddr, Sem.run_bind, Sem.run_pure, Result.andThen_ok, h]
theorem store88d (w : World) (old cells : Array Value) (h1 : old.size = 35) (h2 : cells.size = 35) (h3 : cells.all (·.oneCell') = true) :
    (Instr.storeAt 88 (.pointer (some ⟨w.heap.size, 0, none⟩)) (.agg cells)).run Yba.prog (w.alloc (.cells old 88)).drew = .ok () (w.alloc (.cells cells 88)).drew :=
  store88 w.drew old cells h1 h2 h3

theorem build88 (w : World) (s d i frag : Int) (v rs : ByteArray) : (Instr.build 88 #[(0, .agg #[.int .u64 0, .int .u64 0, .pointer none, .int .u16 s]), (1, .agg #[.int .u64 0, .int .u64 0, .pointer none, .int .u16 d]), (7, .string v), (8, .string rs), (11, .int .i64 frag), (12, .int .u32 i)]).run Yba.prog w =
    .ok (.agg (dg ⟨s, d, i⟩ v rs frag)) w :=
  run_build w 88 _ _ (by kernel_rfl)
theorem alloc88 (w : World) : (Instr.alloc 88 true (.tuple #[])).run Yba.prog w = .ok (.pointer (some ⟨w.heap.size, 0, none⟩)) (w.alloc (.cells dz 88)) := by kernel_rfl
theorem dg_size (k : K) (v rs : ByteArray) (frag : Int) : (dg k v rs frag).size = 35 := rfl
theorem dg_one (k : K) (v rs : ByteArray) (frag : Int) : (dg k v rs frag).all (·.oneCell') = true := by simp [dg, Value.oneCell']
theorem storeDg (w : World) (k : K) (v rs : ByteArray) (frag : Int) : (Instr.storeAt 88 (.pointer (some ⟨w.heap.size, 0, none⟩)) (.agg (dg k v rs frag))).run Yba.prog (w.alloc (.cells dz 88)).drew = .ok () (w.alloc (.cells (dg k v rs frag) 88)).drew :=
  store88d w dz _ (dg_size ..) (dg_size ..) (dg_one ..)

theorem see22 {w' : World} {rb : Nat} {C : Nat → Value} {tmo mp : Int} {n : Nat} (h : w'.cell? ⟨rb, 0, none⟩ = some (.int .i64 0) ∧ w'.cell? ⟨rb, 1, none⟩ = some (.slice none 0 0) ∧ w'.cell? ⟨rb, 2, none⟩ = some (.bool false) ∧ w'.cell? ⟨rb, 3, none⟩ = some (.int .i64 0) ∧ w'.cell? ⟨rb, 4, none⟩ = some (.int .i64 tmo) ∧ w'.cell? ⟨rb, 5, none⟩ = some (.int .i64 mp) ∧ w'.cell? ⟨rb, 6, none⟩ = some (.int .i64 0) ∧ w'.cell? ⟨rb, 22, none⟩ = some (.int .i64 (n : Int)) ∧ w'.rowIs rb 47 26 C) : w'.cell? ⟨rb, 18 + 4, none⟩ = some (.int .i64 (n : Int)) := h.2.2.2.2.2.2.2.1

/-- What stands behind the first n statements. -/
def tl : Nat → Code → Code
  | 0, c => c
  | n + 1, .seq _ b => tl n b
  | _, c => c
end Go.Proofs.Ybulkakzc

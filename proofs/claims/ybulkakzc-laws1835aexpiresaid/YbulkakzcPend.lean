/-
  THE LAW OF ABANDONING (seat b1835a): its input; a message that is made to wait.
-/
import Derived.Test.YbulkakzcR22
namespace Go.Proofs.Ybulkakzc
open Go.RowKit
set_option linter.unusedSimpArgs false

/-- A step of the law's input. -/
structure Stp where
  id : Int
  s : Int
  d : Int
  st : Bool
  fr : Int
  pe : Bool
  co : Int
  re : Int
def Stp.key (x : Stp) : K := ⟨x.s, x.d, x.id⟩
structure Stp.Ok (x : Stp) : Prop where
  c0 : 0 ≤ x.co
  c1 : x.co < 65536
  r0 : 0 ≤ x.re
  r1 : x.re < 256
def stc (x : Stp) : Array Value := #[.int .u32 x.id, .int .u16 x.s, .int .u16 x.d, .bool x.st, .int .i64 x.fr, .bool x.pe, .int .u16 x.co, .int .u8 x.re]
/-- A step in memory. -/
def StepAt (w : World) (b o : Nat) (x : Stp) : Prop := w.cell? ⟨b, o, none⟩ = some (.int .u32 x.id) ∧ w.cell? ⟨b, o + 1, none⟩ = some (.int .u16 x.s) ∧ w.cell? ⟨b, o + 2, none⟩ = some (.int .u16 x.d) ∧ w.cell? ⟨b, o + 3, none⟩ = some (.bool x.st) ∧ w.cell? ⟨b, o + 4, none⟩ = some (.int .i64 x.fr) ∧ w.cell? ⟨b, o + 5, none⟩ = some (.bool x.pe) ∧ w.cell? ⟨b, o + 6, none⟩ = some (.int .u16 x.co) ∧ w.cell? ⟨b, o + 7, none⟩ = some (.int .u8 x.re)
theorem StepAt.of_block {w w' : World} {b o : Nat} {x : Stp} (h : StepAt w b o x) (e : w'.heap[b]? = w.heap[b]?) : StepAt w' b o x := by
  have c : ∀ j, w'.cell? ⟨b, j, none⟩ = w.cell? ⟨b, j, none⟩ := fun j => World.cell?_of_block (a := ⟨b, j, none⟩) e
  obtain ⟨h0, h1, h2, h3, h4, h5, h6, h7⟩ := h
  exact ⟨(c _).trans h0, (c _).trans h1, (c _).trans h2, (c _).trans h3, (c _).trans h4, (c _).trans h5, (c _).trans h6, (c _).trans h7⟩

/-- The law's input: n steps. -/
structure Inp (w : World) (ao : Option Addr) (n b off : Nat) (S : Nat → Stp) : Prop where
  addr : 0 < n → ao = some ⟨b, off, none⟩
  lt : 0 < n → b < w.heap.size
  at_ : ∀ i, i < n → StepAt w b (off + i * 8) (S i)
  ok : ∀ i, i < n → (S i).Ok

/-- The body of the law's first loop: block 2. -/
def blk2 : Code → Code
  | .block 2 c => .block 2 c
  | .block _ c => blk2 c
  | .loop c => blk2 c
  | .seq x y => match blk2 x with | .skip => blk2 y | z => z
  | _ => .skip

/-- What holds at a round's head. -/
structure Inv (w0 w : World) (rb pm am mo qb : Nat) (m pk : Int) (al ml : List En) (fl : List Fq) (qv : Value) : Prop where
  core : Core w0 w rb pm am mo qb m pk al ml fl qv (fl.map (·.k))
  keys : keysOf ml = keysOf al
  tr : AllT ml
  zero : ∀ x ∈ fl, x.aw = 0 ∧ x.ae = 0
  le : (fl.length : Int) ≤ 16 * lim m

/-- The books behind a message that has been made to wait. -/
theorem pend_post {w4 w5 w7 : World} {rb pm am : Nat} {C C5 : Nat → Value} {m pk : Int} {al pl' : List En} {fg : List (Nat × Value)} {mb : Nat} {v : Value} {k : K} {co fr : Int} {st : Bool} {c : Nat}
    (h : RS w4 rb pm am C 0 m 0 0 0 pk [] al [] fg) (hm : Msg w4 mb k 0 0 (.pointer none) co fr st) (hz5 : w5.heap.size = w4.heap.size + 1) (hr5 : w5.rowIs rb 47 26 C5) (hR5 : Ring w5 rb 11 C5 [(w4.heap.size, v)]) (hC5 : ∀ j, j ≠ 11 → j ≠ 11 + 1 → j ≠ 11 + 4 → C5 j = C j) (hQ5 : QOnly rb [] w4 w5)
    (ho : OnlyB pm (w5.setCell ⟨mb, 12, none⟩ (P2 w4.heap.size 0)) w7) (hb7 : w7.heap[pm]? = some (.map (ents pl') c)) :
    (∃ C', RS (w7.setCell ⟨rb, 16, none⟩ (.int .i64 co)) rb pm am C' 0 m 0 0 co pk pl' al [(w4.heap.size, v)] fg) ∧ Msg (w7.setCell ⟨rb, 16, none⟩ (.int .i64 co)) mb k 0 0 (P2 w4.heap.size 0) co fr st ∧
      (w7.setCell ⟨rb, 16, none⟩ (.int .i64 co)).os = w4.os ∧ (w7.setCell ⟨rb, 16, none⟩ (.int .i64 co)).output = w4.output ∧ w4.heap.size ≤ (w7.setCell ⟨rb, 16, none⟩ (.int .i64 co)).heap.size ∧
      (∀ j, j < w4.heap.size → j ≠ rb → j ≠ pm → j ≠ mb → (w7.setCell ⟨rb, 16, none⟩ (.int .i64 co)).heap[j]? = w4.heap[j]?) ∧ w7.rowIs rb 47 26 C5 ∧ Msg w7 mb k 0 0 (P2 w4.heap.size 0) co fr st := by
  obtain ⟨cp, hp⟩ := h.pmap
  obtain ⟨ca, ha⟩ := h.amap
  have hpr : pm ≠ rb := ne_map_row hp h.row
  have har : am ≠ rb := ne_map_row ha h.row
  have hpf : pm ∉ blks fg := ne_map_dq hp h.qf
  have hmr : mb ≠ rb := ne_msg_row hm h.row (by decide)
  have hmf : mb ∉ blks fg := ne_msg_dq hm h.qf
  have hmp : mb ≠ pm := ne_msg_map hm hp
  have hma : mb ≠ am := ne_msg_map hm ha
  have zp := lt_of_block hp
  have za := lt_of_block ha
  have zm := lt_of_block hm
  have zr := h.row.lt
  have hm5 : w5.heap[mb]? = some (.cells (msg k 0 0 (.pointer none) co fr st) 71 (0, 0)) := (hQ5.block mb zm hmr (by simp)).trans hm
  have h6 : ∀ j, j ≠ mb → (w5.setCell ⟨mb, 12, none⟩ (P2 w4.heap.size 0)).heap[j]? = w5.heap[j]? := fun j hj => heap_set_other _ _ _ hj
  have hm6 : (w5.setCell ⟨mb, 12, none⟩ (P2 w4.heap.size 0)).heap[mb]? = some (.cells (msg k 0 0 (P2 w4.heap.size 0) co fr st) 71 (0, 0)) := by
    rw [heap_set_same hm5]
    rfl
  have hr7 : w7.rowIs rb 47 26 C5 := (hr5.of_block (h6 rb (Ne.symm hmr))).of_block (ho.block rb (Ne.symm hpr))
  have hm7 : w7.heap[mb]? = some (.cells (msg k 0 0 (P2 w4.heap.size 0) co fr st) 71 (0, 0)) := (ho.block mb hmp).trans hm6
  have h8 : ∀ j, j ≠ rb → (w7.setCell ⟨rb, 16, none⟩ (.int .i64 co)).heap[j]? = w7.heap[j]? := fun j hj => heap_set_other _ _ _ hj
  have hk : ∀ j, j < w4.heap.size → j ≠ rb → j ≠ pm → j ≠ mb → (w7.setCell ⟨rb, 16, none⟩ (.int .i64 co)).heap[j]? = w4.heap[j]? := fun j h1 h2 h3 h4 => (((h8 j h2).trans (ho.block j h3)).trans (h6 j h4)).trans (hQ5.block j h1 h2 (by simp))
  have z7 : w7.heap.size = w4.heap.size + 1 := by rw [ho.size, World.size_setCell, hz5]
  refine ⟨⟨up1 C5 16 (.int .i64 co), row_up hr7 16 _, (h.rc.of (Or.inl rfl) hC5).held _, ⟨c, (h8 pm hpr).trans hb7⟩, ⟨ca, (hk am za har (Ne.symm h.mm) (Ne.symm hma)).trans ha⟩, ?_, ?_, ?_, h.mm⟩, (h8 mb hmr).trans hm7, ho.os.trans hQ5.os, ho.output.trans hQ5.output, by rw [World.size_setCell, z7]; omega, hk, hr7, hm7⟩
  · have hD : DQ w5 rb 11 C5 [(w4.heap.size, v)] := Or.inr hR5
    refine hD.congr (fun b hb => ?_) (up1_other _ _ (by omega)) (up1_other _ _ (by omega)) (up1_other _ _ (by omega))
    simp only [blks, List.map_cons, List.map_nil, List.mem_singleton] at hb
    subst hb
    exact ((h8 _ (by omega)).trans (ho.block _ (by omega))).trans (h6 _ (by omega))
  · have hne : ∀ b ∈ blks fg, b ≠ rb := dq_ne h.qf
    refine h.qf.congr (fun b hb => hk b (h.qf.blks_lt b hb) (hne b hb) (fun e => hpf (e ▸ hb)) (fun e => hmf (e ▸ hb))) ((up1_other _ _ (by omega)).trans (hC5 18 (by omega) (by omega) (by omega))) ((up1_other _ _ (by omega)).trans (hC5 19 (by omega) (by omega) (by omega))) ((up1_other _ _ (by omega)).trans (hC5 22 (by omega) (by omega) (by omega)))
  · intro b hb hb'
    simp only [blks, List.map_cons, List.map_nil, List.mem_singleton] at hb
    subst hb
    have := h.qf.blks_lt _ hb'
    omega

/-- Behind the first part of a round: the message waits, or does not. -/
structure Pd (wr w : World) (rb pm am : Nat) (m pk : Int) (al : List En) (fl : List Fq) (sb kb mb : Nat) (x : Stp) : Prop where
  os : w.os = wr.os
  output : w.output = wr.output
  size : wr.heap.size ≤ w.heap.size
  block : ∀ j, j < wr.heap.size → j ≠ rb → j ≠ pm → w.heap[j]? = wr.heap[j]?
  hs : w.heap[sb]? = some (.cells (stc x) 99 (0, 0))
  hk : w.heap[kb]? = some (.cells (kc x.key).toArray 60 (0, 0))
  alt : (∃ C, RS w rb pm am C 0 m 0 0 0 pk [] al [] (fgs fl) ∧ Msg w mb x.key 0 0 (.pointer none) 0 x.fr x.st) ∨
    (∃ C eb v pl, RS w rb pm am C 0 m 0 0 x.co pk pl al [(eb, v)] (fgs fl) ∧ dele x.key pl = [] ∧ wr.heap.size ≤ eb ∧ Msg w mb x.key 0 0 (P2 eb 0) x.co x.fr x.st)

theorem same_drewN (w : World) (n : Nat) : Same w (w.drewN n) := by
  induction n with
  | zero => exact Same.refl w
  | succ n ih => exact ⟨ih.os, ih.output, ih.size, ih.block⟩

theorem Pd.drew {wr w : World} {rb pm am : Nat} {m pk : Int} {al : List En} {fl : List Fq} {sb kb mb : Nat} {x : Stp} (h : Pd wr w rb pm am m pk al fl sb kb mb x) : Pd wr w.drew rb pm am m pk al fl sb kb mb x := by
  refine ⟨h.os, h.output, h.size, h.block, h.hs, h.hk, ?_⟩
  rcases h.alt with ⟨C, h1, h2⟩ | ⟨C, eb, v, pl, h1, h2, h3, h4⟩
  · exact Or.inl ⟨C, h1.drew, h2⟩
  · exact Or.inr ⟨C, eb, v, pl, h1.drew, h2, h3, h4⟩
end Go.Proofs.Ybulkakzc

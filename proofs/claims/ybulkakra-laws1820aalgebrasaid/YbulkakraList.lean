/-
  LISTS AND RUNS of seat b1820a.
-/
import Derived.Test.YbulkakraMem
import Derived.Deep.LoopGhost
import Derived.Deep.DeepCutAuto
import Derived.Deep.RegionLaw
import Derived.Deep.RegionHeld3
import Derived.Laws.BitsLemmas
namespace Go.Proofs.Ybulkakra
open Go.RowKit
set_option linter.unusedSimpArgs false
set_option linter.unusedVariables false

/-- An old cell behind an alloc. -/
theorem cellA {w : World} {a : Addr} {v : Value} (h : w.cell? a = some v) (o : Obj) : (w.alloc o).cell? a = some v := by rw [World.cell?_of_block (Below.heap_alloc _ _ _ (World.block_lt_of_cell? _ _ h)), h]
theorem frozA {w : World} {a : Addr} {f : Bool} (hb : a.block < w.heap.size) (h : w.frozen? a = f) (o : Obj) : (w.alloc o).frozen? a = f := by rw [World.frozen?_of_block (Below.heap_alloc _ _ _ hb), h]

theorem heap_setCells (b x : Nat) (hx : x ≠ b) : ∀ (vs : List Value) (o : Nat) (w : World), (w.setCells b o vs).heap[x]? = w.heap[x]?
  | [], _, _ => rfl
  | v :: vs, o, w => by rw [World.setCells, heap_setCells b x hx vs, Below.heap_setCell _ _ _ _ hx]
theorem frozen_setCells (b : Nat) (a : Addr) : ∀ (vs : List Value) (o : Nat) (w : World), (w.setCells b o vs).frozen? a = w.frozen? a
  | [], _, _ => rfl
  | v :: vs, o, w => by rw [World.setCells, frozen_setCells b a vs, World.frozen?_setCell]
theorem cellS {w : World} {a : Addr} {v : Value} (h : w.cell? a = some v) {b : Nat} (hb : a.block ≠ b) (o : Nat) (vs : List Value) : (w.setCells b o vs).cell? a = some v := by rw [World.cell?_of_block (heap_setCells _ _ hb _ _ _), h]

/-- Cells laid one by one. -/
def upL (f : Nat → Value) : Nat → List Value → Nat → Value
  | _, [] => f
  | o, v :: vs => upL (up1 f o v) (o + 1) vs
theorem Row.setL {b n : Nat} : ∀ (vs : List Value) {f : Nat → Value} {w : World} (_ : Row w b n f) (o : Nat), Row (w.setCells b o vs) b n (upL f o vs)
  | [], _, _, h, _ => h
  | v :: vs, _, _, h, o => Row.setL vs (h.set o v) (o + 1)

/-- append of a slice just built, where there is room, as one step of a region that draws. -/
theorem step_room {ops : Array Oper} {o : Oper} {a : Act} {W : World} {K : Act → World → Prop} {Q : Exit → Act → World → Prop} {E : Prop}
    (hg : o.guard = none) (s x : Operand) (t e : TypeId) (z : Nat) (he : Elem t e z) (hop : o.op = Op.call { callee := Callee.builtin Builtin.append, args := #[s, x], argTypes := #[t, t] })
    (cs : Array Value) (T : TypeId) (b n cap m : Nat) (hs : a.eval s = .slice (some ⟨b, 0, none⟩) n cap) (hx : a.eval x = .slice (some ⟨W.heap.size, 0, none⟩) m m) (hn : cs.size = m * z) (h1c : ∀ u ∈ cs.toList, u.oneCell' = true)
    (hroom : n + m ≤ cap) (hspare : ∀ j, j < m * z → (W.cell? ⟨b, n * z + j, none⟩).isSome = true ∧ W.frozen? ⟨b, n * z + j, none⟩ = false)
    (hK : K (a.put o.dst (.slice (some ⟨b, 0, none⟩) (n + m) cap)) ((W.alloc (.cells cs T)).setCells b (n * z) cs.toList)) :
    if Region.wanted o (yielded ops a.tmps) = true then Oper.wp Yba.prog o a (W.alloc (.cells cs T)) K Q else E := by
  obtain ⟨hu, i, zv, hi, hz0, hz1, _⟩ := he
  refine step_append_room hg s x t hop e i z hu hi hz1 b 0 n cap hs ⟨W.heap.size, 0, none⟩ m m cs.toList hx (by simpa using hn) ?_ h1c hroom ?_ (by rw [Nat.zero_add]; exact hK)
  · intro j u hj
    unfold World.cell?
    rw [show (Addr.add ⟨W.heap.size, 0, none⟩ j) = ⟨W.heap.size, 0 + j, none⟩ by cases j <;> simp [Addr.add], heap_alloc_new]
    simpa using hj
  · intro j hj
    rw [Nat.zero_add]
    obtain ⟨h1, h2⟩ := hspare j (by simpa [hn] using hj)
    obtain ⟨v, hv⟩ := Option.isSome_iff_exists.1 h1
    exact ⟨by rw [cellA hv]; rfl, frozA (World.block_lt_of_cell? _ _ hv) h2 _⟩

set_option maxRecDepth 100000 in
set_option maxHeartbeats 400000 in
theorem list_more (w : World) (d o ob cb n c0 : Nat) (x y z : Int)
    (h0 : w.cell? ⟨d, o, none⟩ = some (.slice (some ⟨ob, 0, none⟩) 1 c0)) (h1 : w.cell? ⟨d, o + 1, none⟩ = some (.int .i64 (n : Int))) (f1 : w.frozen? ⟨d, o + 1, none⟩ = false)
    (h2 : w.cell? ⟨ob, 0, none⟩ = some (.slice (some ⟨cb, 0, none⟩) n 65536)) (f2 : w.frozen? ⟨ob, 0, none⟩ = false) (hn : n < 65536)
    (hs : ∀ j, j < 3 → (w.cell? ⟨cb, n * 3 + j, none⟩).isSome = true ∧ w.frozen? ⟨cb, n * 3 + j, none⟩ = false) (n1 : d ≠ ob) (n2 : cb ≠ d) (n3 : cb ≠ ob) :
    Calls Yba.prog 39 #[.pointer (some ⟨d, o, none⟩), .agg #[.int .u32 x, .int .u32 y, .int .u32 z]] w fun e w' => e = .returned (.tuple #[]) ∧ ∃ N, w' = (((((w.alloc (.cells #[.int .u32 x, .int .u32 y, .int .u32 z] 96)).drewN N).alloc (.cells #[.int .u32 x, .int .u32 y, .int .u32 z] 96)).setCells cb (n * 3) [.int .u32 x, .int .u32 y, .int .u32 z]).setCell ⟨ob, 0, none⟩ (.slice (some ⟨cb, 0, none⟩) (n + 1) 65536)).setCell ⟨d, o + 1, none⟩ (.int .i64 ((n : Int) + 1)) := by
  have e1 : decide ((n : Int) = 65536) = false := by simp; omega
  have e2 : ((n : Int) == 65536) = false := by simp; omega
  have k0 := cellA h0 (.cells #[.int .u32 x, .int .u32 y, .int .u32 z] 96)
  have k1 := cellA h1 (.cells #[.int .u32 x, .int .u32 y, .int .u32 z] 96)
  have k2 := cellA h2 (.cells #[.int .u32 x, .int .u32 y, .int .u32 z] 96)
  have g1 := frozA (World.block_lt_of_cell? _ _ h1) f1 (.cells #[.int .u32 x, .int .u32 y, .int .u32 z] 96)
  have g2 := frozA (World.block_lt_of_cell? _ _ h2) f2 (.cells #[.int .u32 x, .int .u32 y, .int .u32 z] 96)
  have hs' : ∀ j, j < 3 → ((w.alloc (.cells #[.int .u32 x, .int .u32 y, .int .u32 z] 96)).cell? ⟨cb, n * 3 + j, none⟩).isSome = true ∧ (w.alloc (.cells #[.int .u32 x, .int .u32 y, .int .u32 z] 96)).frozen? ⟨cb, n * 3 + j, none⟩ = false := fun j hj => by
    obtain ⟨v, hv⟩ := Option.isSome_iff_exists.1 (hs j hj).1
    exact ⟨by rw [cellA hv]; rfl, frozA (World.block_lt_of_cell? _ _ hv) (hs j hj).2 _⟩
  have kb := Row.new w #[.int .u32 x, .int .u32 y, .int .u32 z] 96 3 (fun i => (#[Value.int .u32 x, .int .u32 y, .int .u32 z][i]?).getD (.bool true)) (fun i hi => by
    rcases i with _ | _ | _ | i <;> first | rfl | omega)
  have b0 := (kb 0 (by omega)).1
  have b1 := (kb 1 (by omega)).1
  have b2 := (kb 2 (by omega)).1
  clear kb
  dsimp only at b0 b1 b2
  go_enter Yba.func39, Yba.ntmps39
  go_upto_region 1 with fail
  generalize hw1 : w.alloc (.cells #[.int .u32 x, .int .u32 y, .int .u32 z] 96) = w1 at *
  have HW : Hid _ := hw1
  clear hw1
  go_upto_region 4 with fail
  have q0 : ∀ N, (w1.drewN N).cell? ⟨d, o, none⟩ = some (.slice (some ⟨ob, 0, none⟩) 1 c0) := fun N => k0
  have q5 : ∀ N O, ((w1.drewN N).alloc O).cell? ⟨ob, 0, none⟩ = some (.slice (some ⟨cb, 0, none⟩) n 65536) := fun N O => cellA (w := w1.drewN N) k2 O
  have q1 : ∀ N O vs, (((w1.drewN N).alloc O).setCells cb (n * 3) vs).cell? ⟨ob, 0, none⟩ = some (.slice (some ⟨cb, 0, none⟩) n 65536) := fun N O vs => cellS (cellA (w := w1.drewN N) k2 O) (Ne.symm n3) _ _
  have q2 : ∀ N O vs, (((w1.drewN N).alloc O).setCells cb (n * 3) vs).frozen? ⟨ob, 0, none⟩ = false := fun N O vs => (frozen_setCells _ _ _ _ _).trans (frozA (w := w1.drewN N) (World.block_lt_of_cell? _ _ k2) g2 O)
  have q3 : ∀ N O vs, (((w1.drewN N).alloc O).setCells cb (n * 3) vs).cell? ⟨d, o + 1, none⟩ = some (.int .i64 (n : Int)) := fun N O vs => cellS (cellA (w := w1.drewN N) k1 O) (Ne.symm n2) _ _
  have q4 : ∀ N O vs, (((w1.drewN N).alloc O).setCells cb (n * 3) vs).frozen? ⟨d, o + 1, none⟩ = false := fun N O vs => (frozen_setCells _ _ _ _ _).trans (frozA (w := w1.drewN N) (World.block_lt_of_cell? _ _ k1) g1 O)
  have hw : IntKind.i64.wrap ((n : Int) + 1) = ((n + 1 : Nat) : Int) := by rw [IntKind.wrap_i64]; omega
  have n1' := n1.symm
  go_quiet (fail)
  go_upto_region 5 with fail
  go_region_law (refine step_room (by rfl) (.tmp 49) (.tmp 51) 123 96 3 elem123 (by rfl) _ _ cb n 65536 1 (by simp [Act.eval, Act.put]) (by simp [Act.eval, Act.put]) (by rfl) (by simp [Value.oneCell']) (by omega) (by intro j hj; exact hs' j hj) ?_)
  all_goals (go_wp2; go_end0; refine ⟨rfl, nq + 1, ?_⟩; rw [HW.out])
theorem add_zero' (b j : Nat) : (Addr.add ⟨b, 0, none⟩ j) = ⟨b, j, none⟩ := by cases j <;> simp [Addr.add]
/-- append, onto any slice, as one step of a region that draws. -/
theorem step_app {ops : Array Oper} {o : Oper} {a : Act} {w : World} {K : Act → World → Prop} {Q : Exit → Act → World → Prop} {E : Prop}
    (hg : o.guard = none) (s x : Operand) (t e : TypeId) (z : Nat) (he : Elem t e z) (hz : 0 < z) (hop : o.op = Op.call { callee := Callee.builtin Builtin.append, args := #[s, x], argTypes := #[t, t] })
    {tg : Nat → Nat} {r n cap : Nat} {v : Value} {f : Nat → Value} (h : Sl tg w r z v n cap f) (xv : Value) (m : Nat) (news : List Value) (hsrc : Src Yba.prog z t xv m news w) (hs : a.eval s = v) (hx : a.eval x = xv)
    (hm : n + m ≤ 1000000000)
    (hK : ∀ v' w' tg' cap' f', Sl tg' w' r z v' (n + m) cap' f' → (∀ i, i < n * z → f' i = f i) → (∀ j u, news[j]? = some u → f' (n * z + j) = u) → Fr (· = r) tg w tg' w' → (cap = 0 → 0 < m → (∃ g, v' = .slice (some ⟨g, 0, none⟩) (n + m) cap' ∧ w.heap.size ≤ g) ∧ ∀ j, j < w.heap.size → w'.heap[j]? = w.heap[j]?) → K (a.put o.dst v') w') :
    if Region.wanted o (yielded ops a.tmps) = true then Oper.wp Yba.prog o a w K Q else E := by
  have hw : Region.wanted o (yielded ops a.tmps) = true := by simp [Region.wanted, hg]
  rw [if_pos hw]
  obtain ⟨v', w', tg', cap', f', hrun, h1, h2, h3, h4, _, h5⟩ := h.append he o.type hz xv m news hsrc hm
  unfold Oper.wp
  simp [execOp, hop, resolve, invoke, builtin, hs, hx, hrun, Result.andThen]
  exact hK v' w' tg' cap' f' h1 h2 h3 h4 h5
theorem src_one {w : World} {t e : TypeId} (hk : Yba.prog.underlying t = some (.slice e)) {b : Nat} {u : Value} (h : w.cell? ⟨b, 0, none⟩ = some u) (h1 : u.oneCell' = true) : Src Yba.prog 1 t (.slice (some ⟨b, 0, none⟩) 1 1) 1 [u] w := by
  refine Src.ofSlice _ hk _ _ _ _ rfl (fun j v hj => ?_) (by simpa using h1)
  rw [add_zero']
  cases j with
  | zero => simp at hj; rw [h, hj]
  | succ j => simp at hj
theorem cell_new0 (w : World) (u : Value) (T : TypeId) : (w.alloc (.cells #[u] T)).cell? ⟨w.heap.size, 0, none⟩ = some u := by
  unfold World.cell?
  rw [heap_alloc_new]
  rfl

/-- The three stores of an add. -/
theorem add_rows {W : World} {d nd ob c0 cb L o n z : Nat} {C g h : Nat → Value} (vs : List Value) (v1 v2 : Value) (hd : Row W d nd C) (hb : Row W ob c0 g) (hc : Row W cb L h) (n1 : d ≠ ob) (n2 : cb ≠ d) (n3 : cb ≠ ob) :
    Row (((W.setCells cb (n * z) vs).setCell ⟨ob, 0, none⟩ v1).setCell ⟨d, o, none⟩ v2) d nd (up1 C o v2) ∧ Row (((W.setCells cb (n * z) vs).setCell ⟨ob, 0, none⟩ v1).setCell ⟨d, o, none⟩ v2) ob c0 (up1 g 0 v1) ∧ Row (((W.setCells cb (n * z) vs).setCell ⟨ob, 0, none⟩ v1).setCell ⟨d, o, none⟩ v2) cb L (upL h (n * z) vs) := by
  refine ⟨((hd.of_block (heap_setCells _ _ (Ne.symm n2) _ _ _)).setOther (a := ⟨ob, 0, none⟩) n1 v1).set o v2, ((hb.of_block (heap_setCells _ _ (Ne.symm n3) _ _ _)).set 0 v1).setOther (a := ⟨d, o, none⟩) (Ne.symm n1) v2, ?_⟩
  exact ((Row.setL vs hc (n * z)).setOther (a := ⟨ob, 0, none⟩) n3 v1).setOther (a := ⟨d, o, none⟩) n2 v2

theorem slice_blk {g h n c : Nat} (e : Value.slice (some ⟨g, 0, none⟩) n c = .slice (some ⟨h, 0, none⟩) n c) : g = h := by
  simp at e
  exact e
theorem Fr.fromDrew {R : Nat → Prop} {tg tg' : Nat → Nat} {w w' : World} (h : Fr R tg w.drew tg' w') : Fr R tg w tg' w' := ⟨h.os, h.output, h.size, h.tag, h.block⟩
theorem Fr.setL {R : Nat → Prop} {tg tg' : Nat → Nat} {w : World} {b : Nat} (hb : w.heap.size ≤ b ∨ R (tg b)) : ∀ (vs : List Value) {w' : World} (_ : Fr R tg w tg' w') (o : Nat), Fr R tg w tg' (w'.setCells b o vs)
  | [], _, h, _ => h
  | v :: vs, _, h, o => Fr.setL hb vs (h.set (a := ⟨b, o, none⟩) hb v) (o + 1)
theorem World.size_setCell' (w : World) (a : Addr) (v : Value) : (w.setCell a v).heap.size = w.heap.size := World.size_setCell ..
/-- What a first add leaves. -/
def FirstP (w w' : World) (d o nd : Nat) (C : Nat → Value) (tg : Nat → Nat) (rO rC z : Nat) (vs : List Value) : Prop :=
  ∃ ob cb c0 tg' g f0, Row w' d nd (up1 (up1 C o (.slice (some ⟨ob, 0, none⟩) 1 c0)) (o + 1) (.int .i64 1)) ∧ Row w' ob c0 (up1 g 0 (.slice (some ⟨cb, 0, none⟩) 1 65536)) ∧ 1 ≤ c0 ∧ Row w' cb (65536 * z) (upL f0 0 vs) ∧ tg' ob = rO ∧ tg' cb = rC ∧ ob < w'.heap.size ∧ cb < w'.heap.size ∧ Fr (· = tg d) tg w tg' w'
theorem first_rel {w w1 wA : World} {d o nd gb cap' rO rC : Nat} {C f0 f' F3 : Nat → Value} {tg tg0 tg' : Nat → Nat} {cs : Array Value} {T : TypeId} (H1 : Row w1 d nd C) (H2 : Fr (· = tg d) tg w (tagAt tg w.heap.size 0) w1) (H3 : Row w1 w.heap.size 3 F3) (H5 : ∀ i, i < 65536 * 3 → cs[i]? = some (f0 i)) (H6 : w1.heap.size = w.heap.size + 1) (H7 : ∀ j, j < ((w1.alloc (.cells cs 96)).alloc (.cells #[.slice (some ⟨w1.heap.size, 0, none⟩) 0 65536] T)).heap.size → wA.heap[j]? = ((w1.alloc (.cells cs 96)).alloc (.cells #[.slice (some ⟨w1.heap.size, 0, none⟩) 0 65536] T)).heap[j]?) (H8 : ((w1.alloc (.cells cs 96)).alloc (.cells #[.slice (some ⟨w1.heap.size, 0, none⟩) 0 65536] T)).heap.size ≤ gb)
    (HT : tg0 = tagAt (tagAt (tagAt tg w.heap.size 0) (w1.heap.size) rC) (w1.heap.size + 1) 0) (HA : Sl tg' wA rO 1 (.slice (some ⟨gb, 0, none⟩) (0 + 1) cap') (0 + 1) cap' f')
    (HO : ∀ j u, [(Value.slice (some ⟨w1.heap.size, 0, none⟩) 0 65536)][j]? = some u → f' (0 * 1 + j) = u) (HF : Fr (· = rO) tg0 ((w1.alloc (.cells cs 96)).alloc (.cells #[.slice (some ⟨w1.heap.size, 0, none⟩) 0 65536] T)) tg' wA) (HR : Row wA gb (cap' * 1) f') (hgl : gb < wA.heap.size) (hgt : tg' gb = rO)
    (hdl : d < w.heap.size) (hcs : cs.size = 65536 * 3) (hrO : rO ≠ tg d) (hrC : rC ≠ tg d) (hrr : rO ≠ rC) (ho : o + 1 < nd) :
    Row (wA.setCell ⟨d, o, none⟩ (.slice (some ⟨gb, 0, none⟩) 1 cap')) d nd (up1 C o (.slice (some ⟨gb, 0, none⟩) 1 cap')) ∧ Row (wA.setCell ⟨d, o, none⟩ (.slice (some ⟨gb, 0, none⟩) 1 cap')) gb cap' f' ∧ 1 ≤ cap' ∧ f' 0 = .slice (some ⟨w1.heap.size, 0, none⟩) 0 65536 ∧ Row (wA.setCell ⟨d, o, none⟩ (.slice (some ⟨gb, 0, none⟩) 1 cap')) w1.heap.size (65536 * 3) f0 ∧ tg' gb = rO ∧ tg' w1.heap.size = rC ∧ Fr (· = tg d) tg w tg' (wA.setCell ⟨d, o, none⟩ (.slice (some ⟨gb, 0, none⟩) 1 cap')) ∧ w.heap.size < gb ∧ w.heap.size < w1.heap.size ∧ Row (wA.setCell ⟨d, o, none⟩ (.slice (some ⟨gb, 0, none⟩) 1 cap')) w.heap.size 3 F3 := by
  have s1 := World.size_alloc w1 (.cells cs 96)
  have s2 := World.size_alloc (w1.alloc (.cells cs 96)) (.cells #[.slice (some ⟨w1.heap.size, 0, none⟩) 0 65536] T)
  have t1 : ∀ b, b < w.heap.size → tg0 b = tg b := fun b hb => by rw [HT, tagAt_other _ (by omega), tagAt_other _ (by omega), tagAt_other _ (by omega)]
  have t2 : tg0 w.heap.size = 0 := by rw [HT, tagAt_other _ (by omega), tagAt_other _ (by omega), tagAt_same]
  have t3 : tg0 w1.heap.size = rC := by rw [HT, tagAt_other _ (by omega), tagAt_same]
  have t4 : tg0 (w1.heap.size + 1) = 0 := by rw [HT, tagAt_same]
  have hbig : w.heap.size < gb := by omega
  have e1 : d ≠ gb := by omega
  have B : ∀ b, b < w1.heap.size → wA.heap[b]? = w1.heap[b]? := fun b hb => by
    rw [H7 b (by omega), Below.heap_alloc _ _ _ (by omega), Below.heap_alloc _ _ _ hb]
  refine ⟨?_, ?_, by have := HA.le; omega, ?_, ?_, hgt, ?_, ?_, hbig, by omega, ?_⟩
  · exact (H1.of_block (B d (by omega))).set o _
  · rw [Nat.mul_one] at HR
    exact HR.setOther (a := ⟨d, o, none⟩) (Ne.symm e1) _
  · exact HO 0 _ rfl
  · refine Row.setOther (a := ⟨d, o, none⟩) ?_ (by show w1.heap.size ≠ d; omega) _
    have hr := Row.new w1 cs 96 (65536 * 3) f0 H5
    refine hr.of_block ?_
    rw [H7 _ (by omega), Below.heap_alloc _ _ _ (by omega)]
  · rw [HF.tag _ (by omega), t3]
  · have hq : Fr (· = tg d) tg w tg' wA := ?_
    · exact hq.set (a := ⟨d, o, none⟩) (.inr rfl) _
    refine ⟨?_, ?_, ?_, ?_, ?_⟩
    · exact HF.os.trans H2.os
    · exact HF.output.trans H2.output
    · have := HF.size; omega
    · intro b hb
      rw [HF.tag b (by omega), t1 b hb]
    · intro b hb hr
      rw [B b (by omega)]
      exact H2.block b hb hr
  · refine Row.setOther (a := ⟨d, o, none⟩) ?_ (by show w.heap.size ≠ d; omega) _
    exact H3.of_block (B _ (by omega))

theorem first_end {w wc : World} {d o nd ob cb c0 N rO rC z : Nat} {C g f0 : Nat → Value} {tg tg' : Nat → Nat} (vs : List Value) (O : Obj) (J1 : Row wc d nd (up1 C o (.slice (some ⟨ob, 0, none⟩) 1 c0))) (J2 : Row wc ob c0 g) (J5 : Row wc cb (65536 * z) f0) (J8 : Fr (· = tg d) tg w tg' wc) (hc3 : 1 ≤ c0) (hc6 : tg' ob = rO) (hc7 : tg' cb = rC) (hc9 : w.heap.size < ob) (hc10 : w.heap.size < cb) (n1 : d ≠ ob) (n2 : cb ≠ d) (n3 : cb ≠ ob) (hnd : 0 < nd) (hz : 0 < z) :
    let w' := (((((wc.drewN N).alloc O).setCells cb 0 vs).setCell ⟨ob, 0, none⟩ (.slice (some ⟨cb, 0, none⟩) 1 65536)).setCell ⟨d, o + 1, none⟩ (.int .i64 1))
    Row w' d nd (up1 (up1 C o (.slice (some ⟨ob, 0, none⟩) 1 c0)) (o + 1) (.int .i64 1)) ∧ Row w' ob c0 (up1 g 0 (.slice (some ⟨cb, 0, none⟩) 1 65536)) ∧ 1 ≤ c0 ∧ Row w' cb (65536 * z) (upL f0 0 vs) ∧ tg' ob = rO ∧ tg' cb = rC ∧ ob < w'.heap.size ∧ cb < w'.heap.size ∧ Fr (· = tg d) tg w tg' w' := by
  intro w'
  have a1 : Row ((wc.drewN N).alloc O) d nd (up1 C o (.slice (some ⟨ob, 0, none⟩) 1 c0)) := Row.alloc (w := wc.drewN N) J1 hnd O
  have a2 : Row ((wc.drewN N).alloc O) ob c0 g := Row.alloc (w := wc.drewN N) J2 hc3 O
  have a3 : Row ((wc.drewN N).alloc O) cb (65536 * z) f0 := Row.alloc (w := wc.drewN N) J5 (by omega) O
  obtain ⟨r1, r2, r3⟩ := add_rows (n := 0) (z := z) (o := o + 1) vs (.slice (some ⟨cb, 0, none⟩) 1 65536) (.int .i64 1) a1 a2 a3 n1 n2 n3
  rw [Nat.zero_mul] at r1 r2 r3
  have hsz : w'.heap.size = ((wc.drewN N).alloc O).heap.size := by
    show (World.heap _).size = _
    rw [World.size_setCell, World.size_setCell, size_setCells']
  refine ⟨r1, r2, hc3, r3, hc6, hc7, ?_, ?_, ?_⟩
  · rw [hsz]; exact a2.lt hc3
  · rw [hsz]; exact a3.lt (by omega)
  · exact ((Fr.setL (Or.inl (Nat.le_of_lt hc10)) vs ((J8.drewN N).alloc0 O) 0).set (a := ⟨ob, 0, none⟩) (.inl (Nat.le_of_lt hc9)) _).set (a := ⟨d, o + 1, none⟩) (.inr rfl) _

set_option maxRecDepth 100000 in
set_option maxHeartbeats 400000 in
theorem list_first (w : World) (d o nd : Nat) (C : Nat → Value) (x y z : Int) (tg : Nat → Nat) (rO rC : Nat) (hrO : rO ≠ tg d) (hrC : rC ≠ tg d) (hrr : rO ≠ rC)
    (hd : Row w d nd C) (ho : o + 1 < nd) (h0 : C o = .slice none 0 0) (h1 : C (o + 1) = .int .i64 0)  :
    Calls Yba.prog 39 #[.pointer (some ⟨d, o, none⟩), .agg #[.int .u32 x, .int .u32 y, .int .u32 z]] w fun e w' => e = .returned (.tuple #[]) ∧ FirstP w w' d o nd C tg rO rC 3 [.int .u32 x, .int .u32 y, .int .u32 z] := by
  have k0 := cellA ((hd o (by omega)).1.trans (by rw [h0])) (.cells #[.int .u32 x, .int .u32 y, .int .u32 z] 96)
  have kb := Row.new w #[.int .u32 x, .int .u32 y, .int .u32 z] 96 3 (fun i => (#[Value.int .u32 x, .int .u32 y, .int .u32 z][i]?).getD (.bool true)) (fun i hi => by
    rcases i with _ | _ | _ | i <;> first | rfl | omega)
  have hd1 := hd.alloc (by omega) (.cells #[.int .u32 x, .int .u32 y, .int .u32 z] 96)
  have hdl := hd.lt (by omega)
  have hF := (Fr.refl (· = tg d) tg w).alloc (.cells #[.int .u32 x, .int .u32 y, .int .u32 z] 96) 0
  have hsz := World.size_alloc w (.cells #[.int .u32 x, .int .u32 y, .int .u32 z] 96)
  obtain ⟨cs, f0, hcs, hcf, hmk⟩ := mk_any elem123 0 65536 (by omega) (by omega)
  have hmk' : ∀ w : World, Sem.run Yba.prog (Instr.makeSlice 123 (.int .i64 0) (.int .i64 65536)) w = .ok (.slice (some ⟨w.heap.size, 0, none⟩) 0 65536) (w.alloc (.cells cs 96)) := hmk
  clear hmk
  go_enter Yba.func39, Yba.ntmps39
  go_upto_region 1 with fail
  generalize hw1 : w.alloc (.cells #[.int .u32 x, .int .u32 y, .int .u32 z] 96) = w1 at *
  have HW : Hid _ := hw1
  clear hw1
  have H1 : Hid _ := hd1
  have H2 : Hid _ := hF
  have H3 : Hid _ := kb
  have H4 : Hid _ := hd
  have H5 : Hid _ := hcf
  have H6 : Hid _ := hsz
  clear hd1 hF kb hd hcf hsz
  go_upto_region 3 with fail
  have q0 : ∀ N, (w1.drewN N).cell? ⟨d, o, none⟩ = some (.slice none 0 0) := fun N => k0
  have q1 : ∀ u : Value, ((w1.alloc (.cells cs 96)).alloc (.cells #[u] 123)).cell? ⟨w1.heap.size + 1, 0, none⟩ = some u := fun u => by rw [← World.size_alloc w1 (.cells cs 96)]; exact cell_new0 _ _ _
  have q4 : ∀ o1 : Obj, (w1.alloc o1).cell? ⟨d, o, none⟩ = some (.slice none 0 0) := fun o1 => cellA k0 _
  have q2 : ∀ o1 : Obj, ((w1.alloc (.cells cs 96)).alloc o1).cell? ⟨d, o, none⟩ = some (.slice none 0 0) := fun o1 => cellA (cellA k0 _) _
  have q3 : ∀ o1 : Obj, ((w1.alloc (.cells cs 96)).alloc o1).frozen? ⟨d, o, none⟩ = false := fun o1 => frozA (World.block_lt_of_cell? _ _ (cellA k0 _)) (frozA (World.block_lt_of_cell? _ _ k0) ((H1.out o (by omega)).2) _) _
  obtain ⟨tg0, htg0⟩ : ∃ t, t = tagAt (tagAt (tagAt tg w.heap.size 0) (w1.heap.size) rC) (w1.heap.size + 1) 0 := ⟨_, rfl⟩
  have hd0 : tg0 d = tg d := by
    have := H6.out
    rw [htg0, tagAt_other _ (by omega), tagAt_other _ (by omega), tagAt_other _ (by omega)]
  have hrO' : ¬ (tg0 d = rO) := by rw [hd0]; exact Ne.symm hrO
  have HT : Hid _ := htg0
  clear htg0
  go_cut [] from 25 to 34 (fun wx => ∃ ob cb c0 tg' g, Row wx d nd (up1 C o (.slice (some ⟨ob, 0, none⟩) 1 c0)) ∧ Row wx ob c0 g ∧ 1 ≤ c0 ∧ g 0 = .slice (some ⟨cb, 0, none⟩) 0 65536 ∧ Row wx cb (65536 * 3) f0 ∧ tg' ob = rO ∧ tg' cb = rC ∧ Fr (· = tg d) tg w tg' wx ∧ w.heap.size < ob ∧ w.heap.size < cb ∧ Row wx w.heap.size 3 (fun i => (#[Value.int .u32 x, .int .u32 y, .int .u32 z][i]?).getD (.bool true)))
  case first =>
    go_region_law (refine step_app (by rfl) (.tmp 29) (.tmp 31) 43 123 1 elem43 (by omega) (by rfl) (Sl.nil tg0 _ rO 1 (fun _ => .bool true)) _ 1 _ (src_one elem43.1 (q1 _) rfl) (by simp [Act.eval, Act.put]) (by simp [Act.eval, Act.put]) (by omega) ?_; intro v' wA tg' cap' f' hA hold hnew hFr hcap; obtain ⟨gb, rfl, hgl, hgt, hgr⟩ := hA.pos (by omega); obtain ⟨⟨gb2, hgb2, hgb3⟩, H7'⟩ := hcap rfl (by omega); obtain rfl : gb = gb2 := slice_blk hgb2; have H7 : Hid _ := H7'; have H8 : Hid _ := hgb3; clear H7' hgb2 hgb3; have c1 : wA.cell? ⟨d, o, none⟩ = some (.slice none 0 0) := (hFr.cell (World.block_lt_of_cell? _ _ (q2 _)) hrO').trans (q2 _); have c2 : wA.frozen? ⟨d, o, none⟩ = false := (hFr.frozen (World.block_lt_of_cell? _ _ (q2 _)) hrO').trans (q3 _); have HA : Hid _ := hA; have HO : Hid _ := hnew; have HF : Hid _ := hFr; have HR : Hid _ := hgr; clear hA hold hnew hFr hgr hcap)
    all_goals (go_wp2_with fail; go_meet)
    all_goals (refine ⟨gb, w1.heap.size, cap', tg', f', ?_⟩; exact first_rel H1.out H2.out H3.out H5.out H6.out H7.out H8.out HT.out HA.out HO.out HF.out.fromDrew HR.out hgl hgt hdl hcs hrO hrC hrr ho)
  case rest =>
    obtain ⟨ob, cb, c0, tg', g, hc1, hc2, hc3, hc4, hc5, hc6, hc7, hc8, hc9, hc10, hc11⟩ := hcut
    clear q0 q1 q2 q3 q4 k0 hmk'
    have k0 : wc.cell? ⟨d, o, none⟩ = some (.slice (some ⟨ob, 0, none⟩) 1 c0) := by rw [(hc1 o (by omega)).1, up1_same]
    have k1 : wc.cell? ⟨d, o + 1, none⟩ = some (.int .i64 0) := by rw [(hc1 (o + 1) ho).1, up1_other _ _ (by omega), h1]
    have g1 := (hc1 (o + 1) ho).2
    have k2 : wc.cell? ⟨ob, 0, none⟩ = some (.slice (some ⟨cb, 0, none⟩) 0 65536) := by rw [(hc2 0 hc3).1, hc4]
    have g2 := (hc2 0 hc3).2
    have hs' : ∀ j, j < 3 → (wc.cell? ⟨cb, 0 * 3 + j, none⟩).isSome = true ∧ wc.frozen? ⟨cb, 0 * 3 + j, none⟩ = false := fun j hj => by
      rw [Nat.zero_mul, Nat.zero_add]
      exact ⟨by rw [(hc5 j (by omega)).1]; rfl, (hc5 j (by omega)).2⟩
    have b0 := (hc11 0 (by omega)).1
    have b1 := (hc11 1 (by omega)).1
    have b2 := (hc11 2 (by omega)).1
    dsimp only at b0 b1 b2
    have hdt : tg' d = tg d := hc8.tag d hdl
    have n1 : d ≠ ob := by rintro rfl; omega
    have n1' := n1.symm
    have n2 : cb ≠ d := by rintro rfl; omega
    have n3 : cb ≠ ob := by rintro rfl; omega
    have q0 : ∀ N, (wc.drewN N).cell? ⟨d, o, none⟩ = some (.slice (some ⟨ob, 0, none⟩) 1 c0) := fun N => k0
    have q5 : ∀ N O, ((wc.drewN N).alloc O).cell? ⟨ob, 0, none⟩ = some (.slice (some ⟨cb, 0, none⟩) 0 65536) := fun N O => cellA (w := wc.drewN N) k2 O
    have q1 : ∀ N O vs, (((wc.drewN N).alloc O).setCells cb 0 vs).cell? ⟨ob, 0, none⟩ = some (.slice (some ⟨cb, 0, none⟩) 0 65536) := fun N O vs => cellS (cellA (w := wc.drewN N) k2 O) (Ne.symm n3) _ _
    have q2 : ∀ N O vs, (((wc.drewN N).alloc O).setCells cb 0 vs).frozen? ⟨ob, 0, none⟩ = false := fun N O vs => (frozen_setCells _ _ _ _ _).trans (frozA (w := wc.drewN N) (World.block_lt_of_cell? _ _ k2) g2 O)
    have q3 : ∀ N O vs, (((wc.drewN N).alloc O).setCells cb 0 vs).cell? ⟨d, o + 1, none⟩ = some (.int .i64 0) := fun N O vs => cellS (cellA (w := wc.drewN N) k1 O) (Ne.symm n2) _ _
    have q4 : ∀ N O vs, (((wc.drewN N).alloc O).setCells cb 0 vs).frozen? ⟨d, o + 1, none⟩ = false := fun N O vs => (frozen_setCells _ _ _ _ _).trans (frozA (w := wc.drewN N) (World.block_lt_of_cell? _ _ k1) g1 O)
    have J1 : Hid _ := hc1
    have J2 : Hid _ := hc2
    have J5 : Hid _ := hc5
    have J8 : Hid _ := hc8
    clear hc1 hc2 hc5 hc8 hc11
    go_upto_region 4 with fail
    go_quiet (fail)
    go_upto_region 5 with fail
    go_region_law (refine step_room (by rfl) (.tmp 49) (.tmp 51) 123 96 3 elem123 (by rfl) _ _ cb 0 65536 1 (by simp [Act.eval, Act.put]) (by simp [Act.eval, Act.put]) (by rfl) (by simp [Value.oneCell']) (by omega) (by intro j hj; exact hs' j hj) ?_)
    all_goals (go_wp2; go_end0)
    all_goals exact ⟨rfl, ob, cb, c0, tg', g, f0, first_end _ _ J1.out J2.out J5.out J8.out hc3 hc6 hc7 hc9 hc10 n1 n2 n3 (by omega) (by omega)⟩
end Go.Proofs.Ybulkakra

/-
  Vector of seat b1820a: the walk.
-/
import Derived.Test.YbulkakraVec
namespace Go.Proofs.Ybulkakra
open Go.RowKit Go.Shelf
attribute [local go_sem] Oper.semAt_some
set_option linter.unusedSimpArgs false
set_option linter.unusedVariables false

/-- What Vector leaves. -/
def VP (tg : Nat → Nat) (w w' : World) (d : Nat) (N : List Nd) (S : List Ed) (V : Nat → Nat) (r : Nat) : Prop :=
  ∃ tg' N', St tg' w' d N' S ∧ Good V 3 N' r ∧ 0 < r ∧ r < N'.length ∧ N <+: N' ∧ N'.length ≤ N.length + 3 ∧ esum N' ≤ esum N + 3 ∧ Fr (fun r => 1 ≤ r) tg w tg' w'
/-- A round's word. -/
theorem vec_round {V : Nat → Nat} {hV : ∀ j, V j < 4} {n0 : Nat} {tg0 : Nat → Nat} {w0 : World} {d bd bs bb be : Nat} {N : List Nd} {S : List Ed} {pre : List Rnd} {x : Rnd} {W : World} {tg : Nat → Nat} {N' : List Nd} {s : Nat} (h : VI V hV n0 tg0 w0 d bd bs N S pre W tg N' s) (hlen : pre.length < 3) (hn : N.length + 3 ≤ 65000) (he : esum N + 8 ≤ 65536)
    (l1 : bd < w0.heap.size) (l2 : bs < w0.heap.size) (l3 : bb < w0.heap.size) (l4 : be < w0.heap.size) (t1 : tg0 bd = 0) (t2 : tg0 bs = 0) (t3 : tg0 bb = 0) (t4 : tg0 be = 0) (hs0 : n0 ≤ bs) (hsd : bs ≠ bd) (hsb : bs ≠ bb) (hse : bs ≠ be) (hp0 : tg0 (d + 1) < 1000) :
    Calls Yba.prog 33 #[.pointer (some ⟨d, 0, none⟩), .int .u32 (x.1.2.1 : Int), .slice (some ⟨W.heap.size, 0, none⟩) 1 1] (W.alloc (.cells #[.int .u32 (x.1.2.2 : Int), .int .u32 (s : Int)] 80)) fun e W' => ∃ r, e = .returned (.int .u32 ((r : Nat) : Int)) ∧ (W'.cell? ⟨bs, 0, none⟩ = some (.int .u32 (s : Int)) ∧ W'.frozen? ⟨bs, 0, none⟩ = false) ∧ KeepsFrom w0.heap.size W (W'.setCell ⟨bs, 0, none⟩ (.int .u32 (r : Int))) ∧ KpV bb be W (W'.setCell ⟨bs, 0, none⟩ (.int .u32 (r : Int))) ∧ VInv V hV n0 tg0 w0 d bd bs N S (pre ++ [x]) (W'.setCell ⟨bs, 0, none⟩ (.int .u32 (r : Int))) := by
  obtain ⟨C, hC⟩ := h.st
  obtain ⟨tc, htc⟩ : ∃ tc : Nat → Nat, ∀ b, (∀ o, W.heap[b]? = some o → o.isCells = true → tc b = tg b) ∧ (∀ o, W.heap[b]? = some o → o.isCells = false → tc b = 0) ∧ (W.heap.size ≤ b → tc b = 0) := by
    refine ⟨fun b => match W.heap[b]? with | some o => if o.isCells then tg b else 0 | none => 0, fun b => ⟨fun o e c => ?_, fun o e c => ?_, fun hb => ?_⟩⟩
    · simp [e, c]
    · simp [e, c]
    · simp [hb]
  have hCc : StC tc W d C N' S := hC.sm ⟨Nat.le_refl _, fun b v hv => ⟨rfl, by
    obtain ⟨o, ho, hc⟩ := cells_of_cell0 hv
    exact (htc b).1 o ho hc⟩⟩ (fun e he => by
    have hpl := hC.pin.1
    cases hc : (W.heap[d + 1]).isCells with
    | true => rw [← (htc (d + 1)).1 _ (Array.getElem?_eq_getElem hpl) hc]; exact he
    | false => rw [(htc (d + 1)).2.1 _ (Array.getElem?_eq_getElem hpl) hc] at he; omega)
  have hJ : Jk W (W.alloc (.cells #[.int .u32 (x.1.2.2 : Int), .int .u32 (s : Int)] 80)) := (Jk.refl W).alloc _
  have hsz := World.size_alloc W (.cells #[.int .u32 (x.1.2.2 : Int), .int .u32 (s : Int)] 80)
  have hW0 := h.fr.size
  have hdl := hC.row.lt (by omega)
  have hlen' := h.len
  have hes' := h.es
  obtain ⟨⟨xi, xl, xv⟩, p1, p2, p3⟩ := x
  simp only at p1 p2 p3
  refine (make_weak tc _ d C N' S xl W.heap.size 0 1 [(xv, s)] (hCc.jk hJ) h.wk (by omega) (by simp) (fun e he => by
    simp at he; subst he
    exact ⟨by show xv < _; omega, h.pos, h.lt⟩) (by simp) (edAt_new W xv s 80) (by omega) (by omega) (by omega)).mono ?_
  rintro e W' ⟨r, rfl, tg', C', N2, m, hC2, _, hF⟩
  obtain ⟨q1, q2, q3, q4, q5, q6⟩ := made_weak m h.wk h.pos h.lt
  -- what this round did not touch
  have hkeep : ∀ b o, W.heap[b]? = some o → (o.isCells = true → tg b = 0) → W'.heap[b]? = some o := by
    intro b o ho hz
    have hbl : b < W.heap.size := (Array.getElem?_eq_some_iff.1 ho).1
    have htb : tc b = 0 := by
      cases hc : o.isCells with
      | true => rw [(htc b).1 o ho hc]; exact hz hc
      | false => exact (htc b).2.1 o ho hc
    rw [hF.block b (by omega) (by rw [htb]; omega), hJ.block b hbl]
    exact ho
  have tag0 : ∀ b, b < w0.heap.size → tg0 b = 0 → tg b = 0 := fun b hb e => (h.fr.tag b hb).trans e
  have hkb : ∀ b, b < w0.heap.size → tg0 b = 0 → W'.heap[b]? = W.heap[b]? := fun b hb e => by
    have hbl : b < W.heap.size := by omega
    rw [hkeep b _ (Array.getElem?_eq_getElem hbl) (fun _ => tag0 b hb e), Array.getElem?_eq_getElem hbl]
  have cs' : W'.cell? ⟨bs, 0, none⟩ = some (.int .u32 (s : Int)) := by rw [World.cell?_of_block (hkb bs l2 t2)]; exact h.cs
  have fs' : W'.frozen? ⟨bs, 0, none⟩ = false := by rw [World.frozen?_of_block (hkb bs l2 t2)]; exact h.fs
  have hsz2 := hF.size
  refine ⟨r, rfl, ⟨cs', fs'⟩, ⟨by rw [World.size_setCell]; omega, fun k o hk ho hc => ?_⟩, ⟨?_, ?_⟩, ?_⟩
  · have hne : k ≠ bs := by
      rintro rfl
      obtain ⟨o', ho', hc'⟩ := cells_of_cell0 h.cs
      rw [ho] at ho'
      cases ho'
      rw [hc] at hc'
      cases hc'
    rw [Below.heap_setCell _ _ _ _ hne]
    exact hkeep k o ho (fun e => by rw [hc] at e; cases e)
  · rw [Below.heap_setCell _ _ _ _ (Ne.symm hsb)]; exact hkb bb l3 t3
  · rw [Below.heap_setCell _ _ _ _ (Ne.symm hse)]; exact hkb be l4 t4
  · -- the tags behind the round: as they were; a new block bears the part's word
    obtain ⟨t2', ht2'⟩ : ∃ t : Nat → Nat, ∀ b, t b = if b < w0.heap.size then tg0 b else tg' b := ⟨fun b => if b < w0.heap.size then tg0 b else tg' b, fun _ => rfl⟩
    have hFw : FrN n0 tg0 w0 t2' W' := by
      refine ⟨hF.os.trans (hJ.os.trans h.fr.os), hF.output.trans (hJ.output.trans h.fr.output), by omega, fun b hb => by rw [ht2', if_pos hb], fun b hb0 hb hn => ?_⟩
      rw [hkb b hb (by omega)]
      exact h.fr.block b hb0 hb hn
    have hC3 : StC t2' W' d C' N2 S := hC2.sm ⟨Nat.le_refl _, fun b v hv => ⟨rfl, by
      rw [ht2']
      split
      · next hb =>
        have hbl : b < W.heap.size := by omega
        rw [hF.tag b (by omega)]
        cases hc : (W.heap[b]).isCells with
        | true => rw [(htc b).1 _ (Array.getElem?_eq_getElem hbl) hc, h.fr.tag b hb]
        | false =>
          exfalso
          have := hkeep b _ (Array.getElem?_eq_getElem hbl) (fun e => by rw [hc] at e; cases e)
          obtain ⟨o', ho', hc'⟩ := cells_of_cell0 hv
          rw [this] at ho'
          cases ho'
          rw [hc] at hc'
          cases hc'
      · rfl⟩⟩ (fun e he => by
      rw [ht2'] at he
      split at he
      · omega
      · exact he)
    have ht2s : t2' bs = 0 := by rw [ht2', if_pos l2, t2]
    have hset : Fr (fun r => r = 0) t2' W' t2' (W'.setCell ⟨bs, 0, none⟩ (.int .u32 (r : Int))) := (Fr.refl _ t2' W').set (a := ⟨bs, 0, none⟩) (.inr ht2s) _
    refine ⟨t2', N2, r, ⟨C', hC3.fr hset (fun r h => by omega)⟩, q1, ?_, ?_, ?_, q3, q4, h.ext.trans q2, ?_, ?_, ?_, ?_, ?_⟩
    · rw [World.cell?_setCell_same _ _ _ cs']
    · rw [World.frozen?_setCell]; exact fs'
    · rw [World.cell?_of_block (Below.heap_setCell _ _ _ _ (Ne.symm hsd)), World.cell?_of_block (hkb bd l1 t1)]
      exact h.cd
    · simp; omega
    · simp; omega
    · simp; omega
    · refine ⟨hFw.os, hFw.output, by rw [World.size_setCell]; exact hFw.size, hFw.tag, fun b hb0 hb hn => ?_⟩
      rw [Below.heap_setCell _ _ _ _ (by show b ≠ bs; omega)]
      exact hFw.block b hb0 hb hn
    · intro k hk
      rcases k with _ | k
      · simp [sq] at hk
      · have hkl : k < 3 := by
          have h1 := sq_length V hV (k + 1)
          rw [← hk] at h1
          simp at h1
          omega
        simp only [sq] at hk
        have e1 := List.append_inj_left' hk rfl
        have e2 := List.append_inj_right' hk rfl
        simp [rnd] at e2
        obtain ⟨rfl, rfl, rfl⟩ := e2
        exact (h.good k e1).step hV hkl h.pos h.lt m

set_option maxRecDepth 100000 in
set_option maxHeartbeats 2000000 in
theorem vector_any (tg : Nat → Nat) (w : World) (d be : Nat) (N : List Nd) (S : List Ed) (V : Nat → Nat) (hV : ∀ j, V j < 4) (hS : St tg w d N S) (hw : Wf N) (hn : N.length + 3 ≤ 65000) (he : esum N + 8 ≤ 65536) (hbe : tg be = 0) (hbl : be < w.heap.size) (hc : ∀ j, j < 3 → w.cell? ⟨be, j * 2, none⟩ = some (.int .u32 (j : Int)) ∧ w.cell? ⟨be, j * 2 + 1, none⟩ = some (.int .u32 (V j : Int))) (hpz : tg (d + 1) < 1000) :
    Calls Yba.prog 21 #[.pointer (some ⟨d, 0, none⟩), .slice (some ⟨be, 0, none⟩) 3 3] w fun e w' => ∃ r, e = .returned (.int .u32 ((r : Nat) : Int)) ∧ VP tg w w' d N S V r := by
  refine (callsIn_wide (n := 4)).1 ?_
  refine callsIn_of_wp_marks Yba.func21 rfl trivial ?_ rfl
  simp only [Yba.ntmps21, List.size_toArray, List.length_cons, List.length_nil, Nat.reduceAdd, Nat.reduceSub, Array.replicate_succ, Array.replicate_zero, List.push_toArray, List.append_toArray, List.nil_append, List.cons_append]
  gi_wp2_with (refine ⟨trivial, ?_⟩; gi_at_call 34; refine (callsIn_wide.2 (back34 _ _ _ _)).mono ?_; rintro e w' ⟨rfl, rfl⟩)
  obtain ⟨n, hnn⟩ : ∃ n, n = w.heap.size := ⟨_, rfl⟩
  obtain ⟨W0, hW0⟩ : ∃ W0, W0 = (((w.alloc (.cells #[.pointer (some ⟨d, 0, none⟩)] 23)).alloc (.cells #[.int .u32 1] 27)).alloc (.cells #[.slice (some ⟨be, 0, none⟩) 3 3] 34)) := ⟨_, rfl⟩
  obtain ⟨tg0, htg0⟩ : ∃ t, t = tagAt (tagAt (tagAt tg n 0) (n + 1) 0) (n + 1 + 1) 0 := ⟨_, rfl⟩
  have s1 := World.size_alloc w (.cells #[.pointer (some ⟨d, 0, none⟩)] 23)
  have s2 := World.size_alloc (w.alloc (.cells #[.pointer (some ⟨d, 0, none⟩)] 23)) (.cells #[.int .u32 1] 27)
  have s3 := World.size_alloc ((w.alloc (.cells #[.pointer (some ⟨d, 0, none⟩)] 23)).alloc (.cells #[.int .u32 1] 27)) (.cells #[.slice (some ⟨be, 0, none⟩) 3 3] 34)
  have hsz : W0.heap.size = n + 3 := by rw [hW0]; omega
  have hJ0 : Jk w W0 := by rw [hW0]; exact (((Jk.refl w).alloc _).alloc _).alloc _
  have cd0 : W0.cell? ⟨n, 0, none⟩ = some (.pointer (some ⟨d, 0, none⟩)) := by
    rw [hW0, hnn]
    exact cellA (cellA (cell_new0 w _ 23) _) _
  have cs0 : W0.cell? ⟨n + 1, 0, none⟩ = some (.int .u32 1) := by
    have := cell_new0 (w.alloc (.cells #[.pointer (some ⟨d, 0, none⟩)] 23)) (.int .u32 1) 27
    rw [s1, ← hnn] at this
    rw [hW0]
    exact cellA this _
  have fs0 : W0.frozen? ⟨n + 1, 0, none⟩ = false := by
    have := (Row.new (w.alloc (.cells #[.pointer (some ⟨d, 0, none⟩)] 23)) #[.int .u32 1] 27 1 (fun _ => .int .u32 1) (fun i hi => by
      have : i = 0 := by omega
      subst this; rfl) 0 (by omega))
    rw [s1, ← hnn] at this
    rw [hW0]
    exact frozA (World.block_lt_of_cell? _ _ this.1) this.2 _
  have cb0 : W0.cell? ⟨n + 1 + 1, 0, none⟩ = some (.slice (some ⟨be, 0, none⟩) 3 3) := by
    have := cell_new0 ((w.alloc (.cells #[.pointer (some ⟨d, 0, none⟩)] 23)).alloc (.cells #[.int .u32 1] 27)) (.slice (some ⟨be, 0, none⟩) 3 3) 34
    rw [s2, s1, ← hnn] at this
    rw [hW0]
    exact this
  have tt : ∀ b, b < n → tg0 b = tg b := fun b hb => by rw [htg0, tagAt_other _ (by omega), tagAt_other _ (by omega), tagAt_other _ (by omega)]
  have t1 : tg0 n = 0 := by rw [htg0, tagAt_other _ (by omega), tagAt_other _ (by omega), tagAt_same]
  have t2 : tg0 (n + 1) = 0 := by rw [htg0, tagAt_other _ (by omega), tagAt_same]
  have t3 : tg0 (n + 1 + 1) = 0 := by rw [htg0, tagAt_same]
  have t4 : tg0 be = 0 := by rw [tt be (by omega)]; exact hbe
  have hdp : d + 1 < n := by
    obtain ⟨C, hC⟩ := hS
    rw [hnn]
    exact hC.pin.1
  have hp0 : tg0 (d + 1) < 1000 := by rw [tt _ hdp]; exact hpz
  have h0 : VInv V hV n tg0 W0 d n (n + 1) N S [] W0 := by
    obtain ⟨C, hC⟩ := hS
    refine ⟨tg0, N, 1, ⟨C, hC.sm ⟨hJ0.size, fun b v hv => ⟨hJ0.block b (World.block_lt_of_cell? _ _ hv), tt b (by have := World.block_lt_of_cell? _ _ hv; show b < n; rw [hnn]; exact this)⟩⟩ (fun e he => by rw [← tt (d + 1) hdp]; exact he)⟩, hw.wk, cs0, fs0, cd0, by omega, by have := hw.two; omega, List.prefix_refl _, by simp, by simp, by simp, ⟨rfl, rfl, Nat.le_refl _, fun _ _ => rfl, fun _ _ _ _ => rfl⟩, fun k hk => ?_⟩
    have hk0 : k = 0 := by
      have := sq_length V hV k
      rw [← hk] at this
      exact this.symm
    subst hk0
    exact Good.start hw V
  rw [← hW0, ← hnn]
  have hben : be < n := by omega
  have HNN : Hid _ := hnn
  have HW0 : Hid _ := hW0
  have HTG : Hid _ := htg0
  clear hnn hW0 htg0 s1 s2 s3
  refine wpIn_rangeFunc_ownH (F := Fence.wide) (α := Rnd) rfl (by omega) (gf := 48) (lb := #[.pointer (some ⟨n + 1 + 1, 0, none⟩)]) rfl trivial (enters_of Yba.func48 (by kernel_rfl) rfl) (encs := encR) (Kp := KpV (n + 1 + 1) be) (S := fun xs => xs = sq V hV 3) (Sp := fun pre => pre.length ≤ 3) (N := 3) (w0 := W0)
    (fun l J Jx W hB hJ hJx hY h0 => back_in Fence.wide 3 trivial rfl (by omega) l (n + 1 + 1) be V hV J Jx hY W ((hB.cell (p := ⟨n + 1 + 1, 0, none⟩) (by show n + 1 + 1 < W0.heap.size; omega)).trans cb0) (fun j hj => ⟨(hB.cell (p := ⟨be, j * 2, none⟩) (by show be < W0.heap.size; omega)).trans (hJ0.cell (hc j hj).1), (hB.cell (p := ⟨be, j * 2 + 1, none⟩) (by show be < W0.heap.size; omega)).trans (hJ0.cell (hc j hj).2)⟩) h0)
    (fun a b => ⟨b.1.trans a.1, b.2.trans a.2⟩) (fun W l o o' hl _ _ _ => ⟨World.putObj_heap_other (by omega), World.putObj_heap_other (by omega)⟩) (Below.refl _ _) (fun _ => rfl)
    (VInv V hV n tg0 W0 d n (n + 1) N S) (fun _ _ _ => False) (fun s A B row hs hg hr => by
      obtain ⟨tg', N', s', h⟩ := hs
      exact ⟨tg', N', s', h.own hg hr⟩) (fun _ _ _ _ _ hs _ _ => hs) h0
    (fun x a' W => ∃ Bx, W.cell? ⟨Bx, 0, none⟩ = some (.int .u32 (x.1.2.1 : Int)) ∧ W.cell? ⟨Bx, 1, none⟩ = some (.int .u32 (x.1.2.2 : Int)) ∧ a' = { tmps := #[.pointer (some ⟨d, 0, none⟩), .slice (some ⟨be, 0, none⟩) 3 3, .pointer (some ⟨n, 0, none⟩), undef, .int .u32 0, .pointer (some ⟨n + 1, 0, none⟩), undef, .pointer (some ⟨Bx, 0, none⟩), .slice (some ⟨be, 0, none⟩) 3 3, .func (.func 48) #[] #[.pointer (some ⟨n + 1 + 1, 0, none⟩)], .int .i64 (x.1.1 : Int), .agg #[.int .u32 (x.1.2.1 : Int), .int .u32 (x.1.2.2 : Int)], undef, undef, undef, undef, undef, undef, undef, undef, undef, undef], defers := [] })
    (fun x a' s A B row hs hg hr => by
      obtain ⟨Bx, c1, c2, rfl⟩ := hs
      exact ⟨Bx, cell_kept c1 hg (fun r e => (hr r e).2), cell_kept c2 hg (fun r e => (hr r e).2), rfl⟩) ?assign ?body ?done ?stop
  case assign =>
    rintro l pre x W K hi hK
    obtain ⟨⟨xi, xl, xv⟩, p1, p2, p3⟩ := x
    have HK : Hid _ := hK
    have HI : Hid _ := hi
    clear hK hi cd0 cs0 fs0 cb0 h0
    dsimp only [encR]
    gi_wp2
    refine HK.out _ _ ((KeepsOthers.alloc _ _).from _) ⟨?_, ?_⟩ ?_ ⟨W.heap.size, ?_, ?_, rfl⟩
    · obtain ⟨_, _, _, h⟩ := HI.out
      exact Below.heap_alloc _ _ _ (by have := h.fr.size; omega)
    · obtain ⟨_, _, _, h⟩ := HI.out
      exact Below.heap_alloc _ _ _ (by have := h.fr.size; omega)
    · obtain ⟨t, M, q, h⟩ := HI.out
      exact ⟨t, M, q, h.own (World.grownBy_alloc W _ none) (fun r e => by cases e)⟩
    · unfold World.cell?
      rw [heap_alloc_new]
      rfl
    · unfold World.cell?
      rw [heap_alloc_new]
      rfl
  case body =>
    rintro l pre x a' W hl hr ⟨tg', N', s', hI⟩ ⟨Bx, c1, c2, rfl⟩ hlen
    obtain ⟨⟨xi, xl, xv⟩, p1, p2, p3⟩ := x
    have cs1 := hI.cs
    have cd1 := hI.cd
    have HR : Hid _ := vec_round (x := ⟨(xi, xl, xv), p1, p2, p3⟩) (bb := n + 1 + 1) (be := be) hI hlen hn he (by omega) (by omega) (by omega) (by omega) t1 t2 t3 t4 (by omega) (by omega) (by omega) (by omega) hp0
    clear hI
    dsimp only at c1 c2
    gi_wp2_with (refine ⟨trivial, ?_⟩; gi_at_call 33; refine (CallsIn.inRound l (callsIn_wide.2 HR.out)).mono ?_; rintro e w' ⟨r, rfl, ⟨e1, e2⟩, e3, e4, e5⟩)
    exact ⟨e3, e4, e5⟩
  case done =>
    rintro D xs W hD rfl ⟨tg', N', s', hI⟩ hK
    have cs1 := hI.cs
    gi_wp2
    refine ⟨by simp, .inl ⟨_, _, rfl, run_takeDeferred hK, ?_⟩⟩
    refine ⟨_, results_tmp rfl _ _ _, ?_⟩
    refine ⟨s', rfl, ?_⟩
    have h2 := hI.own (grownBy_putObj' W D (.deferred none)) (fun r e => by cases e; exact ⟨hD, _, hK, rfl⟩)
    refine ⟨tg', N', h2.st, h2.good 3 rfl, h2.pos, h2.lt, h2.ext, by have := h2.len; rw [sq_length] at this; exact this, by have := h2.es; rw [sq_length] at this; exact this, ?_⟩
    have hj := hJ0
    refine ⟨h2.fr.os.trans hj.os, h2.fr.output.trans hj.output, Nat.le_trans hj.size h2.fr.size, fun b hb => ?_, fun b hb hn => ?_⟩
    · have hbn : b < n := by rw [HNN.out]; exact hb
      rw [h2.fr.tag b (by omega), tt b hbn]
    · have hbn : b < n := by rw [HNN.out]; exact hb
      rw [h2.fr.block b hbn (by omega) (by rw [tt b hbn]; exact hn), hj.block b hb]
  case stop =>
    rintro D c pre W _ _ h _
    exact h.elim
end Go.Proofs.Ybulkakra

/-
  THE LAW's LOOK at the list of the remembered (seat b1835a): Next, listok.
-/
import Derived.Test.YbulkakzcSmall
import Derived.Test.YbulkakzcQsl
import Derived.LaidEqlPtr
namespace Go.Proofs.Ybulkakzc
open Go.RowKit
set_option linter.unusedSimpArgs false

/-- All that was there is as it was. -/
structure Same (w w' : World) : Prop where
  os : w'.os = w.os
  output : w'.output = w.output
  size : w.heap.size ≤ w'.heap.size
  block : ∀ k, k < w.heap.size → w'.heap[k]? = w.heap[k]?
theorem Same.refl (w : World) : Same w w := ⟨rfl, rfl, Nat.le_refl _, fun _ _ => rfl⟩
theorem Same.alloc {w w' : World} (h : Same w w') (o : Obj) : Same w (w'.alloc o) := ⟨h.os, h.output, by rw [World.size_alloc]; exact Nat.le_succ_of_le h.size, fun k hk => (Below.heap_alloc _ _ _ (Nat.lt_of_lt_of_le hk h.size)).trans (h.block k hk)⟩
theorem Same.drew {w w' : World} (h : Same w w') : Same w w'.drew := ⟨h.os, h.output, h.size, h.block⟩
theorem Same.trans {w w1 w2 : World} (h : Same w w1) (h' : Same w1 w2) : Same w w2 := ⟨h'.os.trans h.os, h'.output.trans h.output, Nat.le_trans h.size h'.size, fun k hk => (h'.block k (Nat.lt_of_lt_of_le hk h.size)).trans (h.block k hk)⟩

/-- Where a walk over the elements stands. -/
def nx : List (Nat × Value) → Value
  | [] => .pointer none
  | e :: _ => P2 e.1 0

theorem cell_of_heap {w : World} {b : Nat} {c : Array Value} {T : TypeId} (h : w.heap[b]? = some (.cells c T (0, 0))) (i : Nat) (v : Value) (hv : c[i]? = some v) : w.cell? ⟨b, i, none⟩ = some v := by
  simp [World.cell?, h, hv]
theorem neq_of_eql {P : Program} {t : TypeId} {a b : Option Addr} {w : World} {r : Bool} (h' : (Op.equal t (.pointer a) (.pointer b)).run P w = .ok r w) :
    (binOp .neq t (.pointer a) (.pointer b)).run P w = .ok (.bool (!r)) w := by
  simp only [binOp]
  simp [h']
theorem size40 : ∃ j, Yba.prog.info? 40 = some j ∧ j.size ≠ 0 := by
  have h : (Yba.prog.info? 40).map (fun j => j.size != 0) = some true := by kernel_rfl
  cases hj : Yba.prog.info? 40 with
  | none => rw [hj] at h; simp at h
  | some j => rw [hj] at h; exact ⟨j, rfl, by simpa using h⟩
theorem neq37_same (w : World) (b o : Nat) : (binOp .neq 37 (P2 b o) (P2 b o)).run Yba.prog w = .ok (.bool false) w := by
  obtain ⟨j, hj, hz⟩ := size40
  have h : ∀ d : Nat, (Op.equalIn (d + 1) 37 (P2 b o) (P2 b o)).run Yba.prog w = .ok true w := fun d => by
    simp [Op.equalIn, run_underlying Yba.underlying37, sizeOf, typeInfo, hj, run_sameAddr_same]
  have h2 : (Op.equal 37 (P2 b o) (P2 b o)).run Yba.prog w = .ok true w := by simp [Op.equal, Op.maxDepth, h 9999]
  exact neq_of_eql h2
theorem neq37_other {w : World} {a b o o' : Nat} (hne : a ≠ b) {ca cb : Array Value} {ta tb : TypeId} (ha : w.heap[a]? = some (.cells ca ta (0, 0))) (hb : w.heap[b]? = some (.cells cb tb (0, 0))) : (binOp .neq 37 (P2 a o) (P2 b o')).run Yba.prog w = .ok (.bool true) w := by
  obtain ⟨j, hj, hz⟩ := size40
  have h : ∀ d : Nat, (Op.equalIn (d + 1) 37 (P2 a o) (P2 b o')).run Yba.prog w = .ok false w := fun d => by
    simp [Op.equalIn, run_underlying Yba.underlying37, sizeOf, typeInfo, hj, hz, run_sameAddr_other (a := ⟨a, o, none⟩) (b := ⟨b, o', none⟩) w (by intro e; exact hne (congrArg Addr.block e)) ha hb]
  have h2 : (Op.equal 37 (P2 a o) (P2 b o')).run Yba.prog w = .ok false w := by simp [Op.equal, Op.maxDepth, h 9999]
  exact neq_of_eql h2

set_option maxRecDepth 100000 in
theorem next_last (w : World) (eb rb : Nat) (pv v : Value) (hb : w.heap[eb]? = some (.cells #[P2 rb 18, pv, P2 rb 18, v] 40 (0, 0))) : Calls Yba.prog 29 #[P2 eb 0] w fun e w' => w = w' ∧ e = .returned (.pointer none) := by
  have c0 := cell_of_heap hb 0 (P2 rb 18) rfl
  have c2 := cell_of_heap hb 2 (P2 rb 18) rfl
  have hq := neq37_same w rb 18
  clear hb
  unfold P2 at *
  go_enter Yba.func29, Yba.ntmps29
  go_wp2
  go_ret
  exact ⟨rfl, rfl⟩
set_option maxRecDepth 100000 in
theorem next_more (w : World) (eb rb nb : Nat) (hq : (binOp .neq 37 (P2 nb 0) (P2 rb 18)).run Yba.prog w = .ok (.bool true) w) (pv v : Value) (hb : w.heap[eb]? = some (.cells #[P2 nb 0, pv, P2 rb 18, v] 40 (0, 0))) : Calls Yba.prog 29 #[P2 eb 0] w fun e w' => w = w' ∧ e = .returned (P2 nb 0) := by
  have c0 := cell_of_heap hb 0 (P2 nb 0) rfl
  have c2 := cell_of_heap hb 2 (P2 rb 18) rfl
  clear hb
  unfold P2 at *
  go_enter Yba.func29, Yba.ntmps29
  go_wp2
  go_ret
  exact ⟨rfl, rfl⟩

theorem chain_at {w : World} {rb lo : Nat} : ∀ {pv : Value} {es : List (Nat × Value)} {j : Nat} {e : Nat × Value}, Chain w rb lo pv es → es[j]? = some e → ∃ p, w.heap[e.1]? = some (.cells #[hdOf rb lo (es.drop (j + 1)), p, P2 rb lo, e.2] 40 (0, 0))
  | pv, [], j, e, _, h => by simp at h
  | pv, x :: es, 0, e, hc, h => by simp at h; subst h; exact ⟨pv, hc.1⟩
  | pv, x :: es, j + 1, e, hc, h => chain_at (es := es) (j := j) hc.2 (by simpa using h)
theorem dq_chain {w : World} {rb lo : Nat} {C : Nat → Value} {es : List (Nat × Value)} (h : DQ w rb lo C es) : Chain w rb lo (P2 rb lo) es := by
  rcases h with ⟨rfl, _, _⟩ | h
  · trivial
  · exact h.chain
theorem dq_ne {w : World} {rb lo : Nat} {C : Nat → Value} {es : List (Nat × Value)} (h : DQ w rb lo C es) : ∀ b ∈ blks es, b ≠ rb := by
  rcases h with ⟨rfl, _, _⟩ | h
  · simp [blks]
  · exact h.ne

/-- The cells of an abandonment at the zero time. -/
def avc (k : K) : Array Value := #[.int .u64 0, .int .u64 0, .pointer none, .int .u16 k.s, .int .u64 0, .int .u64 0, .pointer none, .int .u16 k.d, .int .u32 k.i, .int .u64 0, .int .i64 0, .pointer none]
theorem avc_cell (w : World) (k : K) : (fun (w' : World) (nb : Nat) => w'.cell? ⟨nb, 0, none⟩ = some (.int .u64 0) ∧ w'.cell? ⟨nb, 1, none⟩ = some (.int .u64 0) ∧ w'.cell? ⟨nb, 2, none⟩ = some (.pointer none) ∧ w'.cell? ⟨nb, 3, none⟩ = some (.int .u16 k.s) ∧ w'.cell? ⟨nb, 4, none⟩ = some (.int .u64 0) ∧ w'.cell? ⟨nb, 5, none⟩ = some (.int .u64 0) ∧ w'.cell? ⟨nb, 6, none⟩ = some (.pointer none) ∧ w'.cell? ⟨nb, 7, none⟩ = some (.int .u16 k.d) ∧ w'.cell? ⟨nb, 8, none⟩ = some (.int .u32 k.i) ∧ w'.cell? ⟨nb, 9, none⟩ = some (.int .u64 0) ∧ w'.cell? ⟨nb, 10, none⟩ = some (.int .i64 0) ∧ w'.cell? ⟨nb, 11, none⟩ = some (.pointer none)) (w.alloc (.cells (avc k) 63)) w.heap.size := by
  have h := heap_alloc_new w (.cells (avc k) 63)
  exact ⟨cell_of_heap h 0 _ rfl, cell_of_heap h 1 _ rfl, cell_of_heap h 2 _ rfl, cell_of_heap h 3 _ rfl, cell_of_heap h 4 _ rfl, cell_of_heap h 5 _ rfl, cell_of_heap h 6 _ rfl, cell_of_heap h 7 _ rfl, cell_of_heap h 8 _ rfl, cell_of_heap h 9 _ rfl, cell_of_heap h 10 _ rfl, cell_of_heap h 11 _ rfl⟩

/-- What the look at one element reads. -/
def LS (wA : World) (nb b o : Nat) (k : K) (w' : World) : Prop := Same wA w' ∧ w'.cell? ⟨nb, 0, none⟩ = some (.int .u64 0) ∧ w'.cell? ⟨nb, 1, none⟩ = some (.int .u64 0) ∧ w'.cell? ⟨nb, 2, none⟩ = some (.pointer none) ∧ w'.cell? ⟨nb, 3, none⟩ = some (.int .u16 k.s) ∧ w'.cell? ⟨nb, 4, none⟩ = some (.int .u64 0) ∧ w'.cell? ⟨nb, 5, none⟩ = some (.int .u64 0) ∧ w'.cell? ⟨nb, 6, none⟩ = some (.pointer none) ∧ w'.cell? ⟨nb, 7, none⟩ = some (.int .u16 k.d) ∧ w'.cell? ⟨nb, 8, none⟩ = some (.int .u32 k.i) ∧ w'.cell? ⟨nb, 9, none⟩ = some (.int .u64 0) ∧ w'.cell? ⟨nb, 10, none⟩ = some (.int .i64 0) ∧ w'.cell? ⟨nb, 11, none⟩ = some (.pointer none) ∧
          w'.cell? ⟨b, o, none⟩ = some (.int .u64 0) ∧ w'.cell? ⟨b, o + 1, none⟩ = some (.int .u64 0) ∧ w'.cell? ⟨b, o + 2, none⟩ = some (.pointer none) ∧ w'.cell? ⟨b, o + 3, none⟩ = some (.int .u16 k.s) ∧ w'.cell? ⟨b, o + 4, none⟩ = some (.int .u64 0) ∧ w'.cell? ⟨b, o + 5, none⟩ = some (.int .u64 0) ∧ w'.cell? ⟨b, o + 6, none⟩ = some (.pointer none) ∧ w'.cell? ⟨b, o + 7, none⟩ = some (.int .u16 k.d) ∧ w'.cell? ⟨b, o + 8, none⟩ = some (.int .u32 k.i)
theorem LS.of {wA : World} {nb b o : Nat} {k : K} (h : LS wA nb b o k wA) (h1 : nb < wA.heap.size) (h2 : b < wA.heap.size) : ∀ w', Same wA w' → LS wA nb b o k w' := by
  intro w' hS
  have c : ∀ j, w'.cell? ⟨b, j, none⟩ = wA.cell? ⟨b, j, none⟩ := fun j => World.cell?_of_block (a := ⟨b, j, none⟩) (hS.block b h2)
  have d : ∀ j, w'.cell? ⟨nb, j, none⟩ = wA.cell? ⟨nb, j, none⟩ := fun j => World.cell?_of_block (a := ⟨nb, j, none⟩) (hS.block nb h1)
  obtain ⟨_, r0, r1, r2, r3, r4, r5, r6, r7, r8, r9, r10, r11, q0, q1, q2, q3, q4, q5, q6, q7, q8⟩ := h
  exact ⟨hS, (d _).trans r0, (d _).trans r1, (d _).trans r2, (d _).trans r3, (d _).trans r4, (d _).trans r5, (d _).trans r6, (d _).trans r7, (d _).trans r8, (d _).trans r9, (d _).trans r10, (d _).trans r11, (c _).trans q0, (c _).trans q1, (c _).trans q2, (c _).trans q3, (c _).trans q4, (c _).trans q5, (c _).trans q6, (c _).trans q7, (c _).trans q8⟩

set_option maxRecDepth 100000 in
set_option maxHeartbeats 2000000 in
theorem listok_any (w : World) (rb pm am : Nat) (C : Nat → Value) (tmo mp nw ne held pk : Int) (pl al : List En) (st : List (Nat × Value)) (fl : List Fq) (v : Value) (b : Nat)
    (h : RS w rb pm am C tmo mp nw ne held pk pl al st (fgs fl)) (hq : Qs w v b (fl.map (·.k))) (hz : ∀ x ∈ fl, x.aw = 0 ∧ x.ae = 0) (hn : fl.length < 100000) :
    Calls Yba.prog 17 #[P2 rb 18, v] w fun e w' => e = .returned (.bool true) ∧ Same w w' := by
  obtain ⟨ao, off, cap, rfl, hm, hc, hlt⟩ := hq.came
  rw [List.length_map] at hc ⊢
  have c22 := h.row.cell (i := 18 + 4) (by omega)
  have hl := h.qf.len
  rw [fgs_length] at hl
  rw [hl] at c22
  have HC : Hid (Chain w rb 18 (P2 rb 18) (fgs fl)) := dq_chain h.qf
  have HN : Hid (∀ b ∈ blks (fgs fl), b ≠ rb) := dq_ne h.qf
  have HR : Hid (w.rowIs rb 47 26 C) := h.row
  have hle := hc.le
  have HQ : Hid (Came w 9 ao b off fl.length cap (flat (fl.map (·.k)))) := hc
  have hfr : Calls Yba.prog 11 #[P2 rb 18] w fun e w' => e = .returned (nx (fgs fl)) ∧ w = w' := by
    cases fl with
    | nil => exact front_none w rb 18 c22
    | cons x fl =>
      refine front_some w rb 18 _ _ (Nat.succ_pos _) c22 ?_
      rw [h.row.cell (i := 18) (by omega), h.ringF.hd]
      rfl
  clear hc h hl hq
  go_enter Yba.func17, Yba.ntmps17
  go_wp2_with fail
  refine hfr.mono ?_
  rintro e w1 ⟨rfl, rfl⟩
  clear hfr
  obtain ⟨f0, hf0⟩ : ∃ f0, f0 = nx (fgs fl) := ⟨_, rfl⟩
  rw [← hf0]
  have HF0 : Hid (f0 = nx (fgs fl)) := hf0
  clear hf0
  go_wp2_with fail
  go_loopg [5, 6] fl.length (fun g e t wr => ∃ j : Nat, j ≤ fl.length ∧ g = fl.length - j ∧ t = .int .i64 j ∧ e = nx ((fgs fl).drop j) ∧ Same w wr)
  case atStart => exact ⟨0, Nat.zero_le _, rfl, rfl, HF0.out, Same.refl _⟩
  case round =>
    obtain ⟨j, hj, hg, rfl, rfl, hS⟩ := hrel
    by_cases hjn : j < fl.length
    · have hx : fl[j]? = some fl[j] := List.getElem?_eq_getElem hjn
      have hxm : fl[j] ∈ fl := List.getElem_mem hjn
      generalize fl[j] = x at hx hxm
      have hfx : (fgs fl)[j]? = some (x.b, av x.k x.aw x.ae) := by simp [fgs, hx]
      have hdr : (fgs fl).drop j = (x.b, av x.k x.aw x.ae) :: (fgs fl).drop (j + 1) := by
        have hlt' : j < (fgs fl).length := by rw [fgs_length]; exact hjn
        rw [List.drop_eq_getElem_cons hlt']
        congr 1
        have := List.getElem?_eq_getElem hlt'
        rw [hfx] at this
        exact (Option.some.inj this).symm
      obtain ⟨p, hblk⟩ := chain_at HC.out hfx
      have hbw := (hS.block x.b (lt_of_block hblk)).trans hblk
      obtain ⟨h1, h2⟩ := hz x hxm
      rw [h1, h2] at hbw
      rw [hdr]
      have c3 := cell_of_heap hbw 3 (av x.k 0 0) rfl
      have hqlt : b < w.heap.size := hlt (by omega)
      have hat := (Qs.at HQ.out j x.k (by simp [hx])).of_block (hS.block b hqlt)
      have hao : ao = some ⟨b, off, none⟩ := HQ.out.addr (by omega)
      subst hao
      have HB : Hid (wr.heap[x.b]? = some (Obj.cells #[hdOf rb 18 (List.drop (j + 1) (fgs fl)), p, P2 rb 18, (x.b, av x.k 0 0).snd] 40 (0, 0))) := hbw
      have HS : Hid (Same w wr) := hS
      have HK : Hid (KeyAt wr b (off + j * 9) x.k) := hat
      clear hx hxm hfx hdr hblk hbw h1 h2 hat hS
      have ta := assert63ok
      unfold av at c3
      simp only [nx]
      unfold P2
      go_upto_region 8 with fail
      have HA : Hid (Same w (wr.alloc (.cells (avc x.k) 63))) := HS.out.alloc _
      have n0 := avc_cell wr x.k
      obtain ⟨r0, r1, r2, r3, r4, r5, r6, r7, r8, r9, r10, r11⟩ := n0
      obtain ⟨q0, q1, q2, q3, q4, q5, q6, q7, q8⟩ := HK.out.of_block (Below.heap_alloc wr (.cells (avc x.k) 63) b (Nat.lt_of_lt_of_le hqlt HS.out.size))
      have HB2 : Hid ((wr.alloc (.cells (avc x.k) 63)).heap[x.b]? = some (Obj.cells #[hdOf rb 18 (List.drop (j + 1) (fgs fl)), p, P2 rb 18, (x.b, av x.k 0 0).snd] 40 (0, 0))) := (Below.heap_alloc _ _ _ (lt_of_block HB.out)).trans HB.out
      clear HK
      have HL : Hid (∀ w', Same (wr.alloc (.cells (avc x.k) 63)) w' → LS (wr.alloc (.cells (avc x.k) 63)) wr.heap.size b (off + j * 9) x.k w') := LS.of ⟨Same.refl _, r0, r1, r2, r3, r4, r5, r6, r7, r8, r9, r10, r11, q0, q1, q2, q3, q4, q5, q6, q7, q8⟩ (by rw [World.size_alloc]; omega) (by rw [World.size_alloc]; have := HS.out.size; omega)
      clear r0 r1 r2 r3 r4 r5 r6 r7 r8 r9 r10 r11 q0 q1 q2 q3 q4 q5 q6 q7 q8
      change Code.wp _ _ _ _ (wr.alloc (.cells (avc x.k) 63))
      generalize hnb : wr.heap.size = nb at *
      generalize hwA : wr.alloc (.cells (avc x.k) 63) = wA at *
      clear hwA hnb c3 HB HS
      have hneq := neq60 (a := x.k) (b := x.k)
      rw [K.same_self] at hneq
      simp only [kv, kc, Bool.not_true] at hneq
      go_region_held3 (fun w' => Same wA w' ∧ w'.cell? ⟨nb, 0, none⟩ = some (.int .u64 0) ∧ w'.cell? ⟨nb, 1, none⟩ = some (.int .u64 0) ∧ w'.cell? ⟨nb, 2, none⟩ = some (.pointer none) ∧ w'.cell? ⟨nb, 3, none⟩ = some (.int .u16 x.k.s) ∧ w'.cell? ⟨nb, 4, none⟩ = some (.int .u64 0) ∧ w'.cell? ⟨nb, 5, none⟩ = some (.int .u64 0) ∧ w'.cell? ⟨nb, 6, none⟩ = some (.pointer none) ∧ w'.cell? ⟨nb, 7, none⟩ = some (.int .u16 x.k.d) ∧ w'.cell? ⟨nb, 8, none⟩ = some (.int .u32 x.k.i) ∧ w'.cell? ⟨nb, 9, none⟩ = some (.int .u64 0) ∧ w'.cell? ⟨nb, 10, none⟩ = some (.int .i64 0) ∧ w'.cell? ⟨nb, 11, none⟩ = some (.pointer none) ∧
          w'.cell? ⟨b, off + j * 9, none⟩ = some (.int .u64 0) ∧ w'.cell? ⟨b, off + j * 9 + 1, none⟩ = some (.int .u64 0) ∧ w'.cell? ⟨b, off + j * 9 + 2, none⟩ = some (.pointer none) ∧ w'.cell? ⟨b, off + j * 9 + 3, none⟩ = some (.int .u16 x.k.s) ∧ w'.cell? ⟨b, off + j * 9 + 4, none⟩ = some (.int .u64 0) ∧ w'.cell? ⟨b, off + j * 9 + 5, none⟩ = some (.int .u64 0) ∧ w'.cell? ⟨b, off + j * 9 + 6, none⟩ = some (.pointer none) ∧ w'.cell? ⟨b, off + j * 9 + 7, none⟩ = some (.int .u16 x.k.d) ∧ w'.cell? ⟨b, off + j * 9 + 8, none⟩ = some (.int .u32 x.k.i))
        (first | exact HL.out _ (Same.refl _).drew | assumption | exact HL.out _ ((Same.refl _).alloc _).drew | exact HL.out _ ((Same.refl _).drew.alloc _))
        (first | (go_at_call 28; refine (iszero_any _).mono ?_; rintro e w5 ⟨rfl, o5, rfl⟩))
      have HB3 : Hid ((wA.alloc o5).drew.heap[x.b]? = some (Obj.cells #[hdOf rb 18 (List.drop (j + 1) (fgs fl)), p, P2 rb 18, (x.b, av x.k 0 0).snd] 40 (0, 0))) := (Below.heap_alloc _ _ _ (lt_of_block HB2.out)).trans HB2.out
      have HS3 : Hid (Same w (wA.alloc o5).drew) := (HA.out.alloc _).drew
      generalize hwB : (wA.alloc o5).drew = wB at *
      clear hwB HA HB2 HL
      have hnext : Calls Yba.prog 29 #[.pointer (some ⟨x.b, 0, none⟩)] wB fun e w' => wB = w' ∧ e = .returned (nx (List.drop (j + 1) (fgs fl))) := by
        have hb3 := HB3.out
        cases hd : List.drop (j + 1) (fgs fl) with
        | nil => rw [hd] at hb3; exact next_last wB x.b rb p _ hb3
        | cons y l =>
          rw [hd] at hb3
          have hy : (fgs fl)[j + 1]? = some y := by
            have : (List.drop (j + 1) (fgs fl))[0]? = some y := by rw [hd]; rfl
            rwa [List.getElem?_drop] at this
          obtain ⟨py, hby⟩ := chain_at HC.out hy
          have hym : y ∈ fgs fl := List.mem_of_getElem? hy
          have hyn : y.1 ≠ rb := HN.out y.1 (List.mem_map.2 ⟨y, hym, rfl⟩)
          obtain ⟨cr, hr, _⟩ := HR.out
          refine next_more wB x.b rb y.1 (neq37_other hyn ((HS3.out.block _ (lt_of_block hby)).trans hby) ((HS3.out.block _ (lt_of_block hr)).trans hr)) p _ hb3
      obtain ⟨f1, hf1⟩ : ∃ f1, f1 = nx (List.drop (j + 1) (fgs fl)) := ⟨_, rfl⟩
      rw [← hf1] at hnext
      have HF1 : Hid (f1 = nx (List.drop (j + 1) (fgs fl))) := hf1
      clear hf1
      go_wp2_with fail
      refine hnext.mono ?_
      rintro e w6 ⟨rfl, rfl⟩
      clear hnext
      go_wp2
      go_roundg (fl.length - (j + 1))
      case measure => omega
      case rel => exact ⟨j + 1, by omega, rfl, by simp, HF1.out, HS3.out⟩
    · have hjn' : j = fl.length := by omega
      have hdr : nx ((fgs fl).drop j) = .pointer none := by
        rw [List.drop_eq_nil_of_le (by rw [fgs_length]; omega)]
        rfl
      rw [hdr]
      have HS : Hid (Same w wr) := hS
      clear hdr hS
      have e1 : decide ((j : Int) < (fl.length : Int)) = false := by simp; omega
      go_wp2
      go_ret
      exact ⟨rfl, HS.out⟩
end Go.Proofs.Ybulkakzc

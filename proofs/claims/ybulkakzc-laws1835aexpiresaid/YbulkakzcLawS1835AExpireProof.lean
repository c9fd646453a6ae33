/-
  The proof of 'Rows.LawS1835AExpireSaid': the frame after the guide's shells, for four numbers, a slice of bytes and a slice of structs; the walk out of YbulkakzcLawA.
-/
import Derived.Test.YbulkakzcRows
import Derived.WalkKit
import Derived.Test.YbulkakzcLawA
import Derived.ProofKit
import Derived.OpenShut
import Derived.ShutString
import Derived.ChangeOld
import Derived.Below
import Derived.Deep.SlicePairs
namespace Go.Proofs.Ybulkakzc.lawS1835AExpire
open Go.ChangeShapes Go.WideShapes Go.ChangeAt Go.RowKit

theorem own : ownKnob Yba.prog.godebug = none := by kernel_rfl
theorem laidOut : laidOutB Yba.prog = true := by kernel_rfl

theorem same_frame {W w' : World} (h : Same W w') (may : MemPlace → Prop) : W.keptBut w' may := by
  refine ⟨h.os, h.output, fun i hi => ?_⟩
  rw [h.block i hi]
  split <;> simp_all
theorem same_trod {H : Type} {enc : TypeId × Value → H} {P : Program} {t : TypeId} (hl : laidOutB P = true) (hr : P.readableRec t = true) (hrow : t < P.types.size) {W W' : World} {v : Value} {d : DataW H} {ps : List MemPlace}
    (h : DataW.Trod enc P W 0 (fun _ => true) true t v d ps) (hb : Same W W') (hlt : ∀ x ∈ ps, x.block < W.heap.size) :
    DataW.Trod enc P W' 0 (fun b => decide (b < W.heap.size)) true t v d ps := by
  refine WideElems.Trod_stays hl hr hrow h (fun x hx => ?_) (fun x hx => by simpa using hlt x hx)
  have := hb.block x.block (hlt x hx)
  cases x with
  | cell b o => exact World.cell?_of_block (w := W) this
  | map b => exact this

theorem cells65 : Yba.prog.cellsOf 65 = 4 := by kernel_rfl
theorem cells4 : Yba.prog.cellsOf 4 = 1 := by kernel_rfl
theorem cells5 : Yba.prog.cellsOf 5 = 1 := by kernel_rfl

theorem wf_u16 {n : Int} (h : (Lit.int .u16 n).wf = true) : 0 ≤ n ∧ n < 65536 := by
  simp [Lit.wf, IntKind.min, IntKind.max, IntKind.signed, IntKind.bits] at h
  omega
theorem wf_u8 {n : Int} (h : (Lit.int .u8 n).wf = true) : 0 ≤ n ∧ n < 256 := by
  simp [Lit.wf, IntKind.min, IntKind.max, IntKind.signed, IntKind.bits] at h
  omega

set_option maxRecDepth 100000 in
/-- A message, read out of its four cells. -/
theorem msg_read {H : Type} {enc : TypeId × Value → H} {w : World} {base : Nat} {spare : Nat → Bool} {held : Bool} {fuel : Nat} {b o : Nat} {cs : List Value} {x : DataW H × List MemPlace}
    (h1 : w.cells? base ⟨b, o, none⟩ 4 = some cs) (h : DataW.trod enc Yba.prog w base spare held fuel 65 cs = some x) : ∃ s : Mg, MgAt w b o s ∧ s.Ok := by
  obtain ⟨_, hlen, hcell⟩ := World.cells?_some h1
  obtain ⟨xs, k, _, _, _, hxl, hf⟩ := DataW.trod_struct Yba.underlying65 h
  match xs, hxl, cs, hlen with
  | [y0, y1, y2, y3], _, [v0, v1, v2, v3], _ =>
    have g0 := hf 0 _ rfl
    have g1 := hf 1 _ rfl
    have g2 := hf 2 _ rfl
    have g3 := hf 3 _ rfl
    simp [cells4, cells5] at g0 g1 g2 g3
    obtain ⟨n0, e0, _, q0⟩ := DataW.trod_int Yba.underlying5 g0
    obtain ⟨n1, e1, _, q1⟩ := DataW.trod_int Yba.underlying5 g1
    obtain ⟨n2, e2, _, q2⟩ := DataW.trod_int Yba.underlying5 g2
    obtain ⟨b3, e3, _⟩ := DataW.trod_bool Yba.underlying4 g3
    simp only [List.cons.injEq, and_true] at e0 e1 e2 e3
    subst e0 e1 e2 e3
    have q0' := wf_u8 q0
    have q1' := wf_u8 q1
    have q2' := wf_u8 q2
    have c : ∀ j, j < 4 → w.cell? ⟨b, o + j, none⟩ = [Value.int .u8 n0, .int .u8 n1, .int .u8 n2, .bool b3][j]? := fun j hj => by
      have := hcell j hj
      rwa [Addr.add_lit] at this
    exact ⟨⟨n0, n1, n2, b3⟩, ⟨c 0 (by omega), c 1 (by omega), c 2 (by omega), c 3 (by omega)⟩, ⟨q0'.1, q0'.2, q1'.1, q1'.2, q2'.1, q2'.2⟩⟩

/-! ### THE ROW's STEP -/
set_option maxRecDepth 100000 in
theorem lifted (os : Os) (started : os.Started) (H : Type) (enc : TypeId × Value → H) :
    ReturnsInHanded {} Yba.checked os 3 .any (Rows.lawS1835AExpireSpec.pre6 enc Yba.prog Yba.f3 Rows.lawS1835AExpireRow.domain false) (Rows.lawS1835AExpireSpec.post enc Yba.prog Yba.f3 false true false false) := by
  refine returnsInHanded_of_change (C := Yba.checked) own started (by kernel_rfl) Yba.func3
    (ChangeSpec.witness6 (enc := enc) (C := Yba.checked) false ⟨#[], #[.int .i64 0, .int .u8 0, .int .u16 0, .slice none 0 0, .slice none 0 0, .int .u8 0], []⟩ 8 (by kernel_rfl) (by kernel_rfl) (by kernel_rfl) (by kernel_rfl)) ?_
  intro W base args ds gs before hval0 hW hcnd _
  have hval : ∀ (j : Nat) t v, Yba.f3.params[j]? = some t → args[j]? = some v → Value.okWide Yba.prog W .any base t v := hval0
  have hW' := hW
  obtain ⟨p, q, hA0, hV, rfl, hfz, hnd⟩ := hW
  have hA : DataW.TrodAll enc Yba.prog W 0 (fun _ => true) true Yba.f3.params.toList args.toList ds p := hA0
  rw [Yba.params3] at hA hval
  obtain ⟨v0, vs0, d0, ds0, p0, q0, hargs, rfl, rfl, h0, r0⟩ := trodAll_cons hA
  obtain ⟨v1, vs1, d1, ds1, p1, q1, rfl, rfl, rfl, h1, r1⟩ := trodAll_cons r0
  obtain ⟨v2, vs2, d2, ds2, p2, q2, rfl, rfl, rfl, h2, r2⟩ := trodAll_cons r1
  obtain ⟨v3, vs3, d3, ds3, p3, q3, rfl, rfl, rfl, h3, r3⟩ := trodAll_cons r2
  obtain ⟨v4, vs4, d4, ds4, p4, q4, rfl, rfl, rfl, h4, r4⟩ := trodAll_cons r3
  obtain ⟨v5, vs5, d5, ds5, p5, q5, rfl, rfl, rfl, h5, r5⟩ := trodAll_cons r4
  obtain ⟨rfl, rfl, rfl⟩ := trodAll_nil r5
  obtain rfl : args = #[v0, v1, v2, v3, v4, v5] := by cases args; simp_all
  obtain ⟨rfl, rfl⟩ := trodVars_none hV
  obtain ⟨a0, rfl, rfl, rfl, w0⟩ := open_int Yba.underlying2 (hval 0 2 v0 rfl rfl) h0
  obtain ⟨a1, rfl, rfl, rfl, w1⟩ := open_int Yba.underlying5 (hval 1 5 v1 rfl rfl) h1
  obtain ⟨a2, rfl, rfl, rfl, w2⟩ := open_int Yba.underlying22 (hval 2 22 v2 rfl rfl) h2
  obtain ⟨a3, len3, cap3, rfl⟩ := okWide_slice Yba.underlying23 (hval 3 23 v3 rfl rfl)
  obtain ⟨a4, len4, cap4, rfl⟩ := okWide_slice Yba.underlying24 (hval 4 24 v4 rfl rfl)
  obtain ⟨a5, rfl, rfl, rfl, w5⟩ := open_int Yba.underlying5 (hval 5 5 v5 rfl rfl) h5
  have k3 := h3
  have lt3 : ∀ x ∈ p3, x.block < W.heap.size := by obtain ⟨m, hm⟩ := k3; exact DataW.trod_lt m _ _ _ hm
  have k4 := h4
  have lt4 : ∀ x ∈ p4, x.block < W.heap.size := by obtain ⟨m, hm⟩ := k4; exact DataW.trod_lt m _ _ _ hm
  obtain ⟨fbk, foff, F, hfa, hF, hFb⟩ : ∃ (fbk foff : Nat) (F : Nat → Int), (0 < len3 → a3 = some ⟨fbk, foff, none⟩ ∧ fbk < W.heap.size) ∧ (∀ i, i < len3 → W.cell? ⟨fbk, foff + i, none⟩ = some (.int .u8 (F i))) ∧ (∀ i, i < len3 → 0 ≤ F i ∧ F i < 256) := by
    obtain ⟨fuel, hf⟩ := h3
    rcases open_ints Yba.underlying23 Yba.underlying5 (by kernel_rfl) hf with ⟨hcs, _⟩ | ⟨x, l, c, zs, hcs, _, hl, hm, hz, _, hcell, hwz⟩
    · simp [Value.cells] at hcs
      obtain ⟨rfl, rfl, rfl⟩ := hcs
      exact ⟨0, 0, fun _ => 0, fun h => by omega, fun i h => by omega, fun i h => by omega⟩
    · simp [Value.cells] at hcs
      obtain ⟨rfl, rfl, rfl⟩ := hcs
      by_cases hz0 : len3 = 0
      · subst hz0
        exact ⟨0, 0, fun _ => 0, fun h => by omega, fun i h => by omega, fun i h => by omega⟩
      · have hzl : zs.length = cap3 := by simpa using hz
        obtain ⟨fbk, foff, rfl, hc'⟩ := ints_at hcell (by omega)
        refine ⟨fbk, foff, fun i => zs.getD i 0, fun _ => ⟨rfl, World.block_lt_of_cell? _ _ (hc' 0 (by omega))⟩, fun i hi => hc' i (by omega), fun i hi => ?_⟩
        refine wf_u8 (hwz _ ?_)
        show zs.getD i 0 ∈ zs
        rw [show zs.getD i 0 = zs[i]'(by omega) by simp [List.getD, show i < zs.length by omega]]
        exact List.getElem_mem _
  obtain ⟨mbk, moff, M, hM⟩ : ∃ mbk moff M, Imp W a4 len4 mbk moff M := by
    obtain ⟨fuel, hf⟩ := h4
    rcases Deep.open_slice Yba.underlying24 hf with ⟨hcs, _⟩ | ⟨x, l, c, m, n, D, Pl, hcs, _, hl, hm, hmm, _, hx⟩
    · simp [Value.cells] at hcs
      obtain ⟨rfl, rfl, rfl⟩ := hcs
      exact ⟨0, 0, fun _ => ⟨0, 0, 0, false⟩, ⟨fun h => by omega, fun h => by omega, fun i h => by omega, fun i h => by omega⟩⟩
    · simp [Value.cells] at hcs
      obtain ⟨rfl, rfl, rfl⟩ := hcs
      have hlm : len4 ≤ m := by rw [hmm]; simpa using hl
      by_cases hz : len4 = 0
      · subst hz
        exact ⟨0, 0, fun _ => ⟨0, 0, 0, false⟩, ⟨fun h => by omega, fun h => by omega, fun i h => by omega, fun i h => by omega⟩⟩
      · obtain ⟨b, off, spot⟩ := x
        have hspot : spot = none := by
          obtain ⟨cs, g1, _⟩ := hx 0 (by omega)
          rw [cells65] at g1
          obtain ⟨_, hlen, hcell⟩ := World.cells?_some g1
          have h8 := hcell 0 (by omega)
          rw [List.getElem?_eq_getElem (by omega)] at h8
          simpa [Addr.add] using World.cell?_spot h8
        subst hspot
        have each : ∀ i, i < len4 → ∃ s : Mg, MgAt W b (off + i * 4) s ∧ s.Ok := by
          intro i hi
          obtain ⟨cs, g1, g2⟩ := hx i (by omega)
          rw [cells65, Addr.add_lit] at g1
          exact msg_read g1 g2
        haveI : Inhabited Mg := ⟨⟨0, 0, 0, false⟩⟩
        obtain ⟨S, hS⟩ := Deep.choose_lt each
        refine ⟨b, off, S, ⟨fun _ => rfl, fun _ => ?_, fun i hi => (hS i hi).1, fun i hi => (hS i hi).2⟩⟩
        have h0 := (hS 0 (by omega)).1.1
        exact World.block_lt_of_cell? _ _ h0
  clear hA0 hval0
  refine (lawA_any W a0 a1 a2 a5 a3 len3 cap3 a4 len4 cap4 F fbk foff M mbk moff (wf_u8 w1).1 (wf_u8 w1).2 (wf_u16 w2).1 (wf_u16 w2).2 (wf_u8 w5).1 (wf_u8 w5).2 hfa hF hFb hM).mono fun e W' ⟨he, bel⟩ => ?_
  subst he
  exact ⟨_, rfl, _, _, _, [], _, [], hW', trodAll_mk1 (shut_bool Yba.underlying4 _), (trodAll_cons_mk (shut_int Yba.underlying2 w0) (trodAll_cons_mk (shut_int Yba.underlying5 w1) (trodAll_cons_mk (shut_int Yba.underlying22 w2) (trodAll_cons_mk (same_trod laidOut (by kernel_rfl) (of_decide_eq_true (by kernel_rfl)) k3 bel lt3) (trodAll_cons_mk (same_trod laidOut (by kernel_rfl) (of_decide_eq_true (by kernel_rfl)) k4 bel lt4) (trodAll_cons_mk (shut_int Yba.underlying5 w5) trodAll_mk0)))))), rfl, same_frame bel _, fun h => by cases h⟩

theorem over : Rows.lawS1835AExpireRow.holds Yba.pinned (OpenSpec.ofChange Rows.lawS1835AExpireSpec) :=
  OpenClaim.holds_of_wide 3 Yba.f3 rfl rfl rfl rfl rfl rfl rfl ⟨rfl, rfl, rfl, rfl, rfl⟩ rfl rfl rfl rfl rfl (by kernel_rfl) Yba.func3 (by kernel_rfl)
    (of_decide_eq_true (by kernel_rfl)) (by unfold Func.isWrapper; first | (rw [if_pos (by decide +kernel)]; kernel_rfl) | (rw [if_neg (by decide +kernel)]; exact ⟨rfl, rfl⟩))
    (fun os started H enc _ => lifted os started H enc)

/-- ████ THE STATEMENT ████ -/
theorem proved : Rows.LawS1835AExpireSaid := over
#print axioms proved
end Go.Proofs.Ybulkakzc.lawS1835AExpire

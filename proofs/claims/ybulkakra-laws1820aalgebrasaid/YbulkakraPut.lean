/-
  put, insert of seat b1820a: one part of the unique table.
-/
import Derived.Test.YbulkakraHash
namespace Go.Proofs.Ybulkakra
open Go.RowKit
set_option linter.unusedSimpArgs false
set_option linter.unusedVariables false

/-- The blocks of P alone may have changed. -/
structure Chg (P : Nat → Prop) (w w' : World) : Prop where
  os : w'.os = w.os
  output : w'.output = w.output
  size : w.heap.size ≤ w'.heap.size
  block : ∀ b, b < w.heap.size → ¬ P b → w'.heap[b]? = w.heap[b]?
theorem Chg.refl (P : Nat → Prop) (w : World) : Chg P w w := ⟨rfl, rfl, Nat.le_refl _, fun _ _ _ => rfl⟩
theorem Chg.trans {P : Nat → Prop} {a b c : World} (h : Chg P a b) (k : Chg P b c) : Chg P a c := ⟨k.os.trans h.os, k.output.trans h.output, Nat.le_trans h.size k.size, fun b hb hp => (k.block b (Nat.lt_of_lt_of_le hb h.size) hp).trans (h.block b hb hp)⟩
theorem Chg.mono {P Q : Nat → Prop} {a b : World} (h : Chg P a b) (k : ∀ x, x < a.heap.size → P x → Q x) : Chg Q a b := ⟨h.os, h.output, h.size, fun x hx hq => h.block x hx fun e => hq (k x hx e)⟩
theorem Chg.drewN {P : Nat → Prop} {a b : World} (h : Chg P a b) (n : Nat) : Chg P a (b.drewN n) := ⟨h.os, h.output, h.size, h.block⟩
theorem Chg.alloc {P : Nat → Prop} {a b : World} (h : Chg P a b) (o : Obj) : Chg P a (b.alloc o) := ⟨h.os, h.output, by rw [World.size_alloc]; exact Nat.le_succ_of_le h.size, fun x hx hp => (Below.heap_alloc _ _ _ (Nat.lt_of_lt_of_le hx h.size)).trans (h.block x hx hp)⟩
theorem Chg.set {P : Nat → Prop} {w w' : World} (h : Chg P w w') {a : Addr} (ha : w.heap.size ≤ a.block ∨ P a.block) (v : Value) : Chg P w (w'.setCell a v) :=
  ⟨h.os, h.output, by rw [World.size_setCell]; exact h.size, fun b hb hp => (Below.heap_setCell _ _ _ _ (by
    rintro rfl
    rcases ha with ha | ha
    · omega
    · exact hp ha)).trans (h.block b hb hp)⟩
theorem Chg.row {P : Nat → Prop} {w w' : World} (h : Chg P w w') {b n : Nat} {f : Nat → Value} (hr : Row w b n f) (hn : 0 < n) (hp : ¬ P b) : Row w' b n f := hr.of_block (h.block b (hr.lt hn) hp)
theorem Chg.fr {P : Nat → Prop} {w w' : World} (h : Chg P w w') {R : Nat → Prop} {tg : Nat → Nat} (hp : ∀ x, x < w.heap.size → P x → R (tg x)) : Fr R tg w tg w' := ⟨h.os, h.output, h.size, fun _ _ => rfl, fun b hb hr => h.block b hb fun e => hr (hp b hb e)⟩
theorem Jk.chg {w w' : World} (h : Jk w w') (P : Nat → Prop) : Chg P w w' := ⟨h.os, h.output, h.size, fun b hb _ => h.block b hb⟩

/-- The cells of the slots s. -/
def slF (s : Nat → Slot) : Nat → Value := fun i => .int .u32 ((if i % 2 = 0 then (s (i / 2)).1 else (s (i / 2)).2 : Nat) : Int)
theorem slF_0 (s : Nat → Slot) (j : Nat) : slF s (j * 2) = .int .u32 ((s j).1 : Int) := by
  unfold slF
  rw [if_pos (by omega), show j * 2 / 2 = j by omega]
theorem slF_1 (s : Nat → Slot) (j : Nat) : slF s (j * 2 + 1) = .int .u32 ((s j).2 : Int) := by
  unfold slF
  rw [if_neg (by omega), show (j * 2 + 1) / 2 = j by omega]
theorem slF_up (s : Nat → Slot) (i h id : Nat) (k : Nat) : up1 (up1 (slF s) (i * 2) (.int .u32 (h : Int))) (i * 2 + 1) (.int .u32 (id : Int)) k = slF (upS s i (h, id)) k := by
  unfold up1 slF upS
  by_cases h1 : k = i * 2 + 1
  · subst h1
    rw [if_pos rfl, if_neg (by omega), show (i * 2 + 1) / 2 = i by omega, if_pos rfl]
  · rw [if_neg h1]
    by_cases h2 : k = i * 2
    · subst h2
      rw [if_pos rfl, if_pos (by omega), show i * 2 / 2 = i by omega, if_pos rfl]
    · rw [if_neg h2]
      have : k / 2 ≠ i := by omega
      rw [if_neg this]
def PutP (w w' : World) (b o nb sb L c i h id : Nat) (C : Nat → Value) (s : Nat → Slot) : Prop :=
  Row w' b nb (up1 C (o + 1) (.int .i64 ((c : Int) + 1))) ∧ Row w' sb (L * 2) (slF (upS s i (h, id))) ∧ Chg (fun x => x = b ∨ x = sb) w w'
theorem put_rows {w : World} {b o nb sb L c i h id : Nat} {C : Nat → Value} {s : Nat → Slot} (hb : Row w b nb C) (hs : Row w sb (L * 2) (slF s)) (hne : b ≠ sb) (N : Nat) :
    PutP w ((((w.setCell ⟨sb, i * 2, none⟩ (.int .u32 (h : Int))).setCell ⟨sb, i * 2 + 1, none⟩ (.int .u32 (id : Int))).setCell ⟨b, o + 1, none⟩ (.int .i64 ((c : Int) + 1))).drewN N) b o nb sb L c i h id C s := by
  refine ⟨?_, ?_, ?_⟩
  · exact ((hb.setOther (a := ⟨sb, i * 2, none⟩) hne _).setOther (a := ⟨sb, i * 2 + 1, none⟩) hne _).set (o + 1) _
  · exact (((hs.set (i * 2) _).set (i * 2 + 1) _).setOther (a := ⟨b, o + 1, none⟩) (Ne.symm hne) _).congr (fun k _ => slF_up s i h id k)
  · exact ((((Chg.refl _ w).set (a := ⟨sb, i * 2, none⟩) (.inr (.inr rfl)) _).set (a := ⟨sb, i * 2 + 1, none⟩) (.inr (.inr rfl)) _).set (a := ⟨b, o + 1, none⟩) (.inr (.inl rfl)) _).drewN N

set_option maxRecDepth 100000 in
set_option maxHeartbeats 400000 in
theorem put_small (w : World) (b o nb sb L c i h id : Nat) (C : Nat → Value) (s : Nat → Slot) (hb : Row w b nb C) (ho : o + 1 < nb) (h0 : C o = .slice (some ⟨sb, 0, none⟩) L L) (h1 : C (o + 1) = .int .i64 (c : Int))
    (hs : Row w sb (L * 2) (slF s)) (hne : b ≠ sb) (hi : i < L) (hfull : 4 * (c + 1) ≤ 3 * L) (hL : L < 1000000000) :
    Calls Yba.prog 65 #[.pointer (some ⟨b, o, none⟩), .int .i64 (i : Int), .int .u32 (h : Int), .int .u32 (id : Int)] w fun e w' => e = .returned (.tuple #[]) ∧ PutP w w' b o nb sb L c i h id C s := by
  have HP : Hid _ := fun N => put_rows (o := o) (c := c) (i := i) (h := h) (id := id) hb hs hne N
  have k0 : w.cell? ⟨b, o, none⟩ = some (.slice (some ⟨sb, 0, none⟩) L L) := by rw [(hb o (by omega)).1, h0]
  have k1 : w.cell? ⟨b, o + 1, none⟩ = some (.int .i64 (c : Int)) := by rw [(hb (o + 1) ho).1, h1]
  have g1 := (hb (o + 1) ho).2
  have k2 := (hs (i * 2) (by omega)).1
  have k3 := (hs (i * 2 + 1) (by omega)).1
  have g2 := (hs (i * 2) (by omega)).2
  have g3 := (hs (i * 2 + 1) (by omega)).2
  rw [slF_0] at k2
  rw [slF_1] at k3
  have n1 := hne.symm
  have hw1 : IntKind.i64.wrap ((c : Int) + 1) = (c : Int) + 1 := by rw [IntKind.wrap_i64]; omega
  have hw2 : IntKind.i64.wrap (4 * ((c : Int) + 1)) = 4 * ((c : Int) + 1) := by rw [IntKind.wrap_i64]; omega
  have hw3 : IntKind.i64.wrap (3 * (L : Int)) = 3 * (L : Int) := by rw [IntKind.wrap_i64]; omega
  have hd : decide (3 * (L : Int) < 4 * ((c : Int) + 1)) = false := by simp; omega
  clear hb hs
  go_enter Yba.func65, Yba.ntmps65
  go_upto_region 2 with fail
  go_quiet (fail)
  go_wp2
  go_end0
  exact ⟨rfl, HP.out nq⟩

def InsP (w w' : World) (b o nb sb L c h id : Nat) (C : Nat → Value) (s : Nat → Slot) : Prop :=
  ∃ T, (s (prb L h T)).2 = 0 ∧ (∀ t, t < T → (s (prb L h t)).2 ≠ 0) ∧ PutP w w' b o nb sb L c (prb L h T) h id C s
theorem insert_any (w : World) (b o nb sb L c h id : Nat) (C : Nat → Value) (s : Nat → Slot) (hb : Row w b nb C) (ho : o + 1 < nb) (h0 : C o = .slice (some ⟨sb, 0, none⟩) L L) (h1 : C (o + 1) = .int .i64 (c : Int))
    (hs : Row w sb (L * 2) (slF s)) (hne : b ≠ sb) (hfull : 4 * (c + 1) ≤ 3 * L) (hL : L < 1000000000) (hT : Tab L s c) (hh : h < 4294967296) :
    Calls Yba.prog 71 #[.pointer (some ⟨b, o, none⟩), .int .u32 (h : Int), .int .u32 (id : Int)] w fun e w' => e = .returned (.tuple #[]) ∧ InsP w w' b o nb sb L c h id C s := by
  have HP : Hid _ := fun i hi => put_small w b o nb sb L c i h id C s hb ho h0 h1 hs hne hi hfull hL
  have k0 : w.cell? ⟨b, o, none⟩ = some (.slice (some ⟨sb, 0, none⟩) L L) := by rw [(hb o (by omega)).1, h0]
  have h4 := hT.four
  have hM := hT.mask
  have HS : Hid (∀ j, j < L → w.cell? ⟨sb, j * 2 + 1, none⟩ = some (.int .u32 ((s j).2 : Int))) := fun j hj => by rw [(hs (j * 2 + 1) (by omega)).1, slF_1]
  have HT : Hid _ := hT
  have HM : Hid _ := hM
  clear hb hs hT hM
  go_enter Yba.func71, Yba.ntmps71
  go_wp2_with fail
  refine (start_any w b o L L _ h k0 (by omega) hL hh HM.out).mono ?_
  rintro e w1 ⟨rfl, rfl⟩
  dsimp only
  go_wp2_with fail
  go_loopg [6] L (fun g t wr => ∃ T, T ≤ L ∧ g = L - T ∧ t = .int .i64 ((prb L h T : Nat) : Int) ∧ (∀ t, t < T → (s (prb L h t)).2 ≠ 0) ∧ wr = w)
  case atStart => exact ⟨0, by omega, rfl, rfl, fun t ht => by omega, rfl⟩
  case round =>
    obtain ⟨T, hTL, hgk, rfl, hf, rfl⟩ := hrel
    have hTlt : T < L := HT.out.in_time (by omega) h hf
    have hpl : prb L h T < L := prb_lt (by omega)
    have hx := HS.out _ hpl
    have HF : Hid _ := hf
    have HR : Hid _ := prb_succ L h T
    clear hf
    by_cases hz : (s (prb L h T)).2 = 0
    · have HZ : Hid _ := hz
      rw [hz] at hx
      have hc2 : Hid _ := HP.out (prb L h T) hpl
      clear hz
      generalize hp : prb L h T = p at *
      have HPP : Hid _ := hp
      clear hp
      go_wp2_with fail
      refine Calls.mono hc2.out ?_
      rintro e w1 ⟨rfl, hP⟩
      dsimp only
      have HPQ : Hid _ := hP
      clear hP
      go_wp2
      go_end0
      exact ⟨rfl, T, by rw [HPP.out]; exact HZ.out, HF.out, by rw [HPP.out]; exact HPQ.out⟩
    · have hz1 : (((s (prb L h T)).2 : Int) == 0) = false := by simp; exact hz
      have hz2 : decide (((s (prb L h T)).2 : Int) = 0) = false := by simp; exact hz
      have HZ : Hid _ := hz
      clear hz
      generalize hp : prb L h T = p at *
      have HPP : Hid _ := hp
      generalize hi2 : (s p).2 = q at *
      have HQ2 : Hid _ := hi2
      clear hi2 hp
      go_wp2_with fail
      refine (next_any wr b o L L _ p k0 hpl hL HM.out).mono ?_
      rintro e w1 ⟨rfl, rfl⟩
      dsimp only
      go_wp2
      go_roundg (L - (T + 1))
      case measure => omega
      case rel =>
        refine ⟨T + 1, by omega, rfl, by rw [HR.out], fun t ht => ?_, rfl⟩
        rcases Nat.lt_or_ge t T with h' | h'
        · exact HF.out t h'
        · have : t = T := by omega
          subst this
          rw [HPP.out, HQ2.out]
          exact HZ.out

/-- The table while it is filled anew. -/
structure Refill (w wr : World) (b o nb sb nk L k : Nat) (C : Nat → Value) (s s1 : Nat → Slot) (c' : Nat) : Prop where
  tab : Tab (2 * L) s c'
  cnt : c' = fillc s1 k
  holds : ∀ h id, id ≠ 0 → (Holds (2 * L) s h id ↔ ∃ j, j < k ∧ s1 j = (h, id))
  row : Row wr b nb (up1 (up1 C o (.slice (some ⟨nk, 0, none⟩) (2 * L) (2 * L))) (o + 1) (.int .i64 (c' : Int)))
  new : Row wr nk (2 * L * 2) (slF s)
  old : Row wr sb (L * 2) (slF s1)
  chg : Chg (fun x => x = b ∨ x = sb) w wr
theorem Refill.skip {w wr : World} {b o nb sb nk L k c' : Nat} {C : Nat → Value} {s s1 : Nat → Slot} (h : Refill w wr b o nb sb nk L k C s s1 c') (h0 : (s1 k).2 = 0) (O : Obj) (hnb : 0 < nb) (hL : 0 < L) : Refill w (wr.alloc O) b o nb sb nk L (k + 1) C s s1 c' := by
  refine ⟨h.tab, by simp only [fillc]; rw [if_pos h0, h.cnt]; rfl, fun x id hid => ?_, h.row.alloc hnb O, h.new.alloc (by omega) O, h.old.alloc (by omega) O, h.chg.alloc O⟩
  rw [h.holds x id hid]
  constructor
  · rintro ⟨j, hj, e⟩
    exact ⟨j, by omega, e⟩
  · rintro ⟨j, hj, e⟩
    rcases Nat.lt_or_ge j k with h1 | h1
    · exact ⟨j, h1, e⟩
    · have : j = k := by omega
      subst this
      rw [e] at h0
      exact absurd h0 hid
theorem Refill.take {w wr w' : World} {b o nb sb nk L k c' : Nat} {C : Nat → Value} {s s1 : Nat → Slot} (h : Refill w wr b o nb sb nk L k C s s1 c') (h0 : (s1 k).2 ≠ 0) (h1 : (s1 k).1 < 4294967296 ∧ (s1 k).2 < 4294967296) (O : Obj) (hnb : 0 < nb) (hL : 0 < L) (hnk : w.heap.size ≤ nk) (n1 : sb ≠ b) (n2 : sb ≠ nk)
    (hI : InsP (wr.alloc O) w' b o nb nk (2 * L) c' (s1 k).1 (s1 k).2 (up1 (up1 C o (.slice (some ⟨nk, 0, none⟩) (2 * L) (2 * L))) (o + 1) (.int .i64 (c' : Int))) s) : ∃ s', Refill w w' b o nb sb nk L (k + 1) C s' s1 (c' + 1) := by
  obtain ⟨T, e0, e1, r1, r2, r3⟩ := hI
  have hr := h.tab.put e0 e1 h0 h1.1 h1.2
  have hpl : prb (2 * L) (s1 k).1 T < 2 * L := prb_lt (by omega)
  have hq : Chg (fun x => x = b ∨ x = sb) w (wr.alloc O) := h.chg.alloc O
  refine ⟨_, hr, by simp only [fillc]; rw [if_neg h0, h.cnt], fun x id hid => ?_, r1.congr fun i _ => ?_, r2, ?_, ?_⟩
  · rw [holds_put hpl e0 x id hid, h.holds x id hid]
    constructor
    · rintro (⟨j, hj, e⟩ | ⟨rfl, rfl⟩)
      · exact ⟨j, by omega, e⟩
      · exact ⟨k, by omega, rfl⟩
    · rintro ⟨j, hj, e⟩
      rcases Nat.lt_or_ge j k with h1 | h1
      · exact .inl ⟨j, h1, e⟩
      · have : j = k := by omega
        subst this
        rw [e]
        exact .inr ⟨rfl, rfl⟩
  · unfold up1
    split
    · simp
    · rfl
  · exact r3.row (h.old.alloc (by omega) O) (by omega) (by omega)
  · refine ⟨r3.os.trans hq.os, r3.output.trans hq.output, Nat.le_trans hq.size r3.size, fun x hx hp => ?_⟩
    rw [r3.block x (Nat.lt_of_lt_of_le hx hq.size) (by
      rintro (rfl | rfl)
      · exact hp (.inl rfl)
      · omega), hq.block x hx hp]
def GrowP (w w' : World) (b o nb sb L c i h id : Nat) (C : Nat → Value) (s : Nat → Slot) : Prop :=
  ∃ s' nk, Refill w w' b o nb sb nk L L C s' (upS s i (h, id)) (c + 1) ∧ w.heap.size ≤ nk
theorem grow_start {w : World} {b o nb sb L c i h id : Nat} {C : Nat → Value} {s : Nat → Slot} {cs : Array Value} (hb : Row w b nb C) (hs : Row w sb (L * 2) (slF s)) (hne : b ≠ sb) (hnb : 0 < nb) (hL : 0 < L) (hT : Tab L s c) (hcs : ∀ i, i < 2 * L * 2 → cs[i]? = some (.int .u32 0)) (N : Nat) :
    Refill w ((((((((w.setCell ⟨sb, i * 2, none⟩ (.int .u32 (h : Int))).setCell ⟨sb, i * 2 + 1, none⟩ (.int .u32 (id : Int))).setCell ⟨b, o + 1, none⟩ (.int .i64 ((c : Int) + 1))).drewN N)).setCell ⟨b, o, none⟩ (.slice (some ⟨w.heap.size, 0, none⟩) (2 * L) (2 * L))).setCell ⟨b, o + 1, none⟩ (.int .i64 0)).alloc (.cells cs 139)) b o nb sb w.heap.size L 0 C (fun _ => (0, 0)) (upS s i (h, id)) 0 := by
  obtain ⟨p1, p2, p3⟩ := put_rows (o := o) (c := c) (i := i) (h := h) (id := id) hb hs hne N
  generalize hw1 : ((((w.setCell ⟨sb, i * 2, none⟩ (.int .u32 (h : Int))).setCell ⟨sb, i * 2 + 1, none⟩ (.int .u32 (id : Int))).setCell ⟨b, o + 1, none⟩ (.int .i64 ((c : Int) + 1))).drewN N) = w1 at *
  have hsz : w1.heap.size = w.heap.size := by
    rw [← hw1]
    show (World.heap (World.setCell _ _ _)).size = _
    rw [World.size_setCell, World.size_setCell, World.size_setCell]
  have hbl := hb.lt hnb
  have hsl := hs.lt (by omega)
  refine ⟨hT.double, rfl, fun x id hid => ?_, ?_, ?_, ?_, ?_⟩
  · constructor
    · rintro ⟨j, hj, e⟩
      simp at e
      exact absurd e.2.symm hid
    · rintro ⟨j, hj, _⟩
      omega
  · refine (((p1.set o _).set (o + 1) _).alloc hnb _).congr fun k _ => ?_
    unfold up1
    split
    · rfl
    · rfl
  · have := Row.new ((w1.setCell ⟨b, o, none⟩ (.slice (some ⟨w.heap.size, 0, none⟩) (2 * L) (2 * L))).setCell ⟨b, o + 1, none⟩ (.int .i64 0)) cs 139 (2 * L * 2) (slF (fun _ => (0, 0))) (fun i hi => by rw [hcs i hi]; unfold slF; simp)
    rw [World.size_setCell, World.size_setCell, hsz] at this
    exact this
  · exact ((p2.setOther (a := ⟨b, o, none⟩) (Ne.symm hne) _).setOther (a := ⟨b, o + 1, none⟩) (Ne.symm hne) _).alloc (by omega) _
  · exact ((p3.set (a := ⟨b, o, none⟩) (.inr (.inl rfl)) _).set (a := ⟨b, o + 1, none⟩) (.inr (.inl rfl)) _).alloc _
set_option maxRecDepth 100000 in
set_option maxHeartbeats 400000 in
theorem put_grow (w : World) (b o nb sb L c i h id : Nat) (C : Nat → Value) (s : Nat → Slot) (hb : Row w b nb C) (ho : o + 1 < nb) (h0 : C o = .slice (some ⟨sb, 0, none⟩) L L) (h1 : C (o + 1) = .int .i64 (c : Int))
    (hs : Row w sb (L * 2) (slF s)) (hne : b ≠ sb) (hi : i < L) (hnot : 4 * c ≤ 3 * L) (hfull : 3 * L < 4 * (c + 1)) (hL : L < 100000000) (hT : Tab L s c) (hh : h < 4294967296) (hid : id < 4294967296) (hid0 : id ≠ 0) (he : (s i).2 = 0) :
    Calls Yba.prog 65 #[.pointer (some ⟨b, o, none⟩), .int .i64 (i : Int), .int .u32 (h : Int), .int .u32 (id : Int)] w fun e w' => e = .returned (.tuple #[]) ∧ GrowP w w' b o nb sb L c i h id C s := by
  have h4 := hT.four
  obtain ⟨cs, hcs, hcf, hmk⟩ := mk_zero zero49 (by omega) (2 * L) (2 * L) (by omega) (by omega)
  have HG : Hid _ := fun N => grow_start (o := o) (i := i) (h := h) (id := id) hb hs hne (by omega) (by omega) hT hcf N
  have k0 : w.cell? ⟨b, o, none⟩ = some (.slice (some ⟨sb, 0, none⟩) L L) := by rw [(hb o (by omega)).1, h0]
  have k1 : w.cell? ⟨b, o + 1, none⟩ = some (.int .i64 (c : Int)) := by rw [(hb (o + 1) ho).1, h1]
  have g0 := (hb o (by omega)).2
  have g1 := (hb (o + 1) ho).2
  have k2 := (hs (i * 2) (by omega)).1
  have k3 := (hs (i * 2 + 1) (by omega)).1
  have g2 := (hs (i * 2) (by omega)).2
  have g3 := (hs (i * 2 + 1) (by omega)).2
  rw [slF_0] at k2
  rw [slF_1] at k3
  have n1 := hne.symm
  have hbl := hb.lt (by omega)
  have hw1 : IntKind.i64.wrap ((c : Int) + 1) = (c : Int) + 1 := by rw [IntKind.wrap_i64]; omega
  have hw2 : IntKind.i64.wrap (4 * ((c : Int) + 1)) = 4 * ((c : Int) + 1) := by rw [IntKind.wrap_i64]; omega
  have hw3 : IntKind.i64.wrap (3 * (L : Int)) = 3 * (L : Int) := by rw [IntKind.wrap_i64]; omega
  have hw4 : IntKind.i64.wrap (2 * (L : Int)) = 2 * (L : Int) := by rw [IntKind.wrap_i64]; omega
  have hd : decide (3 * (L : Int) < 4 * ((c : Int) + 1)) = true := by simp; omega
  have hmk' : ∀ w : World, Sem.run Yba.prog (Instr.makeSlice 49 (.int .i64 (2 * (L : Int))) (.int .i64 (2 * (L : Int)))) w = .ok (.slice (some ⟨w.heap.size, 0, none⟩) (2 * L) (2 * L)) (w.alloc (.cells cs 139)) := fun w => by
    have := hmk w
    rw [show ((2 * L : Nat) : Int) = 2 * (L : Int) by omega] at this
    exact this
  have HT : Hid _ := hT
  have hsl := hs.lt (by omega)
  obtain ⟨s1, hs1⟩ : ∃ s1, s1 = upS s i (h, id) := ⟨_, rfl⟩
  have HC1 : Hid (fillc s1 L = c + 1) := by rw [hs1]; exact (fillc_up s i (h, id) he hid0 L hi).trans (by rw [hT.cnt])
  have HLt : Hid (∀ j, j < L → (s1 j).1 < 4294967296 ∧ (s1 j).2 < 4294967296) := fun j hj => by
    rw [hs1]
    by_cases e : j = i
    · subst e; rw [upS_same]; exact ⟨hh, hid⟩
    · rw [upS_other _ _ e]; exact hT.lt j hj
  rw [← hs1] at HG
  have HS1 : Hid _ := hs1
  clear hb hs hcf hmk hT hs1
  go_enter Yba.func65, Yba.ntmps65
  go_upto_region 2 with fail
  go_quiet (fail)
  go_upto_region 5 with fail
  have HG1 := HG.out nq
  have HG2 : Hid _ := HG1
  clear HG HG1 k0 k1 g0 g1 k2 k3 g2 g3 hmk'
  generalize hwx : ((((((w.setCell ⟨sb, i * 2, none⟩ (.int .u32 (h : Int))).setCell ⟨sb, i * 2 + 1, none⟩ (.int .u32 (id : Int))).setCell ⟨b, o + 1, none⟩ (.int .i64 ((c : Int) + 1))).drewN nq).setCell ⟨b, o, none⟩ (.slice (some ⟨w.heap.size, 0, none⟩) (2 * L) (2 * L))).setCell ⟨b, o + 1, none⟩ (.int .i64 0)).alloc (.cells cs 139) = wx at *
  clear hwx
  go_wp2_with fail
  go_loopg [52] L (fun g t wr => ∃ k s' c', k ≤ L ∧ g = L - k ∧ t = .int .i64 (k : Int) ∧ Refill w wr b o nb sb w.heap.size L k C s' s1 c')
  case atStart => exact ⟨0, _, _, by omega, rfl, rfl, HG2.out⟩
  case round =>
    obtain ⟨k, s', c', hk, hgk, rfl, hR⟩ := hrel
    clear HG2
    by_cases hlt : k < L
    · have hdec : decide ((k : Int) < (L : Int)) = true := by simp; omega
      have hkw : IntKind.i64.wrap ((k : Int) + 1) = ((k + 1 : Nat) : Int) := by rw [IntKind.wrap_i64]; omega
      have x1 := (hR.old (k * 2) (by omega)).1
      have x2 := (hR.old (k * 2 + 1) (by omega)).1
      rw [slF_0] at x1
      rw [slF_1] at x2
      have HR : Hid _ := hR
      by_cases hz : (s1 k).2 = 0
      · have HZ : Hid _ := hz
        rw [hz] at x2
        clear hz hR
        generalize (s1 k).1 = q at *
        go_wp2
        go_roundg (L - (k + 1))
        case measure => omega
        case rel => exact ⟨k + 1, s', c', by omega, rfl, rfl, HR.out.skip HZ.out _ (by omega) (by omega)⟩
      · have hz1 : (((s1 k).2 : Int) == 0) = false := by simp; exact hz
        have hz2 : decide (((s1 k).2 : Int) = 0) = false := by simp; exact hz
        have hl2 := HLt.out k hlt
        have hfl : c' + 1 ≤ c + 1 := by
          rw [← HC1.out, hR.cnt]
          have := fillc_mono s1 (show k + 1 ≤ L by omega)
          simp only [fillc] at this
          rw [if_neg hz] at this
          exact this
        have HI : Hid _ := fun (O : Obj) => insert_any (wr.alloc O) b o nb w.heap.size (2 * L) c' (s1 k).1 (s1 k).2 _ s' (hR.row.alloc (by omega) O) ho (by rw [up1_other _ _ (by omega), up1_same]) (up1_same ..) (hR.new.alloc (by omega) O) (by omega) (by omega) (by omega) hR.tab hl2.1
        have HZ : Hid _ := hz
        have HL2 : Hid _ := hl2
        have HTk : Hid _ := fun (O : Obj) (w' : World) hI => hR.take (w' := w') hz hl2 O (by omega) (by omega) (Nat.le_refl _) n1 (by omega) hI
        clear hz hR hl2
        generalize (s1 k).1 = q at *
        generalize (s1 k).2 = p at *
        go_wp2_with fail
        refine Calls.mono (HI.out _) ?_
        rintro e w2 ⟨rfl, hP⟩
        dsimp only
        have HP : Hid _ := hP
        clear hP
        go_wp2
        go_roundg (L - (k + 1))
        case measure => omega
        case rel =>
          obtain ⟨s2, hs2⟩ := HTk.out _ _ HP.out
          exact ⟨k + 1, s2, c' + 1, by omega, rfl, rfl, hs2⟩
    · have hdec : decide ((k : Int) < (L : Int)) = false := by simp; omega
      have hkn : k = L := by omega
      have HR : Hid _ := hR
      clear hR
      subst hkn
      go_wp2
      go_end0
      refine ⟨rfl, s', w.heap.size, ?_, Nat.le_refl _⟩
      have h2 := HR.out
      have h3 : c' = c + 1 := by rw [h2.cnt, HC1.out]
      rw [h3, HS1.out] at h2
      exact h2
end Go.Proofs.Ybulkakra

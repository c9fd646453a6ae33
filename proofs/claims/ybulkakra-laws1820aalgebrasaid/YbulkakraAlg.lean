/-
  THE BOOKS of the law LawS1820AAlgebra, of seat b1820a.
-/
import Derived.Test.YbulkakraIsect
import Derived.Test.YbulkakraDiff
import Derived.Test.YbulkakraAvec
import Derived.Test.YbulkakraNew
namespace Go.Proofs.Ybulkakra
open Go.RowKit
set_option linter.unusedSimpArgs false
set_option linter.unusedVariables false

/-! ### the laws, of plain sets -/
theorem Tru.at {N : List Nd} {op a b r : Nat} (h : Tru N op a b r) {v : List Nat} (hv : v.length = 3) : has N v 0 r ↔ opS op (has N v 0 a) (has N v 0 b) := h.sem v 0 (by omega) (Nat.zero_le _) (Nat.zero_le _)
theorem opS1 (p q : Prop) : opS 1 p q ↔ p ∨ q := by unfold opS; simp
theorem opS2 (p q : Prop) : opS 2 p q ↔ p ∧ ¬ q := by unfold opS; simp
theorem opS3 (p q : Prop) : opS 3 p q ↔ p ∧ q := by unfold opS; simp
theorem eq_comm' {N : List Nd} (hw : Wf N) {a b r r' : Nat} (T1 : Tru N 1 a b r) (T2 : Tru N 1 b a r') : r' = r :=
  tru_eq hw T2.r_lt T1.r_lt fun v hv => by rw [T1.at hv, T2.at hv, opS1, opS1]; exact Or.comm
theorem eq_assoc' {N : List Nd} (hw : Wf N) {a b c ab bc r r' : Nat} (T1 : Tru N 1 a b ab) (T2 : Tru N 1 ab c r) (T3 : Tru N 1 b c bc) (T4 : Tru N 1 a bc r') : r' = r :=
  tru_eq hw T4.r_lt T2.r_lt fun v hv => by rw [T2.at hv, T4.at hv, opS1, opS1, T1.at hv, T3.at hv, opS1, opS1]; exact or_assoc.symm
theorem eq_abs {N : List Nd} (hw : Wf N) {a b ab r : Nat} (T1 : Tru N 1 a b ab) (T2 : Tru N 1 ab a r) : r = ab :=
  tru_eq hw T2.r_lt T1.r_lt fun v hv => by rw [T2.at hv, opS1, T1.at hv, opS1]; grind
theorem eq_self' {N : List Nd} (hw : Wf N) {a r : Nat} (T : Tru N 1 a a r) : r = a :=
  tru_eq hw T.r_lt T.a_lt fun v hv => by rw [T.at hv, opS1]; grind
theorem eq_i1 {N : List Nd} (hw : Wf N) {a b ab r : Nat} (T1 : Tru N 1 a b ab) (T2 : Tru N 3 ab a r) : r = a :=
  tru_eq hw T2.r_lt T1.a_lt fun v hv => by rw [T2.at hv, opS3, T1.at hv, opS1]; grind
theorem eq_i2 {N : List Nd} (hw : Wf N) {a b ab r : Nat} (T1 : Tru N 1 a b ab) (T2 : Tru N 3 ab b r) : r = b :=
  tru_eq hw T2.r_lt T1.b_lt fun v hv => by rw [T2.at hv, opS3, T1.at hv, opS1]; grind
theorem eq_d {N : List Nd} (hw : Wf N) {a b ab r : Nat} (T1 : Tru N 1 a b ab) (T2 : Tru N 2 a ab r) : r = 0 :=
  tru_eq hw T2.r_lt (by have := hw.two; omega) fun v hv => by
    have := has_zero hw v 0
    rw [T2.at hv, opS2, T1.at hv, opS1]; grind

/-! ### the books -/
/-- What a fact on the nodes must be: it stays true as nodes come. -/
def Stab (Q : List Nd → Prop) : Prop := ∀ N N', Wf N → N <+: N' → Q N → Q N'
theorem stab_true : Stab (fun _ => True) := fun _ _ _ _ _ => trivial
theorem stab_lt (a : Nat) : Stab (fun N => a < N.length) := fun _ _ _ e h => Nat.lt_of_lt_of_le h e.length_le
theorem stab_tru (op a b r : Nat) : Stab (fun N => Tru N op a b r) := fun _ _ hw e h => h.ext hw e
theorem Stab.and {P Q : List Nd → Prop} (h : Stab P) (k : Stab Q) : Stab (fun N => P N ∧ Q N) := fun N N' hw e q => ⟨h N N' hw e q.1, k N N' hw e q.2⟩
structure AI (w : World) (d : Nat) (wr : World) (tg : Nat → Nat) (N : List Nd) (m : Nat) : Prop where
  st : St tg wr d N []
  wf : Wf N
  told : ∀ b, b < w.heap.size → tg b = 0
  jk : Jk w wr
  len : N.length ≤ 2 + 6 * m
  es : esum N ≤ 15 * m
  hd : w.heap.size ≤ d
theorem AI.pin {w : World} {d : Nat} {wr : World} {tg : Nat → Nat} {N : List Nd} {m : Nat} (h : AI w d wr tg N m) : d + 1 < wr.heap.size := by
  obtain ⟨C, hC⟩ := h.st
  exact hC.pin.1
theorem AI.keep {w : World} {d : Nat} {wr w' : World} {tg tg' : Nat → Nat} {N N' : List Nd} {m m' : Nat} (h : AI w d wr tg N m) (k : Fr (fun r => 1 ≤ r) tg wr tg' w') (hs : St tg' w' d N' []) (hw : Wf N') (h1 : N'.length ≤ 2 + 6 * m') (h2 : esum N' ≤ 15 * m') : AI w d w' tg' N' m' ∧ tg' (d + 1) = tg (d + 1) := by
  refine ⟨⟨hs, hw, fun b hb => (k.tag b (Nat.lt_of_lt_of_le hb h.jk.size)).trans (h.told b hb), ⟨k.os.trans h.jk.os, k.output.trans h.jk.output, Nat.le_trans h.jk.size k.size, fun b hb => ?_⟩, h1, h2, h.hd⟩, k.tag _ h.pin⟩
  rw [k.block b (Nat.lt_of_lt_of_le hb h.jk.size) (by rw [h.told b hb]; omega), h.jk.block b hb]
/-- The books before the chunk's address is written down. -/
def BK (w : World) (d : Nat) (wr : World) (m : Nat) (Q : List Nd → Prop) : Prop := ∃ tg N, AI w d wr tg N m ∧ tg (d + 1) = 0 ∧ Q N
/-- .. and behind it. -/
def BJ (w : World) (d : Nat) (wr : World) (m : Nat) (Q : List Nd → Prop) : Prop := ∃ tg N, AI w d wr tg N m ∧ ((∃ e, tg (d + 1) = 1000 + e) ∨ esum N = 0) ∧ Q N
theorem BK.jk {w : World} {d : Nat} {wr : World} {m : Nat} {Q : List Nd → Prop} (h : BK w d wr m Q) : Jk w wr := by
  obtain ⟨_, _, h, _⟩ := h
  exact h.jk
theorem BJ.jk {w : World} {d : Nat} {wr : World} {m : Nat} {Q : List Nd → Prop} (h : BJ w d wr m Q) : Jk w wr := by
  obtain ⟨_, _, h, _⟩ := h
  exact h.jk
theorem BK.get {w : World} {d : Nat} {wr : World} {m : Nat} {Q : List Nd → Prop} (h : BK w d wr m Q) : ∃ N, Wf N ∧ Q N := by
  obtain ⟨_, N, h, _, q⟩ := h
  exact ⟨N, h.wf, q⟩
theorem BJ.get {w : World} {d : Nat} {wr : World} {m : Nat} {Q : List Nd → Prop} (h : BJ w d wr m Q) : ∃ N, Wf N ∧ Q N := by
  obtain ⟨_, N, h, _, q⟩ := h
  exact ⟨N, h.wf, q⟩
theorem BK.weak {w : World} {d : Nat} {wr : World} {m : Nat} {Q Q' : List Nd → Prop} (h : BK w d wr m Q) (k : ∀ N, Q N → Q' N) : BK w d wr m Q' := by
  obtain ⟨tg, N, h, z, q⟩ := h
  exact ⟨tg, N, h, z, k N q⟩
theorem BJ.weak {w : World} {d : Nat} {wr : World} {m : Nat} {Q Q' : List Nd → Prop} (h : BJ w d wr m Q) (k : ∀ N, Q N → Q' N) : BJ w d wr m Q' := by
  obtain ⟨tg, N, h, z, q⟩ := h
  exact ⟨tg, N, h, z, k N q⟩
theorem BK.start {w w1 : World} {d : Nat} (h : NewP w w1 d) : BK w d w1 0 (fun _ => True) := by
  obtain ⟨tg, h1, h2, h3, h4, h5⟩ := h
  exact ⟨tg, N0, ⟨h1, N0_wf, h3, h2, by simp [N0], by simp [N0, esum], h4⟩, h5, trivial⟩
theorem BK.union {w : World} {d : Nat} {wr : World} {m : Nat} {Q : List Nd → Prop} (h : BK w d wr m Q) (hs : Stab Q) (hm : m ≤ 3200) (a b : Nat) (hab : ∀ N, Q N → a < N.length ∧ b < N.length) :
    Calls Yba.prog 6 #[.pointer (some ⟨d, 0, none⟩), .int .u32 (a : Int), .int .u32 (b : Int)] wr fun e w' => ∃ r, e = .returned (.int .u32 ((r : Nat) : Int)) ∧ BK w d w' (m + 6) (fun N => Q N ∧ Tru N 1 a b r) := by
  obtain ⟨tg, N, h, z, q⟩ := h
  have hl := h.len
  have he := h.es
  have hc : cost 4 3 = 21 := rfl
  obtain ⟨ha, hb⟩ := hab N q
  refine (union_all 4 (.inr rfl) 3 tg wr d N [] a b h.st h.wf ha hb (by omega) (.inl rfl) (by omega) (by omega) (by simp)).mono ?_
  rintro e w3 ⟨u, rfl, tg3, N3, y1, y2, y3, y4, y5, y6, y7⟩
  obtain ⟨k1, k2⟩ := h.keep (m' := m + 6) y7 y1 y2 (by omega) (by omega)
  exact ⟨u, rfl, tg3, N3, k1, k2.trans z, hs N N3 h.wf y3 q, y4⟩
theorem BK.vec {w : World} {d : Nat} {wr : World} {m : Nat} {Q : List Nd → Prop} {s x : Nat} (h : BK w d wr m (fun N => Q N ∧ s < N.length)) (hs : Stab Q) (hm : m ≤ 3200) (hx : x < 65536) :
    Calls Yba.prog 7 #[.pointer (some ⟨d, 0, none⟩), .int .u16 (x : Int)] wr fun e w2 => ∃ r, e = .returned (.int .u32 ((r : Nat) : Int)) ∧ Calls Yba.prog 6 #[.pointer (some ⟨d, 0, none⟩), .int .u32 (s : Int), .int .u32 (r : Int)] w2 fun e w3 => ∃ s', e = .returned (.int .u32 ((s' : Nat) : Int)) ∧ BK w d w3 (m + 1) (fun N => Q N ∧ s' < N.length) := by
  obtain ⟨tg, N, h, z, q, hsl⟩ := h
  have hl := h.len
  have he := h.es
  refine (avec_any tg wr d x N [] hx h.st h.wf (by omega) (by omega) (by omega)).mono ?_
  rintro e w2 ⟨r, rfl, tg2, N2, z1, z2, z3, z4, z5, z6, z7, z8⟩
  obtain ⟨h2, p2⟩ := h.keep (m' := m + 1) z8 z1 z2.wf (by omega) (by omega)
  refine ⟨r, rfl, ?_⟩
  have hc : cost 1 3 = 3 := rfl
  refine (union_all 1 (.inl rfl) 3 tg2 w2 d N2 [] s r z1 z2.wf (Nat.lt_of_lt_of_le hsl z5.length_le) z4 (by omega) (.inr ⟨rfl, .inr (z2.thin 3)⟩) (by omega) (by omega) (by simp)).mono ?_
  rintro e w3 ⟨s', rfl, tg3, N3, y1, y2, y3, y4, y5, y6, y7⟩
  obtain ⟨h3, p3⟩ := h2.keep (m' := m + 1) y7 y1 y2 (by omega) (by omega)
  exact ⟨s', rfl, tg3, N3, h3, (p3.trans p2).trans z, hs N N3 h.wf (z5.trans y3) q, y4.r_lt⟩
theorem BK.pinned {w : World} {d : Nat} {wr : World} {m : Nat} {Q : List Nd → Prop} (h : BK w d wr m Q) : BJ w d wr m Q := by
  obtain ⟨tg, N, h, z, q⟩ := h
  by_cases h0 : esum N = 0
  · exact ⟨tg, N, h, .inr h0, q⟩
  · obtain ⟨C, hC⟩ := h.st
    obtain ⟨e, hC2⟩ := hC.pinned z h0
    have hd := h.hd
    exact ⟨_, N, ⟨⟨C, hC2⟩, h.wf, fun b hb => (tagAt_other _ (by omega)).trans (h.told b hb), h.jk, h.len, h.es, h.hd⟩, .inl ⟨e, tagAt_same ..⟩, q⟩
theorem BJ.op {op fn : Nat} (hall : ∀ f, GC op fn f) (hearly : ∀ (tg : Nat → Nat) (w : World) (d : Nat) (N : List Nd) (S : List Ed) (c a b : Nat), St tg w d N S → Wf N → a < N.length → b < N.length → (a = b ∨ a = 0 ∨ b = 0) → Calls Yba.prog fn #[.pointer (some ⟨d, 0, none⟩), .int .u32 (a : Int), .int .u32 (b : Int)] w fun e w' => ∃ r, e = .returned (.int .u32 ((r : Nat) : Int)) ∧ GP op tg w w' d N S c a b r)
    {w : World} {d : Nat} {wr : World} {m : Nat} {Q : List Nd → Prop} (h : BJ w d wr m Q) (hs : Stab Q) (hm : m ≤ 3200) (a b : Nat) (hab : ∀ N, Q N → a < N.length ∧ b < N.length) :
    Calls Yba.prog fn #[.pointer (some ⟨d, 0, none⟩), .int .u32 (a : Int), .int .u32 (b : Int)] wr fun e w' => ∃ r, e = .returned (.int .u32 ((r : Nat) : Int)) ∧ BJ w d w' (m + 6) (fun N => Q N ∧ Tru N op a b r) := by
  obtain ⟨tg, N, h, z, q⟩ := h
  have hl := h.len
  have he := h.es
  obtain ⟨ha, hb⟩ := hab N q
  rcases z with ⟨e, z⟩ | z
  · have hc : gc 3 = 21 := rfl
    refine (hall 3 tg wr d e N [] a b h.st z h.wf ha hb (by omega) (by omega) (by omega) (by simp)).mono ?_
    rintro e0 w3 ⟨u, rfl, tg3, N3, y1, y2, y3, y4, y5, y6, y7⟩
    obtain ⟨k1, k2⟩ := h.keep (m' := m + 6) y7 y1 y2 (by omega) (by omega)
    exact ⟨u, rfl, tg3, N3, k1, .inl ⟨e, k2.trans z⟩, hs N N3 h.wf y3 q, y4⟩
  · have hN : N.length ≤ 2 := by
      rcases Nat.lt_or_ge 2 N.length with h2 | h2
      · have h3 := (h.wf.ok 2 (Nat.le_refl _) h2).ne
        exact absurd (edg_nil z h2) h3
      · exact h2
    refine (hearly tg wr d N [] 0 a b h.st h.wf ha hb (by omega)).mono ?_
    rintro e0 w3 ⟨u, rfl, tg3, N3, y1, y2, y3, y4, y5, y6, y7⟩
    obtain ⟨k1, k2⟩ := h.keep (m' := m + 6) y7 y1 y2 (by omega) (by omega)
    exact ⟨u, rfl, tg3, N3, k1, .inr (by omega), hs N N3 h.wf y3 q, y4⟩
/-- The input: n numbers X. -/
def InRow (w : World) (ao : Option Addr) (n : Nat) (X : Nat → Nat) : Prop := (n = 0) ∨ ∃ bb o, ao = some ⟨bb, o, none⟩ ∧ ∀ i, i < n → w.cell? ⟨bb, o + i, none⟩ = some (.int .u16 (X i : Int)) ∧ X i < 65536
theorem InRow.cell {w w' : World} {ao : Option Addr} {n : Nat} {X : Nat → Nat} (h : InRow w ao n X) (k : Jk w w') {i : Nat} (hi : i < n) : ∃ bb o, ao = some ⟨bb, o, none⟩ ∧ w'.cell? ⟨bb, o + i, none⟩ = some (.int .u16 (X i : Int)) ∧ X i < 65536 := by
  rcases h with h | ⟨bb, o, h1, h2⟩
  · omega
  · exact ⟨bb, o, h1, k.cell (h2 i hi).1, (h2 i hi).2⟩
/-- zzs1820aset. -/
theorem aset_any {w : World} {d : Nat} {wr : World} {m : Nat} {Q : List Nd → Prop} (h : BK w d wr m Q) (hs : Stab Q) (ao : Option Addr) (n c : Nat) (X : Nat → Nat) (hX : InRow w ao n X) (hn : n ≤ 1024) (hm : m ≤ 2048) :
    Calls Yba.prog 11 #[.pointer (some ⟨d, 0, none⟩), .slice ao n c] wr fun e w' => ∃ s, e = .returned (.int .u32 ((s : Nat) : Int)) ∧ BK w d w' (m + n) (fun N => Q N ∧ s < N.length) := by
  have H0 : Hid (BK w d wr (m + 0) (fun N => Q N ∧ 0 < N.length)) := by
    obtain ⟨tg, N, h, z, q⟩ := h
    exact ⟨tg, N, h, z, q, by have := h.wf.two; omega⟩
  have HS : Hid (Stab Q) := hs
  have HX : Hid (InRow w ao n X) := hX
  clear h hs hX
  go_enter Yba.func11, Yba.ntmps11
  go_wp2_with fail
  go_loopg [5, 10] n (fun g t u wx => ∃ i s : Nat, g = n - i ∧ t = .int .u32 (s : Int) ∧ u = .int .i64 (i : Int) ∧ i ≤ n ∧ BK w d wx (m + i) (fun N => Q N ∧ s < N.length))
  case atStart => exact ⟨0, 0, rfl, rfl, rfl, by omega, H0.out⟩
  case round =>
    obtain ⟨i, s, hgk, rfl, rfl, hin, hB⟩ := hrel
    clear H0
    by_cases hlt : i < n
    · obtain ⟨bb, o, rfl, x1, hx⟩ := InRow.cell HX.out hB.jk hlt
      have HV : Hid _ := hB.vec HS.out (by omega) hx
      have hiw : IntKind.i64.wrap ((i : Int) + 1) = ((i + 1 : Nat) : Int) := by rw [IntKind.wrap_i64]; omega
      clear hB
      generalize X i = xi at *
      go_wp2_with fail
      refine Calls.mono HV.out ?_
      rintro e w2 ⟨r, rfl, hc⟩
      dsimp only
      have HC : Hid _ := hc
      clear hc HV
      go_wp2_with fail
      refine Calls.mono HC.out ?_
      rintro e w3 ⟨s', rfl, hB⟩
      dsimp only
      have HB : Hid _ := hB
      clear hB HC
      go_wp2
      go_roundg (n - (i + 1))
      case measure => omega
      case rel => exact ⟨i + 1, s', rfl, rfl, rfl, hlt, HB.out⟩
    · have hni : i = n := by omega
      subst hni
      have HB : Hid _ := hB
      clear hB
      go_wp2
      go_ret
      exact ⟨s, rfl, HB.out⟩
end Go.Proofs.Ybulkakra

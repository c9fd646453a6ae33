/-
  THE LAW's BOOKS, of seat b1820a.
-/
import Derived.Test.YbulkakraAll
import Derived.Test.YbulkakraNew
namespace Go.Proofs.Ybulkakra
open Go.RowKit
set_option linter.unusedSimpArgs false
set_option linter.unusedVariables false

/-- Set s holds the vectors whose numbers are in A. -/
def Sem3 (N : List Nd) (s : Nat) (A : Nat → Prop) : Prop := ∀ v, v.length = 3 → (∀ x ∈ v, x < 4) → (has N v 0 s ↔ A (cod v))
theorem Sem3.ext {N N' : List Nd} {s : Nat} {A : Nat → Prop} (h : Sem3 N s A) (hw : Wf N) (e : N <+: N') (hs : s < N.length) : Sem3 N' s A := fun v h1 h2 => (has_ext hw e v 0 s hs).trans (h v h1 h2)
theorem vec_cod {x : Nat} {v : List Nat} (h1 : v.length = 3) (h2 : ∀ y ∈ v, y < 4) : v = vs (vx x) 3 ↔ cod v = cx x := by
  match v, h1 with
  | [a, b, c], _ =>
    have ha := h2 a (by simp)
    have hb := h2 b (by simp)
    have hc := h2 c (by simp)
    have h0 := vx_lt x 0
    have h1 := vx_lt x 1
    have h2 := vx_lt x 2
    simp only [vs, cod, cx, List.length_cons, List.length_nil, List.cons.injEq]
    constructor
    · rintro ⟨rfl, rfl, rfl, _⟩
      simp
      omega
    · intro h
      simp at h
      refine ⟨?_, ?_, ?_, trivial⟩ <;> simp <;> omega
structure LI (w : World) (d bw : Nat) (wr : World) (tg : Nat → Nat) (N : List Nd) (W : Nat → Bool) (m : Nat) : Prop where
  st : St tg wr d N []
  wf : Wf N
  row : Row wr bw 64 (fun c => .bool (W c))
  tw : tg bw = 0
  told : ∀ b, b < w.heap.size → tg b = 0
  jk : Jk w wr
  len : N.length ≤ 2 + 6 * m
  es : esum N ≤ 15 * m
  hbw : w.heap.size ≤ bw
theorem LI.keep {w : World} {d bw : Nat} {wr w' : World} {tg tg' : Nat → Nat} {N N' : List Nd} {W : Nat → Bool} {m m' : Nat} (h : LI w d bw wr tg N W m) (k : Fr (fun r => 1 ≤ r) tg wr tg' w') (hs : St tg' w' d N' []) (hw : Wf N') (h1 : N'.length ≤ 2 + 6 * m') (h2 : esum N' ≤ 15 * m') : LI w d bw w' tg' N' W m' := by
  have hl := h.row.lt (by omega)
  refine ⟨hs, hw, h.row.fr k hl (by rw [h.tw]; omega), (k.tag _ hl).trans h.tw, fun b hb => (k.tag b (Nat.lt_of_lt_of_le hb h.jk.size)).trans (h.told b hb), ⟨k.os.trans h.jk.os, k.output.trans h.jk.output, Nat.le_trans h.jk.size k.size, fun b hb => ?_⟩, h1, h2, h.hbw⟩
  rw [k.block b (Nat.lt_of_lt_of_le hb h.jk.size) (by rw [h.told b hb]; omega), h.jk.block b hb]
def upW (W : Nat → Bool) (c : Nat) : Nat → Bool := fun i => if i = c then true else W i
/-- One element of the input. -/
theorem law_step {w : World} {d bw : Nat} {wr : World} {tg : Nat → Nat} {N : List Nd} {W : Nat → Bool} {m s x : Nat} {A : Nat → Prop} (h : LI w d bw wr tg N W m) (hm : m ≤ 2047) (hs : s < N.length) (hA : Sem3 N s A) (hx : x < 65536) :
    Calls Yba.prog 7 #[.pointer (some ⟨d, 0, none⟩), .int .u16 (x : Int)] wr fun e w2 => ∃ r, e = .returned (.int .u32 ((r : Nat) : Int)) ∧ Calls Yba.prog 6 #[.pointer (some ⟨d, 0, none⟩), .int .u32 (s : Int), .int .u32 (r : Int)] w2 fun e w3 => ∃ s', e = .returned (.int .u32 ((s' : Nat) : Int)) ∧ (∃ u, w3.cell? ⟨bw, cx x, none⟩ = some u) ∧ w3.frozen? ⟨bw, cx x, none⟩ = false ∧ ∃ tg' N', LI w d bw (w3.setCell ⟨bw, cx x, none⟩ (.bool true)) tg' N' (upW W (cx x)) (m + 1) ∧ s' < N'.length ∧ N <+: N' ∧ Sem3 N' s' (fun c => A c ∨ c = cx x) := by
  have hl := h.len
  have he := h.es
  refine (avec_any tg wr d x N [] hx h.st h.wf (by omega) (by omega)).mono ?_
  rintro e w2 ⟨r, rfl, tg2, N2, z1, z2, z3, z4, z5, z6, z7, z8⟩
  have h2 := h.keep (m' := m + 1) z8 z1 z2.wf (by omega) (by omega)
  refine ⟨r, rfl, ?_⟩
  have hc : cost 1 3 = 3 := rfl
  refine (union_all 1 (.inl rfl) 3 tg2 w2 d N2 [] s r z1 z2.wf (Nat.lt_of_lt_of_le hs z5.length_le) z4 (by omega) (.inr ⟨rfl, .inr (z2.thin 3)⟩) (by omega) (by omega) (by simp)).mono ?_
  rintro e w3 ⟨s', rfl, tg3, N3, y1, y2, y3, y4, y5, y6, y7⟩
  have h3 := h2.keep (m' := m + 1) y7 y1 y2 (by omega) (by omega)
  have hcx := cx_lt x
  obtain ⟨q1, q2⟩ := h3.row (cx x) hcx
  have hbl := h3.row.lt (by omega)
  refine ⟨s', rfl, ⟨_, q1⟩, q2, tg3, N3, ?_, y4.r_lt, z5.trans y3, fun v hv hv4 => ?_⟩
  · have F : Fr (fun r => r = 0) tg3 w3 tg3 (w3.setCell ⟨bw, cx x, none⟩ (.bool true)) := (Fr.refl _ tg3 w3).set (a := ⟨bw, cx x, none⟩) (.inr h3.tw) _
    obtain ⟨C, hC⟩ := h3.st
    refine ⟨⟨C, hC.fr F (fun r h => by omega)⟩, y2, (h3.row.set (cx x) _).congr fun i _ => ?_, h3.tw, h3.told, h3.jk.set (a := ⟨bw, cx x, none⟩) h3.hbw _, h3.len, h3.es, h3.hbw⟩
    unfold up1 upW
    split <;> rfl
  · rw [y4.sem v 0 (by omega) (by omega) (by omega)]
    have hr := (has_ext z2.wf y3 v 0 r z4).trans (z2.sem v hv)
    have hss := (has_ext z2.wf y3 v 0 s (Nat.lt_of_lt_of_le hs z5.length_le)).trans ((has_ext h.wf z5 v 0 s hs).trans (hA v hv hv4))
    rw [hr, hss, vec_cod hv hv4]
    unfold opS
    simp
end Go.Proofs.Ybulkakra

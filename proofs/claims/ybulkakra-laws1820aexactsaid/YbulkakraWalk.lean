/-
  All's WALK, of seat b1820a.
-/
import Derived.Test.YbulkakraWs
namespace Go.Proofs.Ybulkakra
open Go.RowKit
set_option linter.unusedSimpArgs false
set_option linter.unusedVariables false

/-- The number that the values q begin. -/
def bq (q : Nat → Nat) : Nat := q 0 * 16 + q 1 * 4 + q 2
def WCP (b : Bl) (W : Nat → Bool) (N : List Nd) (tg : Nat → Nat) (w : World) (q : Nat → Nat) (m : Nat) (w' : World) : Prop := ∃ tg' p' g', WS b W N tg' w' p' g' (nzp q 3) ∧ JJ W m p' g' ∧ FrV b tg w tg' w'
/-- The walk's contract. -/
def WC (b : Bl) (W : Nat → Bool) (N : List Nd) (f : Nat) : Prop := ∀ (tg : Nat → Nat) (w : World) (p : Int) (g : Nat) (q : Nat → Nat) (a l : Nat), WS b W N tg w p g (nzp q 3) → a < N.length → l ≤ 3 → l ≤ lev N a → (∀ i, q i < 4) → (∀ i, l ≤ i → q i = 0) → Says N W l a (bq q) → JJ W (bq q) p g → 3 ≤ f + lev N a →
  Calls Yba.prog 23 #[.int .u32 (a : Int), .pointer (some ⟨b.y, 0, none⟩), .pointer (some ⟨b.q, 0, none⟩), .pointer (some ⟨b.dd, 0, none⟩), .pointer (some ⟨b.k, 0, none⟩)] w fun e w' => e = .returned (.bool true) ∧ WCP b W N tg w q (bq q + 4 ^ (3 - l)) w'
theorem walk_term (b : Bl) (W : Nat → Bool) (N : List Nd) (hw : Wf N) (ok : b.Ok) (tg : Nat → Nat) (w : World) (p : Int) (g : Nat) (q : Nat → Nat) (a l : Nat) (hS : WS b W N tg w p g (nzp q 3)) (ha : a < 2) (hl : l ≤ 3) (hq : ∀ i, q i < 4) (hsay : Says N W l a (bq q)) (hJ : JJ W (bq q) p g) :
    Calls Yba.prog 23 #[.int .u32 (a : Int), .pointer (some ⟨b.y, 0, none⟩), .pointer (some ⟨b.q, 0, none⟩), .pointer (some ⟨b.dd, 0, none⟩), .pointer (some ⟨b.k, 0, none⟩)] w fun e w' => e = .returned (.bool true) ∧ WCP b W N tg w q (bq q + 4 ^ (3 - l)) w' := by
  have hp : 0 < 4 ^ (3 - l) := Nat.pow_pos (by omega)
  by_cases h0 : a = 0
  · subst h0
    have HP : Hid (WCP b W N tg w q (bq q + 4 ^ (3 - l)) w) := ⟨tg, p, g, hS, hJ.skip (by omega) (fun i h1 h2 => hsay.none hl h1 h2 (fun v _ _ _ => has_zero hw v l)), FrV.refl _ _ _⟩
    clear hS hsay hJ
    go_enter Yba.func23, Yba.ntmps23
    go_wp2
    go_ret
    exact ⟨rfl, HP.out⟩
  · have h1 : a = 1 := by omega
    subst h1
    have hlev : lev N 1 = TT := by unfold lev; rw [hw.t1]
    obtain ⟨s1, s2⟩ := Says.downTo (L := 3) (by rw [hlev]; unfold TT; omega) (by omega) (3 - l) l (by omega) hsay
    have hWB : W (bq q) = true := by
      have := (s1 [] rfl (by simp)).1 rfl
      simpa [cod] using this
    have hg : g ≤ 64 := by
      rw [hJ.2]
      have h0 := hq 0
      have h1 := hq 1
      have h2 := hq 2
      have := cnt_le W (bq q)
      unfold bq at *
      omega
    obtain ⟨v, cap, f, c1, c2, c3⟩ := hS.path
    obtain ⟨ao, pb, rfl, hb, hrow⟩ := c2.is
    have hle := c2.le
    have hcall := call_any w b.o b.p b.g b.w pb cap ao p g W q hq (fun h => (hb (by omega)).1) (fun j hj => by
      have e1 := (hrow (j * 2) (by omega)).1
      have e2 := (hrow (j * 2 + 1) (by omega)).1
      rw [c3 _ (by omega), edF_0] at e1
      rw [c3 _ (by omega), edF_1] at e2
      exact ⟨e1, e2⟩) (by omega) hS.cp hS.fp hS.cg hS.fg ok.pg hS.row hJ.1 hWB
    have cy := hS.cy
    unfold fnY at cy
    have HC : Hid _ := hcall
    have HE : Hid (∀ w', CbP w w' b.p b.g (bq q) g → WCP b W N tg w q (bq q + 4 ^ (3 - l)) w') := fun w' hcb => by
      obtain ⟨z1, z2⟩ := hS.called ok hcb
      refine ⟨tg, _, _, z1, (hJ.take hWB).skip (by omega) (fun i h1 h2 => s2 i (by simpa using h1) h2), z2⟩
    clear hS hsay hJ s1 s2 hcall hrow hb c2 c3 hle
    generalize hPl : (nzp q 3).length = pl at *
    have e1 : ((1 : Int) == 0) = false := rfl
    go_enter Yba.func23, Yba.ntmps23
    go_wp2_with fail
    refine Calls.mono HC.out ?_
    rintro e w1 ⟨rfl, hcb⟩
    dsimp only
    have HE2 : Hid _ := HE.out w1 hcb
    clear hcb
    go_wp2
    go_ret
    exact ⟨rfl, HE2.out⟩
def yv (E : List Ed) : Nat → Nat
  | 0 => 0
  | i + 1 => vE E i + 1
theorem bq_add (q : Nat → Nat) {L x : Nat} (hL : L ≤ 2) (hz : q L = 0) : bq (fun i => if i = L then x else q i) = bq q + x * 4 ^ (2 - L) := by
  unfold bq
  rcases L with _ | _ | _ | L
  · simp [hz]; omega
  · simp [hz]; omega
  · simp [hz]
  · omega
/-- An append whose run is known. -/
theorem wpList_app34 {ops : Array Oper} {rest : List Oper} {o : Oper} {a : Act} {w w' : World} {Q : Exit → Act → World → Prop} {v xv v' : Value} (hgd : o.guard = none) (s x : Operand) (ho : o.op = .call { callee := .builtin .append, args := #[s, x], argTypes := #[34, 34] })
    (hv : a.eval s = v) (hx : a.eval x = xv) (hrun : (Builtin.append_ #[34, 34] o.type #[v, xv]).run Yba.prog w = .ok v' w') (h : wpList Yba.prog ops Q rest (a.put o.dst v') w') : wpList Yba.prog ops Q (o :: rest) a w := by
  refine wpList_plain hgd fun K hK' => ?_
  unfold Oper.wp
  simp [execOp, ho, resolve, invoke, builtin, hv, hx, hrun, Result.andThen]
  exact hK' _ _ h
theorem src34 {w : World} {b c : Nat} {E : List Ed} (h : EdAt w b 0 E) : Src Yba.prog 2 34 (.slice (some ⟨b, 0, none⟩) E.length c) E.length (edCells E) w :=
  Src.ofSlice _ elem34.1 _ _ _ _ (edCells_len E) (edCells_src h) (edCells_one E)
/-- One round of the walk's loop: what it may rely on. -/
structure RP (b : Bl) (W : Nat → Bool) (N : List Nd) (f : Nat) (tg : Nat → Nat) (w : World) (q : Nat → Nat) (L B : Nat) (E : List Ed) (i : Nat) (tg' : Nat → Nat) (wr : World) (p' : Int) (g' : Nat) : Prop where
  ws : WS b W N tg' wr p' g' (nzp q 3)
  jj : JJ W (B + yv E i * 4 ^ (2 - L)) p' g'
  fr : FrV b tg w tg' wr
/-- What the loop relies on. -/
structure LP (b : Bl) (W : Nat → Bool) (N : List Nd) (f : Nat) (q : Nat → Nat) (a L B : Nat) (E : List Ed) : Prop where
  wf : Wf N
  ok : b.Ok
  ih : WC b W N f
  ha : a < N.length
  hL : lev N a = L
  L2 : L ≤ 2
  hE : E = edg N a
  hB : B = bq q
  q4 : ∀ i, q i < 4
  qz : ∀ i, L ≤ i → q i = 0
  says : Says N W L a B
  fuel : 3 ≤ f + (L + 1)
theorem LP.mem {b : Bl} {W : Nat → Bool} {N : List Nd} {f : Nat} {q : Nat → Nat} {a L B : Nat} {E : List Ed} (h : LP b W N f q a L B E) {i : Nat} (hi : i < E.length) : (vE E i, tE E i) ∈ edg N a := by rw [← h.hE]; exact tE_mem hi
theorem LP.sorted {b : Bl} {W : Nat → Bool} {N : List Nd} {f : Nat} {q : Nat → Nat} {a L B : Nat} {E : List Ed} (h : LP b W N f q a L B E) {i j : Nat} (hij : i < j) (hj : j < E.length) : vE E i < vE E j := by
  have h2 := (h.wf.to_lt h.ha (h.mem (i := j) hj)).1
  have := (h.wf.ok a h2 h.ha).inc
  rw [← h.hE] at this
  have := List.pairwise_iff_getElem.1 this i j (by omega) hj hij
  unfold vE
  rw [List.getD_eq_getElem?_getD, List.getElem?_eq_getElem (by omega), List.getD_eq_getElem?_getD, List.getElem?_eq_getElem hj]
  exact this
/-- Up to the next edge nothing is wanted. -/
theorem LP.skip {b : Bl} {W : Nat → Bool} {N : List Nd} {f : Nat} {q : Nat → Nat} {a L B : Nat} {E : List Ed} (h : LP b W N f q a L B E) {i : Nat} (hi : i ≤ E.length) (m : Nat) (hm : m = if i < E.length then vE E i else 4) {p : Int} {g : Nat} (hJ : JJ W (B + yv E i * 4 ^ (2 - L)) p g) : JJ W (B + m * 4 ^ (2 - L)) p g := by
  have hm4 : m ≤ 4 := by
    rw [hm]
    split
    · next h1 => have := (h.wf.to_lt h.ha (h.mem h1)).2.1; simp at this; omega
    · omega
  have hy : yv E i ≤ m := by
    rcases i with _ | i
    · simp [yv]
    · simp only [yv]
      have h1 := (h.wf.to_lt h.ha (h.mem (i := i) (by omega))).2.1
      simp only at h1
      rw [hm]
      split
      · next h2 => exact h.sorted (Nat.lt_succ_self i) h2
      · omega
  refine hJ.skip (by have := Nat.mul_le_mul_right (4 ^ (2 - L)) hy; omega) (h.says.gap h.hL h.L2 hm4 (fun x t hx hr => ?_))
  rw [← h.hE] at hx
  obtain ⟨k, hk, hxe⟩ := List.getElem_of_mem hx
  have hv : vE E k = x := by
    unfold vE
    rw [List.getD_eq_getElem?_getD, List.getElem?_eq_getElem hk]
    simp [hxe]
  rcases Nat.lt_or_ge k i with h1 | h1
  · have : x < yv E i := by
      rcases i with _ | i
      · omega
      · simp only [yv]
        rcases Nat.lt_or_ge k i with h2 | h2
        · have := h.sorted h2 (by omega); omega
        · have : k = i := by omega
          subst this; omega
    omega
  · rw [hm, if_pos (by omega)] at hr
    rcases Nat.lt_or_ge i k with h2 | h2
    · have := h.sorted h2 hk; omega
    · have : k = i := by omega
      subst this; omega
/-- The call of a round: q' the values with the round's own. -/
theorem LP.call {b : Bl} {W : Nat → Bool} {N : List Nd} {f : Nat} {q : Nat → Nat} {a L B : Nat} {E : List Ed} (h : LP b W N f q a L B E) {i : Nat} (hi : i < E.length) {tg' : Nat → Nat} {w1 : World} {p : Int} {g : Nat} (hJ : JJ W (B + yv E i * 4 ^ (2 - L)) p g)
    (hS : WS b W N tg' w1 p g (nzp (fun j => if j = L then vE E i else q j) 3)) :
    Calls Yba.prog 23 #[.int .u32 (tE E i : Int), .pointer (some ⟨b.y, 0, none⟩), .pointer (some ⟨b.q, 0, none⟩), .pointer (some ⟨b.dd, 0, none⟩), .pointer (some ⟨b.k, 0, none⟩)] w1 fun e w' => e = .returned (.bool true) ∧ WCP b W N tg' w1 (fun j => if j = L then vE E i else q j) (B + yv E (i + 1) * 4 ^ (2 - L)) w' := by
  have hm := h.mem hi
  obtain ⟨m1, m2, m3, m4, m5⟩ := h.wf.to_lt h.ha hm
  simp only at m2 m3 m4 m5
  have hL := h.hL
  have hf := h.fuel
  have hL2 := h.L2
  have hb := bq_add q (x := vE E i) h.L2 (h.qz L (Nat.le_refl _))
  rw [← h.hB] at hb
  have hJ2 := h.skip (Nat.le_of_lt hi) (vE E i) (by rw [if_pos hi]) hJ
  rw [← hb] at hJ2
  have hs := h.says.edge h.wf h.ha h.hL hm
  rw [← hb] at hs
  have := h.ih tg' w1 p g (fun j => if j = L then vE E i else q j) (tE E i) (L + 1) hS (by have := h.ha; omega) (by omega) (by omega) (fun j => by split; exact m2; exact h.q4 j) (fun j hj => by rw [if_neg (by omega)]; exact h.qz j (by omega)) hs hJ2 (by omega)
  rw [hb, show 3 - (L + 1) = 2 - L by omega] at this
  rw [show B + yv E (i + 1) * 4 ^ (2 - L) = B + vE E i * 4 ^ (2 - L) + 4 ^ (2 - L) by simp only [yv]; rw [Nat.add_mul, Nat.one_mul]; omega]
  exact this
end Go.Proofs.Ybulkakra

/-
  THE SORT of seat b1820a: insertion sort of at most twelve edges.
-/
import Derived.Test.YbulkakraMake
namespace Go.Proofs.Ybulkakra
open Go.RowKit
set_option linter.unusedSimpArgs false
set_option linter.unusedVariables false

theorem get2 (A : List Ed) (x y : Ed) (B : List Ed) (k : Nat) (z : Ed) : (A ++ x :: y :: B).getD k z = if k < A.length then A.getD k z else if k = A.length then x else if k = A.length + 1 then y else B.getD (k - A.length - 2) z := by
  by_cases h : k < A.length
  · rw [if_pos h]
    simp [List.getElem?_append_left h]
  · rw [if_neg h]
    rw [List.getD_eq_getElem?_getD, List.getElem?_append_right (by omega)]
    obtain ⟨m, hm⟩ : ∃ m, m = k - A.length := ⟨_, rfl⟩
    rw [← hm]
    rcases m with _ | _ | m
    · rw [if_pos (by omega)]; rfl
    · rw [if_neg (by omega), if_pos (by omega)]; rfl
    · rw [if_neg (by omega), if_neg (by omega)]
      rw [show m + 1 + 1 - 2 = m by omega]
      simp
/-- The list with the places j and j + 1 swapped. -/
def swp (F : List Ed) (j : Nat) : List Ed := F.take j ++ F.getD (j + 1) (0, 0) :: F.getD j (0, 0) :: F.drop (j + 2)
theorem split2 (F : List Ed) {j : Nat} (h : j + 1 < F.length) : F = F.take j ++ F.getD j (0, 0) :: F.getD (j + 1) (0, 0) :: F.drop (j + 2) := by
  have h1 : F.drop j = F[j] :: F.drop (j + 1) := List.drop_eq_getElem_cons (by omega)
  have h2 : F.drop (j + 1) = F[j + 1] :: F.drop (j + 2) := List.drop_eq_getElem_cons h
  have h3 : F.getD j (0, 0) = F[j] := by simp [List.getElem?_eq_getElem (show j < F.length by omega)]
  have h4 : F.getD (j + 1) (0, 0) = F[j + 1] := by simp [List.getElem?_eq_getElem h]
  rw [h3, h4, ← h2, ← h1, List.take_append_drop]
theorem swp_perm {F : List Ed} {j : Nat} (h : j + 1 < F.length) : (swp F j).Perm F := by
  have := split2 F h
  unfold swp
  generalize F.getD j (0, 0) = x at *
  generalize F.getD (j + 1) (0, 0) = y at *
  generalize F.take j = A at *
  generalize F.drop (j + 2) = B at *
  rw [this]
  exact List.Perm.append_left A (List.Perm.swap _ _ _)
theorem swp_get {F : List Ed} {j : Nat} (h : j + 1 < F.length) (k : Nat) : (swp F j).getD k (0, 0) = if k = j then F.getD (j + 1) (0, 0) else if k = j + 1 then F.getD j (0, 0) else F.getD k (0, 0) := by
  have hl : (F.take j).length = j := by simp; omega
  unfold swp
  rw [get2, hl]
  by_cases h1 : k < j
  · rw [if_pos h1, if_neg (by omega), if_neg (by omega)]
    simp [List.getElem?_take, h1]
  · rw [if_neg h1]
    by_cases h2 : k = j
    · rw [if_pos h2, if_pos h2]
    · rw [if_neg h2, if_neg h2]
      by_cases h3 : k = j + 1
      · rw [if_pos h3, if_pos h3]
      · rw [if_neg h3, if_neg h3]
        simp
        rw [show j + 2 + (k - j - 2) = k by omega]
theorem swp_v {F : List Ed} {j : Nat} (h : j + 1 < F.length) (k : Nat) : vE (swp F j) k = if k = j then vE F (j + 1) else if k = j + 1 then vE F j else vE F k := by
  unfold vE
  rw [swp_get h]
  split
  · rfl
  · split <;> rfl
theorem swp_t {F : List Ed} {j : Nat} (h : j + 1 < F.length) (k : Nat) : tE (swp F j) k = if k = j then tE F (j + 1) else if k = j + 1 then tE F j else tE F k := by
  unfold tE
  rw [swp_get h]
  split
  · rfl
  · split <;> rfl
/-- A row in which the edges F lie from o on. -/
def laid (f : Nat → Value) (o : Nat) (F : List Ed) : Nat → Value := fun i => if o ≤ i ∧ i < o + F.length * 2 then edF F (i - o) else f i
theorem laid_in (f : Nat → Value) (o : Nat) (F : List Ed) {i : Nat} (h : i < F.length * 2) : laid f o F (o + i) = edF F i := by
  unfold laid
  rw [if_pos (by omega), Nat.add_sub_cancel_left]
theorem laid_out (f : Nat → Value) (o : Nat) (F : List Ed) {i : Nat} (h : i < o ∨ o + F.length * 2 ≤ i) : laid f o F i = f i := if_neg (by omega)
theorem laid_self (f : Nat → Value) (o : Nat) (F : List Ed) (h : ∀ i, i < F.length * 2 → f (o + i) = edF F i) (k : Nat) : f k = laid f o F k := by
  unfold laid
  split
  · next hk =>
    have := h (k - o) (by omega)
    rwa [show o + (k - o) = k by omega] at this
  · rfl
theorem laid_swp {f : Nat → Value} {o j : Nat} {F : List Ed} (h : j + 1 < F.length) (k : Nat) :
    up1 (up1 (up1 (up1 (laid f o F) (o + (j + 1) * 2) (.int .u32 (vE F j : Int))) (o + (j + 1) * 2 + 1) (.int .u32 (tE F j : Int))) (o + j * 2) (.int .u32 (vE F (j + 1) : Int))) (o + j * 2 + 1) (.int .u32 (tE F (j + 1) : Int)) k = laid f o (swp F j) k := by
  have hl : (swp F j).length = F.length := (swp_perm h).length_eq
  unfold laid
  rw [hl]
  by_cases hk : o ≤ k ∧ k < o + F.length * 2
  · rw [if_pos hk]
    unfold edF
    rw [swp_v h, swp_t h]
    unfold up1
    by_cases a1 : k = o + j * 2 + 1
    · rw [if_pos a1, if_neg (by omega), if_pos (by omega)]
    · rw [if_neg a1]
      by_cases a2 : k = o + j * 2
      · rw [if_pos a2, if_pos (by omega), if_pos (by omega)]
      · rw [if_neg a2]
        by_cases a3 : k = o + (j + 1) * 2 + 1
        · rw [if_pos a3, if_neg (by omega), if_neg (by omega), if_pos (by omega)]
        · rw [if_neg a3]
          by_cases a4 : k = o + (j + 1) * 2
          · rw [if_pos a4, if_pos (by omega), if_neg (by omega), if_pos (by omega)]
          · rw [if_neg a4]
            dsimp only
            rw [if_pos hk]
            have b1 : (k - o) / 2 ≠ j := by omega
            have b2 : (k - o) / 2 ≠ j + 1 := by omega
            rw [if_neg b1, if_neg b2, if_neg b1, if_neg b2]
  · rw [if_neg hk, up1_other _ _ (by omega), up1_other _ _ (by omega), up1_other _ _ (by omega), up1_other _ _ (by omega), if_neg hk]
/-- The first i are in order. -/
def Srt (F : List Ed) (i : Nat) : Prop := ∀ p q, p < q → q < i → vE F p ≤ vE F q
/-- The inner loop at j. -/
def Inn (F : List Ed) (i j : Nat) : Prop := (∀ p q, p < q → q ≤ i → p ≠ j → q ≠ j → vE F p ≤ vE F q) ∧ (∀ q, j < q → q ≤ i → vE F j ≤ vE F q)
theorem Srt.inn {F : List Ed} {i : Nat} (h : Srt F i) : Inn F i i := ⟨fun p q h1 h2 h3 h4 => h p q h1 (by omega), fun q h1 h2 => by omega⟩
theorem Inn.stop0 {F : List Ed} {i : Nat} (h : Inn F i 0) : Srt F (i + 1) := fun p q h1 h2 => by
  by_cases e : p = 0
  · subst e; exact h.2 q h1 (by omega)
  · exact h.1 p q h1 (by omega) e (by omega)
theorem Inn.stop {F : List Ed} {i j : Nat} (h : Inn F i (j + 1)) (hj : vE F j ≤ vE F (j + 1)) : Srt F (i + 1) := fun p q h1 h2 => by
  by_cases e : p = j + 1
  · subst e; exact h.2 q h1 (by omega)
  · by_cases e2 : q = j + 1
    · subst e2
      by_cases e3 : p = j
      · subst e3; exact hj
      · exact Nat.le_trans (h.1 p j (by omega) (by omega) e (by omega)) hj
    · exact h.1 p q h1 (by omega) e e2
theorem Inn.swap {F : List Ed} {i j : Nat} (h : Inn F i (j + 1)) (hi : i < F.length) (hji : j + 1 ≤ i) (hj : vE F (j + 1) < vE F j) : Inn (swp F j) i j := by
  have hl : j + 1 < F.length := by omega
  refine ⟨fun p q h1 h2 h3 h4 => ?_, fun q h1 h2 => ?_⟩
  · rw [swp_v hl, swp_v hl, if_neg h3, if_neg h4]
    by_cases e1 : p = j + 1
    · rw [if_pos e1, if_neg (by omega)]
      exact h.1 j q (by omega) h2 (by omega) (by omega)
    · rw [if_neg e1]
      by_cases e2 : q = j + 1
      · rw [if_pos e2]
        exact h.1 p j (by omega) (by omega) e1 (by omega)
      · rw [if_neg e2]
        exact h.1 p q h1 h2 e1 e2
  · rw [swp_v hl, swp_v hl, if_pos rfl, if_neg (by omega)]
    by_cases e2 : q = j + 1
    · rw [if_pos e2]; omega
    · rw [if_neg e2]
      exact h.2 q (by omega) h2
theorem cmp_any (w : World) (v0 t0 v1 t1 : Nat) : Calls Yba.prog 31 #[.agg #[.int .u32 (v0 : Int), .int .u32 (t0 : Int)], .agg #[.int .u32 (v1 : Int), .int .u32 (t1 : Int)]] w fun e w' => e = .returned (.int .i64 (cmp3 (v0 : Int) (v1 : Int))) ∧ Jk w w' := by
  have HJ : Hid _ := ((Jk.refl w).alloc (.cells #[.int .u32 (v0 : Int), .int .u32 (t0 : Int)] 80)).alloc (.cells #[.int .u32 (v1 : Int), .int .u32 (t1 : Int)] 80)
  go_enter Yba.func31, Yba.ntmps31
  go_wp2_with fail
  refine (compare_any _ _ _).mono ?_
  rintro e w1 ⟨rfl, rfl⟩
  dsimp only
  go_wp2
  go_ret
  exact ⟨rfl, HJ.out⟩
theorem Chg.drew {P : Nat → Prop} {a b : World} (h : Chg P a b) : Chg P a b.drew := ⟨h.os, h.output, h.size, h.block⟩
theorem Row.drew {w : World} {b n : Nat} {f : Nat → Value} (h : Row w b n f) : Row w.drew b n f := h
theorem swap_end {w w5 : World} {b m o i j q n : Nat} {f : Nat → Value} {F F2 : List Ed} (hq : q = j + 1) (hnf : n = F2.length) (hvv : vE F2 q < vE F2 j) (hb1 : q < n) (hji : q ≤ i) (hlt : i < n) (hP : F2.Perm F) (hI : Inn F2 i q) (hR5 : Row w5 b m (laid f o F2)) (hC5 : Chg (fun x => x = b) w w5) :
    ∃ j' F', j' ≤ i ∧ j = j' ∧ Value.int .i64 (j : Int) = .int .i64 (j' : Int) ∧ F'.Perm F ∧ Inn F' i j' ∧ Row (((((w5.setCell ⟨b, o + q * 2, none⟩ (.int .u32 (vE F2 j : Int))).setCell ⟨b, o + q * 2 + 1, none⟩ (.int .u32 (tE F2 j : Int))).setCell ⟨b, o + j * 2, none⟩ (.int .u32 (vE F2 q : Int))).setCell ⟨b, o + j * 2 + 1, none⟩ (.int .u32 (tE F2 q : Int))).drew) b m (laid f o F') ∧ Chg (fun x => x = b) w (((((w5.setCell ⟨b, o + q * 2, none⟩ (.int .u32 (vE F2 j : Int))).setCell ⟨b, o + q * 2 + 1, none⟩ (.int .u32 (tE F2 j : Int))).setCell ⟨b, o + j * 2, none⟩ (.int .u32 (vE F2 q : Int))).setCell ⟨b, o + j * 2 + 1, none⟩ (.int .u32 (tE F2 q : Int))).drew) := by
  subst hq
  have hl : j + 1 < F2.length := by omega
  refine ⟨j, swp F2 j, by omega, rfl, rfl, (swp_perm hl).trans hP, hI.swap (by omega) (by omega) hvv, ?_, ?_⟩
  · exact Row.drew (((((hR5.set (o + (j + 1) * 2) _).set (o + (j + 1) * 2 + 1) _).set (o + j * 2) _).set (o + j * 2 + 1) _).congr fun k _ => laid_swp hl k)
  · exact ((((hC5.set (a := ⟨b, o + (j + 1) * 2, none⟩) (.inr rfl) _).set (a := ⟨b, o + (j + 1) * 2 + 1, none⟩) (.inr rfl) _).set (a := ⟨b, o + j * 2, none⟩) (.inr rfl) _).set (a := ⟨b, o + j * 2 + 1, none⟩) (.inr rfl) _).drew
def SortP (w w' : World) (b m o : Nat) (f : Nat → Value) (F : List Ed) : Prop := ∃ F', F'.Perm F ∧ Srt F' F'.length ∧ Row w' b m (laid f o F') ∧ Chg (fun x => x = b) w w'
set_option maxRecDepth 100000 in
set_option maxHeartbeats 400000 in
theorem insertion_any (w : World) (b m o c : Nat) (f : Nat → Value) (F : List Ed) (hR : Row w b m (laid f o F)) (hm : o + F.length * 2 ≤ m) (hl : F.length ≤ 12) (h1 : 1 ≤ F.length) :
    Calls Yba.prog 49 #[.slice (some ⟨b, o, none⟩) F.length c, .int .i64 0, .int .i64 (F.length : Int), .func (.func 31) #[] #[]] w fun e w' => e = .returned (.tuple #[]) ∧ SortP w w' b m o f F := by
  obtain ⟨n, hn⟩ : ∃ n, n = F.length := ⟨_, rfl⟩
  rw [← hn] at hm hl h1 ⊢
  have HR : Hid _ := hR
  have HN : Hid _ := hn
  clear hR hn
  go_enter Yba.func49, Yba.ntmps49
  go_wp2_with fail
  go_loopg [8] (n - 1) (fun g t wr => ∃ i F', i ≤ n ∧ 1 ≤ i ∧ g = n - i ∧ t = .int .i64 (i : Int) ∧ F'.Perm F ∧ Srt F' i ∧ Row wr b m (laid f o F') ∧ Chg (fun x => x = b) w wr)
  case atStart => exact ⟨1, F, h1, by omega, by omega, rfl, List.Perm.refl _, fun p q h1 h2 => by omega, HR.out, Chg.refl _ _⟩
  case round =>
    obtain ⟨i, F', hi, hi1, hgk, rfl, hP, hS, hRow, hC⟩ := hrel
    have hnF : n = F'.length := by rw [hP.length_eq]; exact HN.out
    by_cases hlt : i < n
    · have hdec : decide ((i : Int) < (n : Int)) = true := by simp; omega
      have hI := hS.inn
      have HX : Hid (F'.Perm F ∧ Inn F' i i ∧ Row wr b m (laid f o F') ∧ Chg (fun x => x = b) w wr) := ⟨hP, hI, hRow, hC⟩
      have hiw : IntKind.i64.wrap ((i : Int) + 1) = ((i + 1 : Nat) : Int) := by rw [IntKind.wrap_i64]; omega
      clear hP hI hRow hC hS HR hnF
      go_wp2_with fail
      go_loopg [9] i (fun g t wr => ∃ j F', j ≤ i ∧ g = j ∧ t = .int .i64 (j : Int) ∧ F'.Perm F ∧ Inn F' i j ∧ Row wr b m (laid f o F') ∧ Chg (fun x => x = b) w wr)
      case atStart =>
        obtain ⟨hP, hI, hRow, hC⟩ := HX.out
        exact ⟨i, F', by omega, rfl, rfl, hP, hI, hRow, hC⟩
      case round =>
        clear HX
        obtain ⟨j, F2, hji, hgj, rfl, hP, hI, hRow, hC⟩ := hrel
        have hnF : n = F2.length := by rw [hP.length_eq]; exact HN.out
        have HX : Hid (F2.Perm F ∧ Inn F2 i j ∧ Row wr b m (laid f o F2) ∧ Chg (fun x => x = b) w wr) := ⟨hP, hI, hRow, hC⟩
        rcases j with _ | j
        · clear hP hI hRow hC
          go_upto_region 4 with fail
          go_quiet (fail)
          go_wp2
          go_roundg (n - (i + 1))
          case measure => omega
          case rel =>
            obtain ⟨hP, hI, hRow, hC⟩ := HX.out
            exact ⟨i + 1, F2, by omega, by omega, rfl, rfl, hP, hI.stop0, hRow, hC.drewN _⟩
        · have x1 := (hRow (o + j * 2) (by omega))
          have x2 := (hRow (o + j * 2 + 1) (by omega))
          have x3 := (hRow (o + (j + 1) * 2) (by omega))
          have x4 := (hRow (o + (j + 1) * 2 + 1) (by omega))
          rw [laid_in _ _ _ (by omega), edF_0] at x1 x3
          rw [Nat.add_assoc, laid_in _ _ _ (by omega), edF_1] at x2 x4
          rw [← Nat.add_assoc] at x2 x4
          obtain ⟨q, hq⟩ : ∃ q, q = j + 1 := ⟨_, rfl⟩
          have HQ : Hid _ := hq
          have hd1 : 0 < q := by omega
          have hd2 : decide (0 < q) = true := by simpa using hd1
          have HNF : Hid _ := hnF
          have hw1 : IntKind.i64.wrap ((q : Int) - 1) = (j : Int) := by rw [IntKind.wrap_i64]; omega
          have hw2 : (q : Int) - 1 = (j : Int) := by omega
          have hw3 : IntKind.i64.wrap (j : Int) = (j : Int) := by rw [IntKind.wrap_i64]; omega
          have hb1 : q < n := by omega
          have hb2 : j < n := by omega
          rw [← hq] at x3 x4 hji hgj HX ⊢
          obtain ⟨x1, y1⟩ := x1
          obtain ⟨x2, y2⟩ := x2
          obtain ⟨x3, y3⟩ := x3
          obtain ⟨x4, y4⟩ := x4
          clear hP hI hRow hC hq hnF
          have HS : Hid (∀ w', Jk wr w' → (Jk wr w' ∧ w'.cell? ⟨b, o + j * 2, none⟩ = some (.int .u32 (vE F2 j : Int)) ∧ w'.cell? ⟨b, o + j * 2 + 1, none⟩ = some (.int .u32 (tE F2 j : Int)) ∧ w'.cell? ⟨b, o + q * 2, none⟩ = some (.int .u32 (vE F2 q : Int)) ∧ w'.cell? ⟨b, o + q * 2 + 1, none⟩ = some (.int .u32 (tE F2 q : Int)))) := fun w' h => ⟨h, h.cell x1, h.cell x2, h.cell x3, h.cell x4⟩
          have HCMP : Hid (∀ w', (Jk wr w' ∧ w'.cell? ⟨b, o + j * 2, none⟩ = some (.int .u32 (vE F2 j : Int)) ∧ w'.cell? ⟨b, o + j * 2 + 1, none⟩ = some (.int .u32 (tE F2 j : Int)) ∧ w'.cell? ⟨b, o + q * 2, none⟩ = some (.int .u32 (vE F2 q : Int)) ∧ w'.cell? ⟨b, o + q * 2 + 1, none⟩ = some (.int .u32 (tE F2 q : Int))) → Calls Yba.prog 31 #[.agg #[.int .u32 (vE F2 q : Int), .int .u32 (tE F2 q : Int)], .agg #[.int .u32 (vE F2 j : Int), .int .u32 (tE F2 j : Int)]] w' fun e w'' => e = .returned (.int .i64 (cmp3 (vE F2 q : Int) (vE F2 j : Int))) ∧ (Jk wr w'' ∧ w''.cell? ⟨b, o + j * 2, none⟩ = some (.int .u32 (vE F2 j : Int)) ∧ w''.cell? ⟨b, o + j * 2 + 1, none⟩ = some (.int .u32 (tE F2 j : Int)) ∧ w''.cell? ⟨b, o + q * 2, none⟩ = some (.int .u32 (vE F2 q : Int)) ∧ w''.cell? ⟨b, o + q * 2 + 1, none⟩ = some (.int .u32 (tE F2 q : Int)))) := fun w' h => (cmp_any w' _ _ _ _).mono fun e w'' ⟨he, hk⟩ => ⟨he, HS.out _ (h.1.trans hk)⟩
          go_upto_region 4 with fail
          go_region_held3 (fun w' => Jk wr w' ∧ w'.cell? ⟨b, o + j * 2, none⟩ = some (.int .u32 (vE F2 j : Int)) ∧ w'.cell? ⟨b, o + j * 2 + 1, none⟩ = some (.int .u32 (tE F2 j : Int)) ∧ w'.cell? ⟨b, o + q * 2, none⟩ = some (.int .u32 (vE F2 q : Int)) ∧ w'.cell? ⟨b, o + q * 2 + 1, none⟩ = some (.int .u32 (tE F2 q : Int)))
            (first | exact HS.out _ (Jk.refl _).drew | assumption)
            (first | (go_at_call 31; refine (HCMP.out _ (by assumption)).mono ?_; rintro r w5 ⟨rfl, hS5⟩))
          obtain ⟨hJ5, z1, z2, z3, z4⟩ := hS5
          have g1 := (hJ5.row HX.out.2.2.1 (o + j * 2) (by omega)).2
          have g2 := (hJ5.row HX.out.2.2.1 (o + j * 2 + 1) (by omega)).2
          have g3 := (hJ5.row HX.out.2.2.1 (o + q * 2) (by omega)).2
          have g4 := (hJ5.row HX.out.2.2.1 (o + q * 2 + 1) (by omega)).2
          have HJ5 : Hid _ := hJ5
          clear hJ5 x1 x2 x3 x4 y1 y2 y3 y4 HS HCMP
          by_cases hv : vE F2 q < vE F2 j
          · have hc : decide (cmp3 (vE F2 q : Int) (vE F2 j : Int) < 0) = true := by
              unfold cmp3
              rw [if_pos (by omega)]
              rfl
            have HV : Hid _ := hv
            clear hv
            simp only [hc]
            clear hc
            have ne1 : (j : Nat) ≠ q := by omega
            go_upto_region 6 with fail
            go_region
            all_goals go_wp2
            all_goals (go_roundg j)
            case measure => have := HQ.out; omega
            case rel =>
              obtain ⟨hP, hI, hRow, hC⟩ := HX.out
              exact swap_end HQ.out HNF.out HV.out hb1 hji hlt hP hI (HJ5.out.row hRow) (hC.trans (HJ5.out.chg _))
          · have hc : decide (cmp3 (vE F2 q : Int) (vE F2 j : Int) < 0) = false := by
              unfold cmp3
              rw [if_neg (by omega)]
              split <;> rfl
            have HV : Hid _ := hv
            clear hv
            simp only [hc]
            clear hc
            go_wp2
            go_roundg (n - (i + 1))
            case measure => omega
            case rel =>
              obtain ⟨hP, hI, hRow, hC⟩ := HX.out
              refine ⟨i + 1, F2, by omega, by omega, rfl, rfl, hP, ?_, HJ5.out.row hRow, hC.trans (HJ5.out.chg _)⟩
              rw [HQ.out] at hI
              exact hI.stop (Nat.le_of_not_lt (by have := HV.out; rw [HQ.out] at this; exact this))
    · have hdec : decide ((i : Int) < (n : Int)) = false := by simp; omega
      have hin : i = n := by omega
      have HX : Hid (F'.Perm F ∧ Srt F' i ∧ Row wr b m (laid f o F') ∧ Chg (fun x => x = b) w wr) := ⟨hP, hS, hRow, hC⟩
      have HNF : Hid _ := hnF
      clear hP hS hRow hC hnF
      go_wp2
      go_end0
      obtain ⟨hP, hS, hRow, hC⟩ := HX.out
      rw [hin, HNF.out] at hS
      exact ⟨rfl, F', hP, hS, hRow, hC⟩
end Go.Proofs.Ybulkakra

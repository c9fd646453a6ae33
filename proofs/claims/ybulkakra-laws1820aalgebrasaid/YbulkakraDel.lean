/-
  slices.DeleteFunc of seat b1820a: edges that lead to Empty are struck.
-/
import Derived.Test.YbulkakraBuild
import Derived.Test.YbulkakraCanon
namespace Go.Proofs.Ybulkakra
open Go.RowKit
set_option linter.unusedSimpArgs false
set_option linter.unusedVariables false

theorem laid_setO {f : Nat → Value} {S : List Ed} {i o : Nat} (hi : i < S.length) (v t : Nat) (k : Nat) : up1 (up1 (laid f o S) (o + i * 2) (.int .u32 (v : Int))) (o + i * 2 + 1) (.int .u32 (t : Int)) k = laid f o (S.set i (v, t)) k := by
  unfold laid
  rw [List.length_set]
  by_cases hk : o ≤ k ∧ k < o + S.length * 2
  · rw [if_pos hk]
    unfold edF
    rw [(set_get S i (v, t) ((k - o) / 2) hi).1, (set_get S i (v, t) ((k - o) / 2) hi).2]
    unfold up1
    by_cases a1 : k = o + i * 2 + 1
    · rw [if_pos a1, if_neg (by omega), if_pos (by omega)]
    · rw [if_neg a1]
      by_cases a2 : k = o + i * 2
      · rw [if_pos a2, if_pos (by omega), if_pos (by omega)]
      · rw [if_neg a2]
        dsimp only
        rw [if_pos hk]
        have b1 : (k - o) / 2 ≠ i := by omega
        rw [if_neg b1, if_neg b1]
  · rw [if_neg hk, up1_other _ _ (by omega), up1_other _ _ (by omega), if_neg hk]
theorem upL_rep (z : Value) : ∀ (n o : Nat) (f : Nat → Value) (k : Nat), upL f o (List.replicate n z) k = if o ≤ k ∧ k < o + n then z else f k
  | 0, o, f, k => by
    rw [if_neg (by omega)]
    rfl
  | n + 1, o, f, k => by
    rw [List.replicate_succ]
    show upL (up1 f o z) (o + 1) (List.replicate n z) k = _
    rw [upL_rep z n (o + 1) _ k]
    unfold up1
    by_cases h1 : o + 1 ≤ k ∧ k < o + 1 + n
    · rw [if_pos h1, if_pos (by omega)]
    · rw [if_neg h1]
      by_cases h2 : k = o
      · rw [if_pos h2, if_pos (by omega)]
      · rw [if_neg h2, if_neg (by omega)]
theorem laid_clear {f : Nat → Value} {o : Nat} (A B : List Ed) (k : Nat) : upL (laid f o (A ++ B)) (o + A.length * 2) (List.replicate (B.length * 2) (.int .u32 0)) k = laid f o (A ++ List.replicate B.length (0, 0)) k := by
  rw [upL_rep]
  unfold laid
  have gz : ∀ j, A.length ≤ j → vE (A ++ List.replicate B.length (0, 0)) j = 0 ∧ tE (A ++ List.replicate B.length (0, 0)) j = 0 := by
    intro j h
    unfold vE tE
    rw [List.getD_eq_getElem?_getD, List.getElem?_append_right h]
    by_cases hb : j - A.length < B.length
    · simp [hb]
    · simp [hb]
  have gl : ∀ (Z : List Ed) j, j < A.length → vE (A ++ Z) j = vE A j ∧ tE (A ++ Z) j = tE A j := by
    intro Z j h
    unfold vE tE
    simp [List.getElem?_append_left h]
  simp only [List.length_append, List.length_replicate]
  by_cases h1 : o + A.length * 2 ≤ k ∧ k < o + A.length * 2 + B.length * 2
  · rw [if_pos h1, if_pos (by omega)]
    unfold edF
    have := gz ((k - o) / 2) (by omega)
    rw [this.1, this.2]
    simp
  · rw [if_neg h1]
    by_cases h2 : o ≤ k ∧ k < o + (A.length + B.length) * 2
    · rw [if_pos h2, if_pos h2]
      unfold edF
      have e1 := gl B ((k - o) / 2) (by omega)
      have e2 := gl (List.replicate B.length (0, 0)) ((k - o) / 2) (by omega)
      rw [e1.1, e1.2, e2.1, e2.2]
    · rw [if_neg h2, if_neg h2]
/-- clear of a slice of edges. -/
theorem run_clear63 (w : World) (ty : TypeId) (b o n c : Nat) (hn : 0 < n) (hc : ∀ j, j < n * 2 → (w.cell? ⟨b, o + j, none⟩).isSome = true) (hf : ∀ j, j < n * 2 → w.frozen? ⟨b, o + j, none⟩ = false) :
    (Builtin.clear_ #[63] ty #[.slice (some ⟨b, o, none⟩) n c]).run Yba.prog w = .ok (.tuple #[]) (w.setCells b o (List.replicate (n * 2) (.int .u32 0))) := by
  obtain ⟨hu, i, zv, hi, hz, _, hzc, _⟩ := zero63
  have hv : ∀ w, (zeroValue 80).run Yba.prog w = .ok zv w := fun w => by simp [zeroValue, typeInfo, hi, hz]
  have hzl : (Builtin.zeroCells zv.cells n).toList = List.replicate (n * 2) (.int .u32 0) := by
    rw [hzc]
    unfold Builtin.zeroCells
    apply List.ext_getElem
    · simp
    · intro j h1 h2
      simp only [Array.toList_map, Array.toList_range, Array.size_replicate, List.getElem_map, List.getElem_replicate]
      have : j % 2 < 2 := Nat.mod_lt _ (by omega)
      simp [this]
  have hst := run_storeCells_cells (P := Yba.prog) b o (List.replicate (n * 2) (.int .u32 0)) 0 w (by simpa using hc) (by simpa using hf) (by intro v hv'; rw [List.eq_of_mem_replicate hv']; rfl)
  simp only [Nat.add_zero] at hst
  obtain ⟨m, rfl⟩ : ∃ m, n = m + 1 := ⟨n - 1, by omega⟩
  simp [Builtin.clear_, run_underlying hu, hv, hzl, hst]
theorem index_at (w : World) (b o c : Nat) (A Q : List Ed) (z : Ed) (hE : EdAt w b o (A ++ z :: Q)) (hlen : (A ++ z :: Q).length ≤ 1000) (hA : ∀ e ∈ A, e.2 ≠ 0) (hz : z.2 = 0) :
    Calls Yba.prog 59 #[.slice (some ⟨b, o, none⟩) (A ++ z :: Q).length c, .func (.func 46) #[] #[]] w fun e w' => e = .returned (.int .i64 (A.length : Int)) ∧ Jk w w' := by
  have hAv : ∀ k, k < A.length → tE (A ++ z :: Q) k ≠ 0 := by
    intro k hk
    have : tE (A ++ z :: Q) k = tE A k := by
      unfold tE
      simp [List.getElem?_append_left hk]
    rw [this]
    exact hA _ (tE_mem hk)
  have hzv : tE (A ++ z :: Q) A.length = 0 := by rw [(vE_at A z Q).2]; exact hz
  have hAn : A.length < (A ++ z :: Q).length := by simp
  generalize A ++ z :: Q = E at *
  obtain ⟨n, hn⟩ : ∃ n, n = E.length := ⟨_, rfl⟩
  rw [← hn] at hlen hAn ⊢
  generalize A.length = m at *
  have HE : Hid _ := hE
  have HN : Hid _ := hn
  have HV : Hid _ := hAv
  have HZ0 : Hid _ := hzv
  clear hE hn hz hAv hzv hA
  go_enter Yba.func59, Yba.ntmps59
  go_wp2_with fail
  go_loopg [8] n (fun g t wr => ∃ k : Nat, k ≤ m ∧ g = n - k ∧ t = .int .i64 (k : Int) ∧ Jk w wr)
  case atStart => exact ⟨0, by omega, rfl, rfl, Jk.refl _⟩
  case round =>
    obtain ⟨k, hk, hgk, rfl, hJ⟩ := hrel
    have hlt : k < n := by omega
    obtain ⟨x1, x2⟩ := hJ.edAt HE.out k (by rw [← HN.out]; exact hlt)
    have hkw : IntKind.i64.wrap ((k : Int) + 1) = ((k + 1 : Nat) : Int) := by rw [IntKind.wrap_i64]; omega
    have hz0 : decide (tE E k = 0) = decide (k = m) := by
      by_cases h : k = m
      · subst h; simp [HZ0.out]
      · have := HV.out k (by omega)
        simp [this, h]
    have HZ : Hid _ := hz0
    have HJ : Hid _ := hJ
    clear hJ hz0
    generalize vE E k = v0 at *
    generalize tE E k = t0 at *
    by_cases hkm : k = m
    · subst hkm
      go_wp2_with fail
      refine (make1_any wr v0 t0).mono ?_
      rintro e w1 ⟨rfl, hJ1⟩
      rw [HZ.out]
      simp only [decide_true]
      have HJ1 : Hid _ := HJ.out.trans hJ1
      clear hJ1
      go_wp2
      go_ret
      exact ⟨rfl, HJ1.out⟩
    · have HKM : Hid (k < m) := by show k < m; omega
      go_wp2_with fail
      refine (make1_any wr v0 t0).mono ?_
      rintro e w1 ⟨rfl, hJ1⟩
      rw [HZ.out, decide_eq_false hkm]
      dsimp only
      have HJ1 : Hid _ := HJ.out.trans hJ1
      clear hJ1
      go_wp2
      go_roundg (n - (k + 1))
      case measure => omega
      case rel => exact ⟨k + 1, HKM.out, rfl, rfl, HJ1.out⟩
/-- What DeleteFunc leaves. -/
def DelP (w w' : World) (b m o : Nat) (f : Nat → Value) (E : List Ed) : Prop := ∃ Z, (nz E ++ Z).length = E.length ∧ Row w' b m (laid f o (nz E ++ Z)) ∧ Chg (fun x => x = b) w w'
theorem nz_all {E : List Ed} (h : ∀ e ∈ E, e.2 ≠ 0) : nz E = E := by
  unfold nz
  rw [List.filter_eq_self]
  intro e he
  simpa using h e he
theorem first_zero : ∀ (E : List Ed), (∀ e ∈ E, e.2 ≠ 0) ∨ ∃ A z Q, E = A ++ z :: Q ∧ z.2 = 0 ∧ ∀ e ∈ A, e.2 ≠ 0
  | [] => .inl (by simp)
  | e :: E => by
    by_cases h : e.2 = 0
    · exact .inr ⟨[], e, E, rfl, h, by simp⟩
    · rcases first_zero E with h1 | ⟨A, z, Q, h1, h2, h3⟩
      · refine .inl fun x hx => ?_
        rcases List.mem_cons.1 hx with rfl | hx
        · exact h
        · exact h1 x hx
      · refine .inr ⟨e :: A, z, Q, by rw [h1]; rfl, h2, fun x hx => ?_⟩
        rcases List.mem_cons.1 hx with rfl | hx
        · exact h
        · exact h3 x hx
theorem nz_snoc (P : List Ed) (e : Ed) : nz (P ++ [e]) = if e.2 = 0 then nz P else nz P ++ [e] := by
  unfold nz
  rw [List.filter_append]
  by_cases h : e.2 = 0
  · simp [h]
  · simp [h]
theorem nz_len (P : List Ed) : (nz P).length ≤ P.length := List.length_filter_le _ _
theorem edAt_laid {w : World} {b m o : Nat} {f : Nat → Value} {E : List Ed} (h : Row w b m (laid f o E)) (hm : o + E.length * 2 ≤ m) : EdAt w b o E := fun j hj => by
  refine ⟨?_, ?_⟩
  · rw [(h (o + j * 2) (by omega)).1, laid_in _ _ _ (by omega), edF_0]
  · rw [Nat.add_assoc, (h (o + (j * 2 + 1)) (by omega)).1, laid_in _ _ _ (by omega), edF_1]
theorem Chg.setL {P : Nat → Prop} {w : World} {b : Nat} (hb : P b) : ∀ (vs : List Value) {w' : World} (_ : Chg P w w') (o : Nat), Chg P w (w'.setCells b o vs)
  | [], _, h, _ => h
  | v :: vs, _, h, o => Chg.setL hb vs (h.set (a := ⟨b, o, none⟩) (.inr hb) v) (o + 1)
/-- The round's books. -/
structure DelI (w wr : World) (b m o : Nat) (f : Nat → Value) (E P Q G : List Ed) (i j : Nat) : Prop where
  split : E = P ++ Q
  g : (nz P).length + G.length = P.length
  g0 : 0 < G.length
  hi : i = (nz P).length
  hj : j = P.length
  row : Row wr b m (laid f o (nz P ++ (G ++ Q)))
  chg : Chg (fun x => x = b) w wr
theorem Jk.chgs {w wr w' : World} {P : Nat → Prop} (h : Chg P w wr) (k : Jk wr w') : Chg P w w' := ⟨k.os.trans h.os, k.output.trans h.output, Nat.le_trans h.size k.size, fun b hb hn => (k.block b (Nat.lt_of_lt_of_le hb h.size)).trans (h.block b hb hn)⟩
theorem DelI.skip {w wr w' : World} {b m o : Nat} {f : Nat → Value} {E P Q G : List Ed} {i j x t : Nat} (h : DelI w wr b m o f E P ((x, t) :: Q) G i j) (ht : t = 0) (k : Jk wr w') : DelI w w' b m o f E (P ++ [(x, t)]) Q (G ++ [(x, t)]) i (j + 1) := by
  have e : nz (P ++ [(x, t)]) = nz P := by rw [nz_snoc, if_pos ht]
  have h1 := h.g
  refine ⟨by rw [h.split]; simp, by rw [e]; simp; omega, by simp, by rw [e]; exact h.hi, by rw [h.hj]; simp, ?_, Jk.chgs h.chg k⟩
  rw [e]
  have := k.row h.row
  rw [show G ++ [(x, t)] ++ Q = G ++ (x, t) :: Q by simp]
  exact this
theorem DelI.keep {w wr w' : World} {b m o : Nat} {f : Nat → Value} {E P Q G : List Ed} {i j x t : Nat} (h : DelI w wr b m o f E P ((x, t) :: Q) G i j) (ht : t ≠ 0) (k : Jk wr w') : ∃ G', DelI w ((w'.setCell ⟨b, o + i * 2, none⟩ (.int .u32 (x : Int))).setCell ⟨b, o + i * 2 + 1, none⟩ (.int .u32 (t : Int))) b m o f E (P ++ [(x, t)]) Q G' (i + 1) (j + 1) := by
  have e : nz (P ++ [(x, t)]) = nz P ++ [(x, t)] := by rw [nz_snoc, if_neg ht]
  have h1 := h.g
  have h0 := h.g0
  obtain ⟨G', g1, g2⟩ := set_keep [] (nz P) G Q (x, t)
  simp only [List.nil_append, List.length_nil, Nat.zero_add] at g2
  have hil : i < (nz P ++ (G ++ (x, t) :: Q)).length := by rw [h.hi]; simp; omega
  refine ⟨G', by rw [h.split]; simp, by rw [e]; simp; omega, by omega, by rw [e, h.hi]; simp, by rw [h.hj]; simp, ?_, ?_⟩
  · rw [e, ← g2, ← h.hi]
    exact (((k.row h.row).set (o + i * 2) (.int .u32 (x : Int))).set (o + i * 2 + 1) (.int .u32 (t : Int))).congr fun q _ => laid_setO hil x t q
  · exact ((Jk.chgs h.chg k).set (a := ⟨b, o + i * 2, none⟩) (.inr rfl) _).set (a := ⟨b, o + i * 2 + 1, none⟩) (.inr rfl) _
set_option maxRecDepth 100000 in
set_option maxHeartbeats 400000 in
theorem delete_any (w : World) (b m o c : Nat) (f : Nat → Value) (E : List Ed) (hR : Row w b m (laid f o E)) (hm : o + E.length * 2 ≤ m) (hl : E.length ≤ 1000) (hc : E.length ≤ c) :
    Calls Yba.prog 45 #[.slice (some ⟨b, o, none⟩) E.length c, .func (.func 46) #[] #[]] w fun e w' => e = .returned (.slice (some ⟨b, o, none⟩) (nz E).length c) ∧ DelP w w' b m o f E := by
  have hA := edAt_laid hR hm
  rcases first_zero E with hz | ⟨A, z, Q0, hE, hz, hA0⟩
  · refine (delete_none w b o c E hA hl hz).mono ?_
    rintro e w' ⟨rfl, hJ⟩
    exact ⟨by rw [nz_all hz], [], by rw [nz_all hz]; simp, by rw [nz_all hz, List.append_nil]; exact hJ.row hR, hJ.chg _⟩
  · have hI := index_at w b o c A Q0 z (by rw [← hE]; exact hA) (by rw [← hE]; exact hl) hA0 hz
    rw [← hE] at hI
    have hst : DelI w w b m o f E (A ++ [z]) Q0 [z] A.length (A.length + 1) := by
      have e : nz (A ++ [z]) = A := by rw [nz_snoc, if_pos hz, nz_all hA0]
      refine ⟨by rw [hE]; simp, by rw [e]; simp, by simp, by rw [e], by simp, ?_, Chg.refl _ _⟩
      rw [e, show A ++ ([z] ++ Q0) = E by rw [hE]; simp]
      exact hR
    have hAl : A.length < E.length := by rw [hE]; simp
    have hne1 : ((A.length : Int) == -1) = false := beq_eq_false_iff_ne.2 (by omega)
    have hkw0 : IntKind.i64.wrap ((A.length : Int) + 1) = ((A.length + 1 : Nat) : Int) := by rw [IntKind.wrap_i64]; omega
    have HS : Hid _ := hst
    have HI : Hid _ := hI
    obtain ⟨n, hn⟩ : ∃ n, n = E.length := ⟨_, rfl⟩
    rw [← hn] at hl hc HI hAl ⊢
    have HN : Hid (n = E.length ∧ o + E.length * 2 ≤ m) := ⟨hn, hm⟩
    generalize A.length = a0 at *
    clear hst hI hR hA hE hz hA0 hn hm
    go_enter Yba.func45, Yba.ntmps45
    go_wp2_with fail
    refine Calls.mono HI.out ?_
    rintro e w0 ⟨rfl, hJ0⟩
    dsimp only
    have HS0 : Hid (DelI w w0 b m o f E (A ++ [z]) Q0 [z] a0 (a0 + 1)) := by
      have h : DelI w w b m o f E (A ++ [z]) Q0 [z] a0 (a0 + 1) := HS.out
      exact ⟨h.split, h.g, h.g0, h.hi, h.hj, hJ0.row h.row, Jk.chgs h.chg hJ0⟩
    clear hJ0 HS HI
    go_upto_region 5 with fail
    go_loopg [5, 6] (n - (a0 + 1)) (fun g t u wr => ∃ (P Q G : List Ed) (i j : Nat), g = n - j ∧ t = .int .i64 (i : Int) ∧ u = .int .i64 (j : Int) ∧ DelI w wr b m o f E P Q G i j)
    case atStart => exact ⟨_, _, _, a0, a0 + 1, rfl, rfl, rfl, HS0.out⟩
    case round =>
      obtain ⟨P, Q, G, i, j, hgk, rfl, rfl, hD⟩ := hrel
      obtain ⟨hnE, hm⟩ := HN.out
      have hPQ : P.length + Q.length = n := by rw [hnE, hD.split]; simp
      have hg := hD.g
      have hg0 := hD.g0
      have hi := hD.hi
      have hj := hD.hj
      have hij : i < j := by omega
      have hrow := hD.row
      have hrl : (nz P ++ (G ++ Q)).length = n := by simp; omega
      clear HS0
      cases Q with
      | nil =>
        have hjn : ¬ j < n := by simp at hPQ; omega
        have hPE : E = P := by rw [hD.split]; simp
        have hin : i ≤ n := by omega
        have hic : i < c := by omega
        have hci : c ≠ i := by omega
        have hil : i ≤ c := by omega
        have hGn : G.length = n - i := by simp at hPQ; omega
        have hcl : ∀ ty, (Builtin.clear_ #[63] ty #[.slice (some ⟨b, o + i * 2, none⟩) (n - i) (c - i)]).run Yba.prog wr = .ok (.tuple #[]) (wr.setCells b (o + i * 2) (List.replicate ((n - i) * 2) (.int .u32 0))) := fun ty => run_clear63 wr ty b (o + i * 2) (n - i) (c - i) (by omega) (fun q hq => by rw [(hrow (o + i * 2 + q) (by omega)).1]; rfl) (fun q hq => (hrow (o + i * 2 + q) (by omega)).2)
        have hfin : i = (nz E).length ∧ DelP w (wr.setCells b (o + i * 2) (List.replicate ((n - i) * 2) (.int .u32 0))) b m o f E := by
          refine ⟨by rw [hPE]; exact hi, List.replicate G.length (0, 0), ?_, ?_, ?_⟩
          · rw [hPE]; simp; omega
          · rw [hPE]
            rw [List.append_nil] at hrow
            have := hrow.setL (List.replicate ((n - i) * 2) (.int .u32 0)) (o + i * 2)
            rw [← hGn, hi] at this
            rw [← hGn, hi]
            exact this.congr fun q _ => laid_clear (nz P) G q
          · exact Chg.setL (P := fun x => x = b) rfl _ hD.chg _
        have HF : Hid _ := hfin
        clear hfin hD hrow hrl hg hg0 hi hj hij hPQ hnE hm hPE hGn
        go_wp2
        go_ret
        refine ⟨?_, HF.out.2⟩
        have := HF.out.1
        rw [← this]
        rfl
      | cons e Q' =>
        obtain ⟨v0, t0⟩ := e
        have hjn : j < n := by simp at hPQ; omega
        have hed := edAt_laid hrow (by rw [hrl]; omega) j (by rw [hrl]; exact hjn)
        have hsp : nz P ++ (G ++ (v0, t0) :: Q') = (nz P ++ G) ++ (v0, t0) :: Q' := by simp
        have hjl : j = (nz P ++ G).length := by simp; omega
        rw [hsp, hjl, (vE_at _ _ _).1, (vE_at _ _ _).2, ← hjl] at hed
        obtain ⟨x1, x2⟩ := hed
        have hJa := (Jk.refl wr).alloc (.cells #[.int .u32 (v0 : Int), .int .u32 (t0 : Int)] 80)
        have b0 := (Row.new wr #[.int .u32 (v0 : Int), .int .u32 (t0 : Int)] 80 2 (fun i => (#[Value.int .u32 (v0 : Int), .int .u32 (t0 : Int)][i]?).getD (.bool true)) (fun i hi => by rcases i with _ | _ | i <;> first | rfl | omega) 0 (by omega)).1
        have b1 := (Row.new wr #[.int .u32 (v0 : Int), .int .u32 (t0 : Int)] 80 2 (fun i => (#[Value.int .u32 (v0 : Int), .int .u32 (t0 : Int)][i]?).getD (.bool true)) (fun i hi => by rcases i with _ | _ | i <;> first | rfl | omega) 1 (by omega)).1
        dsimp only at b0 b1
        have hin : i < n := by omega
        have hjw : IntKind.i64.wrap ((j : Int) + 1) = ((j + 1 : Nat) : Int) := by rw [IntKind.wrap_i64]; omega
        have hiw : IntKind.i64.wrap ((i : Int) + 1) = ((i + 1 : Nat) : Int) := by rw [IntKind.wrap_i64]; omega
        have HB : Hid (∀ w1, Jk (wr.alloc (.cells #[.int .u32 (v0 : Int), .int .u32 (t0 : Int)] 80)) w1 → w1.cell? ⟨wr.heap.size, 0, none⟩ = some (.int .u32 (v0 : Int)) ∧ w1.cell? ⟨wr.heap.size, 1, none⟩ = some (.int .u32 (t0 : Int)) ∧ (∃ u, w1.cell? ⟨b, o + i * 2, none⟩ = some u) ∧ (∃ u, w1.cell? ⟨b, o + i * 2 + 1, none⟩ = some u) ∧ w1.frozen? ⟨b, o + i * 2, none⟩ = false ∧ w1.frozen? ⟨b, o + i * 2 + 1, none⟩ = false) := by
          intro w1 hJ
          have hr1 := (hJa.trans hJ).row hrow
          exact ⟨hJ.cell b0, hJ.cell b1, ⟨_, (hr1 (o + i * 2) (by omega)).1⟩, ⟨_, (hr1 (o + i * 2 + 1) (by omega)).1⟩, (hr1 (o + i * 2) (by omega)).2, (hr1 (o + i * 2 + 1) (by omega)).2⟩
        have HD : Hid _ := hD
        have HJa : Hid _ := hJa
        clear hD hrow hrl hsp hjl b0 b1 hJa hg hg0 hi hj hij hPQ hnE hm
        go_wp2_with fail
        refine (make1_any _ v0 t0).mono ?_
        rintro e w1 ⟨rfl, hJ1⟩
        obtain ⟨c0, c1, ⟨y0, c2⟩, ⟨y1, c3⟩, c4, c5⟩ := HB.out w1 hJ1
        have HJ1 : Hid _ := HJa.out.trans hJ1
        clear hJ1 HB
        by_cases ht : t0 = 0
        · have HT : Hid _ := ht
          rw [decide_eq_true ht]
          clear ht
          dsimp only
          go_wp2
          go_roundg (n - (j + 1))
          case measure => omega
          case rel => exact ⟨_, _, _, i, j + 1, rfl, rfl, rfl, HD.out.skip HT.out HJ1.out⟩
        · have HT : Hid _ := ht
          rw [decide_eq_false ht]
          clear ht
          dsimp only
          go_wp2
          go_roundg (n - (j + 1))
          case measure => omega
          case rel =>
            obtain ⟨G', hG'⟩ := HD.out.keep HT.out HJ1.out
            exact ⟨_, _, G', i + 1, j + 1, rfl, rfl, rfl, hG'⟩
end Go.Proofs.Ybulkakra

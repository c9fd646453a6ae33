/-
  nodes.add of seat b1820a.
-/
import Derived.Test.YbulkakraState
namespace Go.Proofs.Ybulkakra
open Go.RowKit
set_option linter.unusedSimpArgs false
set_option linter.unusedVariables false

theorem upL_out (vs : List Value) : ∀ (f : Nat → Value) (o i : Nat), (i < o ∨ o + vs.length ≤ i) → upL f o vs i = f i := by
  induction vs with
  | nil => intro f o i _; rfl
  | cons v vs ih =>
    intro f o i h
    simp only [upL]
    simp at h
    rw [ih _ _ _ (by omega), up1_other _ _ (by omega)]
theorem upL_in (vs : List Value) : ∀ (f : Nat → Value) (o j : Nat) (u : Value), vs[j]? = some u → upL f o vs (o + j) = u := by
  induction vs with
  | nil => intro f o j u h; simp at h
  | cons v vs ih =>
    intro f o j u h
    simp only [upL]
    cases j with
    | zero =>
      simp at h
      rw [upL_out vs _ _ _ (by omega), Nat.add_zero, up1_same, h]
    | succ j =>
      have := ih (up1 f o v) (o + 1) j u (by simpa using h)
      rw [show o + (j + 1) = o + 1 + j by omega]
      exact this
def edCells (E : List Ed) : List Value := (List.range (E.length * 2)).map (edF E)
theorem edCells_len (E : List Ed) : (edCells E).length = E.length * 2 := by simp [edCells]
theorem edCells_get (E : List Ed) {j : Nat} (h : j < E.length * 2) : (edCells E)[j]? = some (edF E j) := by simp [edCells, h]
theorem edCells_one (E : List Ed) : ∀ u ∈ edCells E, u.oneCell' = true := by
  intro u hu
  obtain ⟨j, _, rfl⟩ := List.mem_map.1 hu
  rfl
theorem EdAt.cell {w : World} {b o : Nat} {E : List Ed} (h : EdAt w b o E) {j : Nat} (hj : j < E.length * 2) : w.cell? ⟨b, o + j, none⟩ = some (edF E j) := by
  obtain ⟨h1, h2⟩ := h (j / 2) (by omega)
  unfold edF
  by_cases e : j % 2 = 0
  · rw [if_pos e, show o + j = o + j / 2 * 2 by omega]
    exact h1
  · rw [if_neg e, show o + j = o + j / 2 * 2 + 1 by omega]
    exact h2
theorem edAt_iff {w : World} {b o : Nat} {E : List Ed} (h : ∀ j, j < E.length * 2 → w.cell? ⟨b, o + j, none⟩ = some (edF E j)) : EdAt w b o E := fun j hj => by
  have h1 := h (j * 2) (by omega)
  have h2 := h (j * 2 + 1) (by omega)
  rw [edF_0] at h1
  rw [edF_1] at h2
  exact ⟨h1, h2⟩
theorem edCells_src {w : World} {b o : Nat} {E : List Ed} (h : EdAt w b o E) : ∀ j u, (edCells E)[j]? = some u → w.cell? ((⟨b, o, none⟩ : Addr).add j) = some u := by
  intro j u hu
  have hj : j < E.length * 2 := by
    have := (List.getElem?_eq_some_iff.1 hu).1
    rwa [edCells_len] at this
  rw [edCells_get E hj] at hu
  cases hu
  have : (⟨b, o, none⟩ : Addr).add j = ⟨b, o + j, none⟩ := by cases j <;> simp [Addr.add]
  rw [this]
  exact h.cell hj
def EAddP (tg : Nat → Nat) (w w' : World) (d : Nat) (C : Nat → Value) (N : List Nd) (l : Nat) (E : List Ed) : Prop :=
  ∃ tg' C', Row w' d 1035 C' ∧ (∀ i, i ≠ 2 → C' i = C i) ∧ (EdgesOk tg' w' C' (N ++ [(l, E)]) ∧ ∀ e, ChunkAt tg w C e → ChunkAt tg' w' C' e) ∧ Fr (fun r => r = 1 ∨ r = 6 ∨ r = 7) tg w tg' w'
theorem vals_snoc {N : List Nd} {l : Nat} {E : List Ed} {h : Nat → Value} (hv : ∀ i, i < N.length → ∀ j, j < (edg N i).length → h ((eoff N i + j) * 2) = .int .u32 (vE (edg N i) j : Int) ∧ h ((eoff N i + j) * 2 + 1) = .int .u32 (tE (edg N i) j : Int)) :
    ∀ i, i < (N ++ [(l, E)]).length → ∀ j, j < (edg (N ++ [(l, E)]) i).length → (upL h (esum N * 2) (edCells E)) ((eoff (N ++ [(l, E)]) i + j) * 2) = .int .u32 (vE (edg (N ++ [(l, E)]) i) j : Int) ∧ (upL h (esum N * 2) (edCells E)) ((eoff (N ++ [(l, E)]) i + j) * 2 + 1) = .int .u32 (tE (edg (N ++ [(l, E)]) i) j : Int) := by
  intro i hi j hj
  simp at hi
  rcases Nat.lt_or_ge i N.length with h0 | h0
  · rw [edg_snoc h0] at hj ⊢
    rw [eoff_snoc (by omega)]
    have hb := eoff_bound N h0
    rw [upL_out _ _ _ _ (by omega), upL_out _ _ _ _ (by omega)]
    exact hv i h0 j hj
  · have : i = N.length := by omega
    subst this
    rw [edg_last] at hj ⊢
    rw [eoff_last]
    simp only at hj ⊢
    have h1 := upL_in (edCells E) h (esum N * 2) (j * 2) _ (edCells_get E (by omega))
    have h2 := upL_in (edCells E) h (esum N * 2) (j * 2 + 1) _ (edCells_get E (by omega))
    rw [edF_0] at h1
    rw [edF_1] at h2
    rw [show (esum N + j) * 2 = esum N * 2 + j * 2 by omega, show esum N * 2 + j * 2 + 1 = esum N * 2 + (j * 2 + 1) by omega]
    exact ⟨h1, h2⟩
theorem edg_nil {N : List Nd} (h : esum N = 0) {i : Nat} (hi : i < N.length) : edg N i = [] := by
  have := eoff_bound N hi
  exact List.eq_nil_of_length_eq_zero (by omega)
theorem chunk_of {tg : Nat → Nat} {w w' : World} {C : Nat → Value} {N : List Nd} {eO eC c1 n : Nat} {g h : Nat → Value} (v : EdgesV tg w C N eO eC c1 g h) (hc : w'.cell? ⟨eO, 0, none⟩ = some (.slice (some ⟨eC, 0, none⟩) n 65536)) : ∀ e, ChunkAt tg w C e → ChunkAt tg w' C e := by
  rintro e ⟨eO', c1', n', h1, h2, h3⟩
  rw [v.c] at h1
  cases h1
  rw [(v.ro 0 v.one).1, v.g0] at h3
  cases h3
  exact ⟨eO, c1, n, v.c, v.tO, hc⟩
theorem edges_add (tg : Nat → Nat) (w : World) (d b o c : Nat) (C : Nat → Value) (N : List Nd) (l : Nat) (E : List Ed) (hd : Row w d 1035 C) (ht : tg d = 1) (hO : EdgesOk tg w C N) (hE : EdAt w b o E) (hb : b ≠ d) (h0 : 0 < E.length) (hs : esum N + E.length ≤ 65536) :
    Calls Yba.prog 38 #[.pointer (some ⟨d, 2, none⟩), .slice (some ⟨b, o, none⟩) E.length c] w fun e w' => e = .returned (.int .u32 (esum N : Int)) ∧ EAddP tg w w' d C N l E := by
  have hbl : b < w.heap.size := World.block_lt_of_cell? _ _ (hE 0 h0).1
  have hdl := hd.lt (by omega)
  rcases hO with ⟨z, c2⟩ | ⟨eO, eC, c1, g, h, v⟩
  · refine (runs_first w d 2 1035 E.length c C ⟨b, o, none⟩ (edCells E) tg 7 6 (by omega) (by omega) hd (by omega) c2 (by omega) hbl hb (edCells_len E) (edCells_src hE) (edCells_one E)).mono ?_
    rintro e w' ⟨rfl, ob, cb, c0, tg', g, f0, r1, r2, r3, r4, r5, r6, r7, r8, r9⟩
    refine ⟨by rw [z]; rfl, tg', _, r1, fun i hi => up1_other _ _ hi, ⟨.inr ⟨ob, cb, c0, _, _, up1_same .., r3, r2, ?_, r4, r5, r6, ?_⟩, fun e he => by obtain ⟨eO, c1, n, h1, _⟩ := he; rw [c2] at h1; simp at h1⟩, r9.mono fun r e => .inl (by omega)⟩
    · rw [up1_same, esum_snoc, z, Nat.zero_add]
    · have := vals_snoc (N := N) (l := l) (E := E) (h := f0) (fun i hi j hj => by rw [edg_nil z hi] at hj; simp at hj)
      rw [z] at this
      exact this
  · have n1 : eC ≠ eO := by intro e; have h1 := v.tO; have h2 := v.tc; rw [e] at h2; omega
    have n2 : eC ≠ d := by intro e; have h2 := v.tc; rw [e] at h2; omega
    have n3 : d ≠ eO := by intro e; have h2 := v.tO; rw [← e] at h2; omega
    refine (runs_more w d 2 eO eC (esum N) E.length c c1 ⟨b, o, none⟩ (edCells E) (by rw [(hd 2 (by omega)).1, v.c]) (by rw [(v.ro 0 v.one).1, v.g0]) (v.ro 0 v.one).2 hs (fun j hj => ?_) n1 n2 (edCells_len E) (edCells_src hE) (edCells_one E)).mono ?_
    · have := v.rc (esum N * 2 + j) (by omega)
      exact ⟨by rw [this.1]; rfl, this.2⟩
    rintro e w' ⟨rfl, M, rfl⟩
    have a1 : Row (w.drewN M) d 1035 C := hd
    have a2 : Row (w.drewN M) eO c1 g := v.ro
    have a3 : Row (w.drewN M) eC (65536 * 2) h := v.rc
    have a4 := a2.of_block (heap_setCells eC eO (Ne.symm n1) (edCells E) (esum N * 2) (w.drewN M))
    refine ⟨rfl, tg, C, (a1.of_block (heap_setCells _ _ (Ne.symm n2) _ _ _)).setOther (a := ⟨eO, 0, none⟩) n3 _, fun _ _ => rfl, ⟨.inr ⟨eO, eC, c1, _, _, v.c, v.one, (a2.of_block (heap_setCells _ _ (Ne.symm n1) _ _ _)).set 0 _, ?_, (Row.setL (edCells E) a3 (esum N * 2)).setOther (a := ⟨eO, 0, none⟩) n1 _, v.tO, v.tc, vals_snoc v.val⟩, chunk_of v (by have := (a4.set 0 (.slice (some ⟨eC, 0, none⟩) (esum N + E.length) 65536) 0 v.one).1; rwa [up1_same] at this)⟩, ?_⟩
    · rw [up1_same, esum_snoc]
    · exact (Fr.setL (.inr (.inr (.inl v.tc))) _ ((Fr.refl _ tg w).drewN M) _).set (a := ⟨eO, 0, none⟩) (.inr (.inr (.inr v.tO))) _
def NAddP (tg : Nat → Nat) (w w' : World) (d : Nat) (C : Nat → Value) (N : List Nd) (n : Nd) : Prop :=
  ∃ C', Row w' d 1035 C' ∧ (∀ i, i ≠ 1 → C' i = C i) ∧ NodesOk tg w' C' (N ++ [n]) ∧ Fr (fun r => r = 1 ∨ r = 4 ∨ r = 5) tg w tg w'
theorem nodes_vals {N : List Nd} {n : Nd} {h : Nat → Value} (hv : ∀ i, i < N.length → h (i * 3) = .int .u32 (lev N i : Int) ∧ h (i * 3 + 1) = .int .u32 (eoff N i : Int) ∧ h (i * 3 + 2) = .int .u32 ((edg N i).length : Int)) :
    ∀ i, i < (N ++ [n]).length → (upL h (N.length * 3) [.int .u32 (n.1 : Int), .int .u32 (esum N : Int), .int .u32 (n.2.length : Int)]) (i * 3) = .int .u32 (lev (N ++ [n]) i : Int) ∧ (upL h (N.length * 3) [.int .u32 (n.1 : Int), .int .u32 (esum N : Int), .int .u32 (n.2.length : Int)]) (i * 3 + 1) = .int .u32 (eoff (N ++ [n]) i : Int) ∧ (upL h (N.length * 3) [.int .u32 (n.1 : Int), .int .u32 (esum N : Int), .int .u32 (n.2.length : Int)]) (i * 3 + 2) = .int .u32 ((edg (N ++ [n]) i).length : Int) := by
  intro i hi
  simp at hi
  rcases Nat.lt_or_ge i N.length with h0 | h0
  · rw [upL_out _ _ _ _ (by simp; omega), upL_out _ _ _ _ (by simp; omega), upL_out _ _ _ _ (by simp; omega), lev_snoc h0, edg_snoc h0, eoff_snoc (by omega)]
    exact hv i h0
  · have : i = N.length := by omega
    subst this
    rw [lev_last, edg_last, eoff_last]
    exact ⟨upL_in _ h (N.length * 3) 0 _ rfl, upL_in _ h (N.length * 3) 1 _ rfl, upL_in _ h (N.length * 3) 2 _ rfl⟩
/-- list.add of a node. -/
theorem node_add (tg : Nat → Nat) (w : World) (d : Nat) (C : Nat → Value) (N : List Nd) (n : Nd) (hd : Row w d 1035 C) (ht : tg d = 1) (hO : NodesOk tg w C N) (hs : N.length < 65536) :
    Calls Yba.prog 39 #[.pointer (some ⟨d, 0, none⟩), .agg #[.int .u32 (n.1 : Int), .int .u32 (esum N : Int), .int .u32 (n.2.length : Int)]] w fun e w' => e = .returned (.tuple #[]) ∧ NAddP tg w w' d C N n := by
  obtain ⟨nO, nC, c0, g, h, v⟩ := hO
  have n1 : d ≠ nO := by intro e; have h2 := v.tO; rw [← e] at h2; omega
  have n2 : nC ≠ d := by intro e; have h2 := v.tc; rw [e] at h2; omega
  have n3 : nC ≠ nO := by intro e; have h1 := v.tO; have h2 := v.tc; rw [e] at h2; omega
  refine (list_more w d 0 nO nC N.length c0 _ _ _ (by rw [(hd 0 (by omega)).1, v.c]) (by rw [(hd 1 (by omega)).1, v.c1]) (hd 1 (by omega)).2 (by rw [(v.ro 0 v.one).1, v.g0]) (v.ro 0 v.one).2 hs (fun j hj => ?_) n1 n2 n3).mono ?_
  · have := v.rc (N.length * 3 + j) (by omega)
    exact ⟨by rw [this.1]; rfl, this.2⟩
  rintro e w' ⟨rfl, M, rfl⟩
  have hdl := hd.lt (by omega)
  obtain ⟨O, hO⟩ : ∃ O, O = Obj.cells #[.int .u32 (n.1 : Int), .int .u32 (esum N : Int), .int .u32 (n.2.length : Int)] 96 := ⟨_, rfl⟩
  rw [← hO]
  have a1 : Row (((w.alloc O).drewN M).alloc O) d 1035 C := Row.alloc (w := (w.alloc O).drewN M) (hd.alloc (by omega) O) (by omega) O
  have a2 : Row (((w.alloc O).drewN M).alloc O) nO c0 g := Row.alloc (w := (w.alloc O).drewN M) (v.ro.alloc v.one O) v.one O
  have a3 : Row (((w.alloc O).drewN M).alloc O) nC (65536 * 3) h := Row.alloc (w := (w.alloc O).drewN M) (v.rc.alloc (by omega) O) (by omega) O
  obtain ⟨r1, r2, r3⟩ := add_rows (n := N.length) (z := 3) (o := 0 + 1) [.int .u32 (n.1 : Int), .int .u32 (esum N : Int), .int .u32 (n.2.length : Int)] (.slice (some ⟨nC, 0, none⟩) (N.length + 1) 65536) (.int .i64 ((N.length : Int) + 1)) a1 a2 a3 n1 n2 n3
  refine ⟨rfl, _, r1, fun i hi => up1_other _ _ hi, ⟨nO, nC, c0, _, _, ?_, ?_, v.one, r2, ?_, r3, v.tO, v.tc, nodes_vals v.val⟩, ?_⟩
  · rw [up1_other _ _ (by omega)]; exact v.c
  · rw [show (0 + 1 : Nat) = 1 from rfl, up1_same]; simp
  · rw [up1_same]; simp
  · exact ((Fr.setL (.inr (.inr (.inl v.tc))) _ ((((Fr.refl _ tg w).alloc0 O).drewN M).alloc0 O) _).set (a := ⟨nO, 0, none⟩) (.inr (.inr (.inr v.tO))) _).set (a := ⟨d, 0 + 1, none⟩) (.inr (.inl ht)) _
/-- What nodes.add leaves. -/
def AddP (tg : Nat → Nat) (w w' : World) (d : Nat) (C : Nat → Value) (N : List Nd) (n : Nd) : Prop :=
  ∃ tg' C', Row w' d 1035 C' ∧ (∀ i, i ≠ 1 → i ≠ 2 → C' i = C i) ∧ NodesOk tg' w' C' (N ++ [n]) ∧ (EdgesOk tg' w' C' (N ++ [n]) ∧ ∀ e, ChunkAt tg w C e → ChunkAt tg' w' C' e) ∧ Fr (fun r => r = 1 ∨ (4 ≤ r ∧ r ≤ 7)) tg w tg' w'
theorem NodesOk.c1 {tg : Nat → Nat} {w : World} {C : Nat → Value} {N : List Nd} (h : NodesOk tg w C N) : C 1 = .int .i64 (N.length : Int) := by
  obtain ⟨_, _, _, _, _, v⟩ := h
  exact v.c1
theorem nodes_add (tg : Nat → Nat) (w : World) (d b o c : Nat) (C : Nat → Value) (N : List Nd) (l : Nat) (E : List Ed) (hd : Row w d 1035 C) (ht : tg d = 1) (hN : NodesOk tg w C N) (hO : EdgesOk tg w C N) (hE : EdAt w b o E) (hb : b ≠ d) (h0 : 0 < E.length) (hl : E.length ≤ 100) (hs : esum N + E.length ≤ 65536) (hn : N.length < 65536) :
    Calls Yba.prog 26 #[.pointer (some ⟨d, 0, none⟩), .int .u32 (l : Int), .slice (some ⟨b, o, none⟩) E.length c] w fun e w' => e = .returned (.int .u32 (N.length : Int)) ∧ AddP tg w w' d C N (l, E) := by
  have k1 : w.cell? ⟨d, 0 + 1, none⟩ = some (.int .i64 (N.length : Int)) := by rw [(hd 1 (by omega)).1, hN.c1]
  have e1 : ((N.length : Int) == 4294967295) = false := by simp; omega
  have e1' : decide ((N.length : Int) = 4294967295) = false := by simp; omega
  have e2 : decide ((0 : Int) < (E.length : Int)) = true := by simp; omega
  have HA : Hid _ := fun w1 tg1 C1 r1 r2 r3 r4 => node_add tg1 w1 d C1 N (l, E) r1 r2 r3 r4
  have HB : Hid _ := edges_add tg w d b o c C N l E hd ht hO hE hb h0 hs
  have HK : Hid (∀ tg' w' C', Fr (fun r => r = 1 ∨ r = 6 ∨ r = 7) tg w tg' w' → (∀ i, i ≠ 2 → C' i = C i) → NodesOk tg' w' C' N) := fun tg' w' C' k e => hN.fr k (by omega) (by omega) (e 0 (by omega)) (e 1 (by omega))
  have hdl := hd.lt (by omega)
  have hw3 : IntKind.u32.wrap (E.length : Int) = (E.length : Int) := by rw [IntKind.wrap_u32]; omega
  clear hd hN hO hE
  have HLen : Hid (esum N + E.length ≤ 65536) := hs
  clear hs
  generalize hes : (esum N : Int) = es at *
  have HES : Hid _ := hes
  clear hes
  generalize hel : E.length = el at *
  have HEL : Hid _ := hel
  clear hel
  go_enter Yba.func26, Yba.ntmps26
  go_wp2_with fail
  refine (count_any w d 0 _ k1).mono ?_
  rintro e w1 ⟨rfl, rfl⟩
  dsimp only
  go_wp2_with fail
  refine Calls.mono HB.out ?_
  rintro e w1 ⟨rfl, tg1, C1, r1, r2, r3, r4⟩
  dsimp only
  have r6 := HK.out _ _ _ r4 r2
  have HA1 : Hid _ := HA.out w1 tg1 C1 r1 ((r4.tag _ hdl).trans ht) r6 hn
  have R2 : Hid _ := r2
  have R3 : Hid _ := r3
  have R4 : Hid _ := r4
  clear r1 r2 r3 r4 r6 HB HA
  go_wp2_with fail
  refine Calls.mono HA1.out ?_
  rintro e w2 ⟨rfl, C2, q1, q2, q3, q4⟩
  dsimp only
  have k2 : w2.cell? ⟨d, 0 + 1, none⟩ = some (.int .i64 ((N.length + 1 : Nat) : Int)) := by rw [(q1 1 (by omega)).1, q3.c1]; simp
  have Q1 : Hid _ := q1
  have Q2 : Hid _ := q2
  have Q3 : Hid _ := q3
  have Q4 : Hid _ := q4
  clear q1 q2 q3 q4 k1
  have hwx : IntKind.i64.wrap (((N.length + 1 : Nat) : Int) - 1) = (N.length : Int) := by rw [IntKind.wrap_i64]; omega
  have hwy : ((N.length + 1 : Nat) : Int) - 1 = (N.length : Int) := by omega
  have hw4 : IntKind.u32.wrap (N.length : Int) = (N.length : Int) := by rw [IntKind.wrap_u32]; omega
  go_wp2_with fail
  refine (count_any w2 d 0 _ k2).mono ?_
  rintro e w3 ⟨rfl, rfl⟩
  dsimp only
  generalize hM : ((N.length + 1 : Nat) : Int) = m at *
  have HM : Hid _ := hM
  clear hM
  go_wp2
  go_ret
  refine ⟨rfl, tg1, C2, Q1.out, fun i h1 h2 => (Q2.out i h1).trans (R2.out i h2), Q3.out, ?_, (R4.out.mono fun r h => by omega).trans (Q4.out.mono fun r h => by omega)⟩
  exact ⟨EdgesOk.fr R3.out.1 Q4.out (by omega) (by omega) (Q2.out 2 (by omega)), fun e he => ChunkAt.fr (R3.out.2 e he) Q4.out (by omega) (Q2.out 2 (by omega))⟩
theorem nodes_add0 (tg : Nat → Nat) (w : World) (d : Nat) (C : Nat → Value) (N : List Nd) (l : Nat) (hd : Row w d 1035 C) (ht : tg d = 1) (hN : NodesOk tg w C N) (hz : esum N = 0) (hn : N.length < 65536) :
    Calls Yba.prog 26 #[.pointer (some ⟨d, 0, none⟩), .int .u32 (l : Int), .slice none 0 0] w fun e w' => (∃ v, e = .returned v) ∧ NAddP tg w w' d C N (l, []) := by
  have k1 : w.cell? ⟨d, 0 + 1, none⟩ = some (.int .i64 (N.length : Int)) := by rw [(hd 1 (by omega)).1, hN.c1]
  have e1 : ((N.length : Int) == 4294967295) = false := by simp; omega
  have e1' : decide ((N.length : Int) = 4294967295) = false := by simp; omega
  have HA0 := node_add tg w d C N (l, []) hd ht hN hn
  rw [hz] at HA0
  have HA : Hid _ := HA0
  clear HA0 hN hd
  go_enter Yba.func26, Yba.ntmps26
  go_wp2_with fail
  refine (count_any w d 0 _ k1).mono ?_
  rintro e w1 ⟨rfl, rfl⟩
  dsimp only
  go_wp2_with fail
  refine Calls.mono HA.out ?_
  rintro e w2 ⟨rfl, C2, q1, q2, q3, q4⟩
  dsimp only
  have k2 : w2.cell? ⟨d, 0 + 1, none⟩ = some (.int .i64 ((N.length + 1 : Nat) : Int)) := by rw [(q1 1 (by omega)).1, q3.c1]; simp
  have Q : Hid (NAddP tg w w2 d C N (l, [])) := ⟨C2, q1, q2, q3, q4⟩
  clear q1 q2 q3 q4 k1
  go_wp2_with fail
  refine (count_any w2 d 0 _ k2).mono ?_
  rintro e w3 ⟨rfl, rfl⟩
  dsimp only
  generalize hM : ((N.length + 1 : Nat) : Int) = m at *
  go_wp2
  go_ret
  exact ⟨⟨_, rfl⟩, Q.out⟩
theorem nodes_add1 (tg : Nat → Nat) (w : World) (d : Nat) (C : Nat → Value) (l : Nat) (hd : Row w d 1035 C) (ht : tg d = 1) (h0 : C 0 = .slice none 0 0) (h1 : C 1 = .int .i64 0) :
    Calls Yba.prog 26 #[.pointer (some ⟨d, 0, none⟩), .int .u32 (l : Int), .slice none 0 0] w fun e w' => (∃ v, e = .returned v) ∧ FirstP w w' d 0 1035 C tg 5 4 3 [.int .u32 (l : Int), .int .u32 0, .int .u32 0] := by
  have k1 : w.cell? ⟨d, 0 + 1, none⟩ = some (.int .i64 0) := by rw [(hd 1 (by omega)).1, h1]
  have HA : Hid _ := list_first w d 0 1035 C (l : Int) 0 0 tg 5 4 (by omega) (by omega) (by omega) hd (by omega) h0 h1
  clear hd
  go_enter Yba.func26, Yba.ntmps26
  go_wp2_with fail
  refine (count_any w d 0 _ k1).mono ?_
  rintro e w1 ⟨rfl, rfl⟩
  dsimp only
  go_wp2_with fail
  refine Calls.mono HA.out ?_
  rintro e w2 ⟨rfl, hF⟩
  dsimp only
  have k2 : w2.cell? ⟨d, 0 + 1, none⟩ = some (.int .i64 1) := by
    obtain ⟨ob, cb, c0, tg', g, f0, r1, _⟩ := hF
    rw [(r1 1 (by omega)).1, show (0 + 1 : Nat) = 1 from rfl, up1_same]
  have HF : Hid _ := hF
  clear hF k1
  go_wp2_with fail
  refine (count_any w2 d 0 _ k2).mono ?_
  rintro e w3 ⟨rfl, rfl⟩
  dsimp only
  go_wp2
  go_ret
  exact ⟨⟨_, rfl⟩, HF.out⟩
end Go.Proofs.Ybulkakra

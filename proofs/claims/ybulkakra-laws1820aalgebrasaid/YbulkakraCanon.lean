/-
  PLAIN MATHEMATICS of seat b1820a, second half: one set, one node; Diff and Intersect.
-/
import Derived.Test.YbulkakraMath
namespace Go.Proofs.Ybulkakra

theorem inc_ext : ∀ {E F : List Ed}, Inc E → Inc F → (∀ e, e ∈ E ↔ e ∈ F) → E = F
  | [], [], _, _, _ => rfl
  | [], f :: F, _, _, h => absurd ((h f).2 (by simp)) (by simp)
  | e :: E, [], _, _, h => absurd ((h e).1 (by simp)) (by simp)
  | e :: E, f :: F, hE, hF, h => by
    have h1 := List.pairwise_cons.1 hE
    have h2 := List.pairwise_cons.1 hF
    have he : e = f := by
      have a := (h e).1 (by simp)
      have b := (h f).2 (by simp)
      rcases List.mem_cons.1 a with a | a
      · exact a
      · rcases List.mem_cons.1 b with b | b
        · exact b.symm
        · have c1 := h2.1 e a
          have c2 := h1.1 f b
          omega
    subst he
    have : E = F := inc_ext h1.2 h2.2 (fun x => by
      constructor
      · intro hx
        have c1 := h1.1 x hx
        rcases List.mem_cons.1 ((h x).1 (by simp [hx])) with a | a
        · subst a; omega
        · exact a
      · intro hx
        have c1 := h2.1 x hx
        rcases List.mem_cons.1 ((h x).2 (by simp [hx])) with a | a
        · subst a; omega
        · exact a)
    rw [this]
theorem inc_fun {E : List Ed} (h : Inc E) {x t u : Nat} (h1 : (x, t) ∈ E) (h2 : (x, u) ∈ E) : t = u := by
  induction E with
  | nil => simp at h1
  | cons e E ih =>
    have hp := List.pairwise_cons.1 h
    rcases List.mem_cons.1 h1 with a | a
    · rcases List.mem_cons.1 h2 with b | b
      · rw [← a] at b; simp at b; exact b.symm
      · have := hp.1 _ b; rw [← a] at this; simp at this
    · rcases List.mem_cons.1 h2 with b | b
      · have := hp.1 _ a; rw [← b] at this; simp at this
      · exact ih hp.2 a b
/-- A set that is not Empty holds a vector. -/
theorem has_some {N : List Nd} (hw : Wf N) : ∀ (k l a : Nat), l + k = 3 → 0 < a → a < N.length → l ≤ lev N a → ∃ v, v.length = k ∧ has N v l a
  | 0, l, a, hl, h0, ha, hla => by
    refine ⟨[], rfl, ?_⟩
    rcases hw.lev_term ha with ⟨_, h⟩ | ⟨h, _⟩
    · omega
    · show a = 1; omega
  | k + 1, l, a, hl, h0, ha, hla => by
    by_cases h : lev N a = l
    · have h2 : 2 ≤ a := by
        rcases hw.lev_term ha with ⟨h1, _⟩ | ⟨_, h1⟩
        · exact h1
        · unfold TT at h1; omega
      have hk := hw.ok a h2 ha
      obtain ⟨⟨x, t⟩, he⟩ := List.exists_mem_of_ne_nil _ hk.ne
      obtain ⟨_, a2, a3, a4⟩ := hk.ed _ he
      simp only at a2 a3 a4
      obtain ⟨v, hv, hh⟩ := has_some hw k (l + 1) t (by omega) a2 (by omega) (by omega)
      exact ⟨x :: v, by simp [hv], (has_at h x v).2 ⟨t, he, hh⟩⟩
    · obtain ⟨v, hv, hh⟩ := has_some hw k (l + 1) a (by omega) h0 ha (by omega)
      exact ⟨0 :: v, by simp [hv], (has_skip (by omega) 0 v).2 ⟨rfl, hh⟩⟩
theorem wf_two {N : List Nd} (hw : Wf N) {a l : Nat} (ha : a < N.length) (hl : l ≤ 2) (h : lev N a = l) : 2 ≤ a := by
  rcases hw.lev_term ha with ⟨h1, _⟩ | ⟨_, h1⟩
  · exact h1
  · unfold TT at h1; omega
theorem no_low {N : List Nd} (hw : Wf N) {k l a b : Nat} (hl : l + (k + 1) = 3) (ha : a < N.length) (h1 : lev N a = l) (h2 : l < lev N b) (h : ∀ v, v.length = k + 1 → (has N v l a ↔ has N v l b)) : False := by
  have a2 := wf_two hw ha (by omega) h1
  have hk := hw.ok a a2 ha
  have h0 : ∀ e ∈ edg N a, e.1 = 0 := by
    rintro ⟨x, t⟩ he
    obtain ⟨_, b2, b3, b4⟩ := hk.ed _ he
    simp only at b2 b3 b4
    obtain ⟨v, hv, hh⟩ := has_some hw k (l + 1) t (by omega) b2 (by omega) (by omega)
    have := (h (x :: v) (by simp [hv])).1 ((has_at h1 x v).2 ⟨t, he, hh⟩)
    exact ((has_skip h2 x v).1 this).1
  cases hE : edg N a with
  | nil => exact hk.ne hE
  | cons e E =>
    obtain ⟨x, t⟩ := e
    have e1 := h0 (x, t) (by rw [hE]; simp)
    simp only at e1
    subst e1
    cases E with
    | nil => exact hk.no0 t hE
    | cons f E =>
      have e2 := h0 f (by rw [hE]; simp)
      have := hk.inc
      rw [hE] at this
      have := (List.pairwise_cons.1 this).1 f (by simp)
      simp only at this
      omega
/-- One set, one node. -/
theorem has_inj {N : List Nd} (hw : Wf N) : ∀ (k l a b : Nat), l + k = 3 → a < N.length → b < N.length → l ≤ lev N a → l ≤ lev N b → (∀ v, v.length = k → (has N v l a ↔ has N v l b)) → a = b
  | 0, l, a, b, hl, ha, hb, la, lb, h => by
    have := h [] rfl
    simp only [has] at this
    rcases hw.lev_term ha with ⟨_, h1⟩ | ⟨h1, _⟩
    · omega
    · rcases hw.lev_term hb with ⟨_, h2⟩ | ⟨h2, _⟩
      · omega
      · omega
  | k + 1, l, a, b, hl, ha, hb, la, lb, h => by
    by_cases h1 : lev N a = l
    · by_cases h2 : lev N b = l
      · have a2 := wf_two hw ha (by omega) h1
        have b2 := wf_two hw hb (by omega) h2
        have ka := hw.ok a a2 ha
        have kb := hw.ok b b2 hb
        have half : ∀ {c d : Nat}, c < N.length → d < N.length → lev N c = l → lev N d = l → NOk N c (lev N c) (edg N c) → NOk N d (lev N d) (edg N d) → (∀ v, v.length = k + 1 → (has N v l c ↔ has N v l d)) → ∀ e, e ∈ edg N c → e ∈ edg N d := by
          rintro c d hc hd lc ld kc kd hh ⟨x, t⟩ he
          obtain ⟨_, t2, t3, t4⟩ := kc.ed _ he
          simp only at t2 t3 t4
          obtain ⟨v, hv, hs⟩ := has_some hw k (l + 1) t (by omega) t2 (by omega) (by omega)
          obtain ⟨u, hu, _⟩ := (has_at ld x v).1 ((hh (x :: v) (by simp [hv])).1 ((has_at lc x v).2 ⟨t, he, hs⟩))
          obtain ⟨_, u2, u3, u4⟩ := kd.ed _ hu
          simp only at u2 u3 u4
          have : t = u := has_inj hw k (l + 1) t u (by omega) (by omega) (by omega) (by omega) (by omega) (fun v hv => by
            have := hh (x :: v) (by simp [hv])
            rw [has_at lc, has_at ld] at this
            constructor
            · intro q
              obtain ⟨s, s1, s2⟩ := this.1 ⟨t, he, q⟩
              rw [inc_fun kd.inc hu s1]
              exact s2
            · intro q
              obtain ⟨s, s1, s2⟩ := this.2 ⟨u, hu, q⟩
              rw [inc_fun kc.inc he s1]
              exact s2)
          subst this
          exact hu
        have he : edg N a = edg N b := inc_ext ka.inc kb.inc (fun e => ⟨half ha hb h1 h2 ka kb h e, half hb ha h2 h1 kb ka (fun v hv => (h v hv).symm) e⟩)
        refine hw.uniq a b a2 ha b2 hb ?_
        have e1 : nd N a = (lev N a, edg N a) := rfl
        have e2 : nd N b = (lev N b, edg N b) := rfl
        rw [e1, e2, h1, h2, he]
      · exact (no_low hw hl ha h1 (by omega) h).elim
    · by_cases h2 : lev N b = l
      · exact (no_low hw hl hb h2 (by omega) (fun v hv => (h v hv).symm)).elim
      · refine has_inj hw k (l + 1) a b (by omega) ha hb (by omega) (by omega) (fun v hv => ?_)
        have := h (0 :: v) (by simp [hv])
        rw [has_skip (by omega), has_skip (by omega)] at this
        simpa using this
/-- .. as the law wants it. -/
theorem tru_eq {N : List Nd} (hw : Wf N) {a b : Nat} (ha : a < N.length) (hb : b < N.length) (h : ∀ v, v.length = 3 → (has N v 0 a ↔ has N v 0 b)) : a = b := has_inj hw 3 0 a b rfl ha hb (Nat.zero_le _) (Nat.zero_le _) h

/-! ### what a set holds below a value -/
def Blw (N : List Nd) (a l x t : Nat) : Prop := t < N.length ∧ l < lev N t ∧ ∀ v, has N v (l + 1) t ↔ has N (x :: v) l a
theorem lev_zero {N : List Nd} (hw : Wf N) : lev N 0 = TT := by unfold lev; rw [hw.t0]
theorem blw_zero {N : List Nd} (hw : Wf N) {a l x : Nat} (hl : l ≤ 2) (h : ∀ v, ¬ has N (x :: v) l a) : Blw N a l x 0 := by
  refine ⟨by have := hw.two; omega, by rw [lev_zero hw]; unfold TT; omega, fun v => ?_⟩
  constructor
  · intro q; exact absurd q (has_zero hw _ _)
  · intro q; exact absurd q (h v)
theorem blw_skip {N : List Nd} (hw : Wf N) {a l x : Nat} (ha : a < N.length) (hl : l ≤ 2) (h : l < lev N a) : Blw N a l x (if x = 0 then a else 0) := by
  split
  · next e =>
    subst e
    exact ⟨ha, h, fun v => by rw [has_skip h]; simp⟩
  · next e => exact blw_zero hw hl (fun v => by rw [has_skip h]; simp [e])
theorem blw_at {N : List Nd} (hw : Wf N) {a l x t : Nat} (ha : a < N.length) (hl : l ≤ 2) (h : lev N a = l) (he : (x, t) ∈ edg N a) : Blw N a l x t := by
  have hk := hw.ok a (wf_two hw ha hl h) ha
  obtain ⟨_, t2, t3, t4⟩ := hk.ed _ he
  simp only at t2 t3 t4
  refine ⟨by omega, by omega, fun v => ?_⟩
  rw [has_at h]
  constructor
  · intro q; exact ⟨t, he, q⟩
  · rintro ⟨u, hu, q⟩
    rw [inc_fun hk.inc he hu]
    exact q
theorem blw_none {N : List Nd} (hw : Wf N) {a l x : Nat} (hl : l ≤ 2) (h : lev N a = l) (hn : ∀ e ∈ edg N a, e.1 ≠ x) : Blw N a l x 0 :=
  blw_zero hw hl (fun v => by
    rw [has_at h]
    rintro ⟨t, ht, _⟩
    exact hn _ ht rfl)
theorem Blw.ext {N N' : List Nd} {a l x t : Nat} (h : Blw N a l x t) (hw : Wf N) (e : N <+: N') (ha : a < N.length) : Blw N' a l x t :=
  ⟨Nat.lt_of_lt_of_le h.1 e.length_le, by rw [lev_ext e h.1]; exact h.2.1, fun v => by rw [has_ext hw e _ _ t h.1, has_ext hw e _ _ a ha]; exact h.2.2 v⟩

/-! ### Diff and Intersect -/
theorem tru_right {N : List Nd} {op a b r s l : Nat} (hop : op = 2 ∨ op = 3) (hl : l ≤ 2) (ha : l < lev N a) (hb : lev N b = l) (hbl : b < N.length) (B : Blw N b l 0 s) (T : Tru N op a s r) : Tru N op a b r := by
  obtain ⟨b1, b2, b3⟩ := B
  have h1 := T.lev
  refine ⟨T.a_lt, hbl, T.r_lt, by omega, fun e => by omega, ?_⟩
  intro v l0 hv q1 q2
  refine sem_up (L := l) (by omega) (by omega) (by omega) (by omega) ?_ (l - l0) l0 (by omega) v hv
  intro v hv
  cases v with
  | nil => simp at hv; omega
  | cons x v =>
    have hs := T.sem v (l + 1) (by simp at hv; omega) (by omega) (by omega)
    rw [has_skip (by omega), has_skip (by omega), hs]
    unfold opS
    by_cases hx : x = 0
    · subst hx
      rw [← b3 v]
      simp
    · simp [hx]
      rcases hop with rfl | rfl <;> simp
theorem Tru.swap3 {N : List Nd} {a b r : Nat} (h : Tru N 3 b a r) : Tru N 3 a b r := ⟨h.b_lt, h.a_lt, h.r_lt, by have := h.lev; omega, fun e => by omega, fun v l e x y => by
  rw [h.sem v l e y x]
  unfold opS
  simp
  exact And.comm⟩
/-- The round over a's edges. -/
structure DInv (N0 : List Nd) (op l b g : Nat) (P F : List Ed) (N : List Nd) : Prop where
  wf : Wf N
  ext : N0 <+: N
  vals : F.map (·.1) = P.map (·.1)
  hang : ∀ e ∈ F, e.2 < N.length ∧ l < lev N e.2
  sem : ∀ x v, v.length + (l + 1) = 3 → (hasE N F l x v ↔ opS op (hasE N0 P l x v) (has N0 (x :: v) l b))
  nlen : N.length ≤ N0.length + P.length * g
  es : esum N ≤ esum N0 + 4 * (P.length * g)
theorem DInv.start {N0 : List Nd} (hw : Wf N0) (op l b g : Nat) (hop : op = 2 ∨ op = 3) : DInv N0 op l b g [] [] N0 :=
  ⟨hw, List.prefix_refl _, rfl, fun e he => by simp at he, fun x v _ => by unfold opS hasE; rcases hop with rfl | rfl <;> simp, by omega, by omega⟩
theorem hasE_snoc (M : List Nd) (A : List Ed) (l x s y : Nat) (v : List Nat) : hasE M (A ++ [(x, s)]) l y v ↔ hasE M A l y v ∨ (y = x ∧ has M v (l + 1) s) := by
  unfold hasE
  simp only [List.mem_append, List.mem_singleton, Prod.mk.injEq]
  constructor
  · rintro ⟨t, h | ⟨rfl, rfl⟩, h'⟩
    · exact .inl ⟨t, h, h'⟩
    · exact .inr ⟨rfl, h'⟩
  · rintro (⟨t, h, h'⟩ | ⟨rfl, h'⟩)
    · exact ⟨t, .inl h, h'⟩
    · exact ⟨s, .inr ⟨rfl, rfl⟩, h'⟩
theorem DInv.step {N0 N N' : List Nd} {op l b g x t s r : Nat} {P F : List Ed} (h : DInv N0 op l b g P F N) (hop : op = 2 ∨ op = 3) (hw0 : Wf N0) (hb : b < N0.length) (ht : t < N0.length) (hlt : l < lev N0 t) (B : Blw N b l x s)
    (T : Tru N' op t s r) (hw : Wf N') (e : N <+: N') (hc : N'.length ≤ N.length + g) (hes : esum N' ≤ esum N + 4 * g) : DInv N0 op l b g (P ++ [(x, t)]) (F ++ [(x, r)]) N' := by
  have e0 := h.ext.trans e
  have lt1 := lev_ext e0 ht
  have ls1 := lev_ext e B.1
  have hl1 := T.lev
  have hb2 := B.2.1
  refine ⟨hw, e0, by simp [h.vals], ?_, ?_, ?_, ?_⟩
  · intro y hy
    rcases List.mem_append.1 hy with hy | hy
    · obtain ⟨q1, q2⟩ := h.hang y hy
      exact ⟨Nat.lt_of_lt_of_le q1 e.length_le, by rw [lev_ext e q1]; exact q2⟩
    · simp at hy; subst hy
      exact ⟨T.r_lt, by show l < lev N' r; omega⟩
  · intro y v hv
    have hE : hasE N' F l y v ↔ hasE N F l y v := by
      unfold hasE
      constructor
      · rintro ⟨u, u1, u2⟩
        exact ⟨u, u1, (has_ext h.wf e v _ u (h.hang _ u1).1).1 u2⟩
      · rintro ⟨u, u1, u2⟩
        exact ⟨u, u1, (has_ext h.wf e v _ u (h.hang _ u1).1).2 u2⟩
    rw [hasE_snoc, hasE_snoc, hE, h.sem y v hv]
    have hs := T.sem v (l + 1) hv (by omega) (by omega)
    rw [hs, has_ext hw0 e0 v _ t ht, has_ext h.wf e v _ s B.1, B.2.2 v, has_ext hw0 h.ext _ _ b hb]
    unfold opS
    by_cases hyx : y = x
    · subst hyx
      rcases hop with rfl | rfl <;> simp <;> constructor <;> (intro q; grind)
    · rcases hop with rfl | rfl <;> simp [hyx]
  · have := h.nlen
    simp [Nat.add_mul]; omega
  · have := h.es
    simp [Nat.add_mul]; omega
/-- What build leaves of edges of which some lead to Empty. -/
structure BuiltZ (N : List Nd) (l : Nat) (E : List Ed) (N' : List Nd) (r : Nat) : Prop where
  wf : Wf N'
  ext : N <+: N'
  r_lt : r < N'.length
  lv : l ≤ lev N' r
  sem : ∀ x v, v.length + (l + 1) = 3 → (has N' (x :: v) l r ↔ hasE N E l x v)
  len : N'.length ≤ N.length + 1
  es : esum N' ≤ esum N + 4
def nz (E : List Ed) : List Ed := E.filter (fun e => e.2 != 0)
theorem nz_inc {E : List Ed} (h : Inc E) : Inc (nz E) := h.sublist List.filter_sublist
theorem made_z {N N' : List Nd} {l r : Nat} {E : List Ed} (hw : Wf N) (hl : l ≤ 2) (hi : Inc E) (hv : ∀ e ∈ E, e.1 < 4) (hE : ∀ e ∈ E, e.2 < N.length ∧ l < lev N e.2) (m : Made N l (nz E) N' r) : BuiltZ N l E N' r := by
  have hH : Hang N l (nz E) := by
    intro e he
    unfold nz at he
    rw [List.mem_filter] at he
    obtain ⟨h1, h2⟩ := he
    have := hE e h1
    exact ⟨hv e h1, by simp at h2; omega, this.1, this.2⟩
  have M := m.ok hw hl (nz_inc hi) hH
  have h4 := hang_inc_len hH (nz_inc hi)
  have h5 := M.es
  refine ⟨M.wf, M.ext, M.r_lt, M.lv, fun x v hv => (M.sem x v hv).trans ?_, M.len, by omega⟩
  unfold hasE nz
  constructor
  · rintro ⟨t, h1, h2⟩
    exact ⟨t, (List.mem_filter.1 h1).1, h2⟩
  · rintro ⟨t, h1, h2⟩
    refine ⟨t, List.mem_filter.2 ⟨h1, ?_⟩, h2⟩
    have : t ≠ 0 := by
      rintro rfl
      exact has_zero hw _ _ h2
    simpa using this
theorem inc_map {E F : List Ed} (h : F.map (·.1) = E.map (·.1)) (hE : Inc E) : Inc F := by
  have : (E.map (·.1)).Pairwise (· < ·) := List.pairwise_map.2 hE
  rw [← h] at this
  exact List.pairwise_map.1 this
theorem DInv.tru {N0 N N' : List Nd} {op a b g l r : Nat} {F : List Ed} (h : DInv N0 op l b g (edg N0 a) F N) (hop : op = 2 ∨ op = 3) (hw0 : Wf N0) (hl : l ≤ 2) (ha : a < N0.length) (hb : b < N0.length) (la : lev N0 a = l) (lb : l ≤ lev N0 b) (B : BuiltZ N l F N' r) : Tru N' op a b r := by
  have e0 := h.ext.trans B.ext
  have h1 := lev_ext e0 ha
  have h2 := lev_ext e0 hb
  have h3 := B.lv
  have hle := e0.length_le
  refine ⟨by omega, by omega, B.r_lt, by omega, fun e => by omega, ?_⟩
  intro v l0 hv q1 q2
  refine sem_up (L := l) (by omega) (by omega) (by omega) (by omega) ?_ (l - l0) l0 (by omega) v hv
  intro v hv
  cases v with
  | nil => simp at hv; omega
  | cons x v =>
    rw [B.sem x v (by simp at hv; omega), h.sem x v (by simp at hv; omega), has_ext hw0 e0 _ _ a ha, has_ext hw0 e0 _ _ b hb, has_at la]
    exact Iff.rfl
end Go.Proofs.Ybulkakra

/-
  PLAIN MATHEMATICS of seat b1820a: nodes, what a set holds, get, make, merge, union and its cost.
-/
namespace Go.Proofs.Ybulkakra

/-- An edge: value and number of the node it leads to. A node: level and edges. -/
abbrev Ed := Nat × Nat
abbrev Nd := Nat × List Ed
/-- The level of Empty and Zero. -/
def TT : Nat := 4294967295
def nd (N : List Nd) (a : Nat) : Nd := N.getD a (TT, [])
def lev (N : List Nd) (a : Nat) : Nat := (nd N a).1
def edg (N : List Nd) (a : Nat) : List Ed := (nd N a).2
def Inc (E : List Ed) : Prop := E.Pairwise fun x y => x.1 < y.1

/-- Does node a hold the vector v, whose values are those of the levels l, l + 1, ..? -/
def has (N : List Nd) : List Nat → Nat → Nat → Prop
  | [], _, a => a = 1
  | x :: v, l, a => (lev N a = l ∧ ∃ t, (x, t) ∈ edg N a ∧ has N v (l + 1) t) ∨ (lev N a ≠ l ∧ x = 0 ∧ has N v (l + 1) a)

/-- What a node with these edges must be. -/
structure NOk (N : List Nd) (n : Nat) (l : Nat) (E : List Ed) : Prop where
  lv : l ≤ 2
  inc : Inc E
  ed : ∀ e ∈ E, e.1 < 4 ∧ 0 < e.2 ∧ e.2 < n ∧ l < lev N e.2
  ne : E ≠ []
  no0 : ∀ t, E ≠ [(0, t)]
structure Wf (N : List Nd) : Prop where
  two : 2 ≤ N.length
  t0 : nd N 0 = (TT, [])
  t1 : nd N 1 = (TT, [])
  ok : ∀ i, 2 ≤ i → i < N.length → NOk N i (lev N i) (edg N i)
  uniq : ∀ i j, 2 ≤ i → i < N.length → 2 ≤ j → j < N.length → nd N i = nd N j → i = j

theorem nd_ext {N N' : List Nd} (h : N <+: N') {a : Nat} (ha : a < N.length) : nd N' a = nd N a := by
  obtain ⟨M, rfl⟩ := h
  unfold nd
  simp [List.getElem?_append_left ha]
theorem lev_ext {N N' : List Nd} (h : N <+: N') {a : Nat} (ha : a < N.length) : lev N' a = lev N a := by unfold lev; rw [nd_ext h ha]
theorem edg_ext {N N' : List Nd} (h : N <+: N') {a : Nat} (ha : a < N.length) : edg N' a = edg N a := by unfold edg; rw [nd_ext h ha]
theorem Wf.to_lt {N : List Nd} (h : Wf N) {a : Nat} (ha : a < N.length) {e : Ed} (he : e ∈ edg N a) : 2 ≤ a ∧ e.1 < 4 ∧ 0 < e.2 ∧ e.2 < a ∧ lev N a < lev N e.2 := by
  have h2 : 2 ≤ a := by
    rcases Nat.lt_or_ge a 2 with h0 | h0
    · have : a = 0 ∨ a = 1 := by omega
      rcases this with rfl | rfl
      · unfold edg at he; rw [h.t0] at he; simp at he
      · unfold edg at he; rw [h.t1] at he; simp at he
    · exact h0
  exact ⟨h2, (h.ok a h2 ha).ed e he⟩
theorem has_ext {N N' : List Nd} (hw : Wf N) (h : N <+: N') : ∀ (v : List Nat) (l a : Nat), a < N.length → (has N' v l a ↔ has N v l a)
  | [], _, _, _ => Iff.rfl
  | x :: v, l, a, ha => by
    simp only [has]
    rw [lev_ext h ha, edg_ext h ha, has_ext hw h v (l + 1) a ha]
    have : (∃ t, (x, t) ∈ edg N a ∧ has N' v (l + 1) t) ↔ (∃ t, (x, t) ∈ edg N a ∧ has N v (l + 1) t) := by
      constructor
      · rintro ⟨t, h1, h2⟩
        have := hw.to_lt ha h1
        exact ⟨t, h1, (has_ext hw h v (l + 1) t (by omega)).1 h2⟩
      · rintro ⟨t, h1, h2⟩
        have := hw.to_lt ha h1
        exact ⟨t, h1, (has_ext hw h v (l + 1) t (by omega)).2 h2⟩
    rw [this]
theorem has_skip {N : List Nd} {l a : Nat} (h : l < lev N a) (x : Nat) (v : List Nat) : has N (x :: v) l a ↔ x = 0 ∧ has N v (l + 1) a := by
  simp only [has]
  constructor
  · rintro (h1 | h1)
    · omega
    · exact h1.2
  · intro h1
    exact .inr ⟨by omega, h1⟩
theorem has_at {N : List Nd} {l a : Nat} (h : lev N a = l) (x : Nat) (v : List Nat) : has N (x :: v) l a ↔ ∃ t, (x, t) ∈ edg N a ∧ has N v (l + 1) t := by
  simp only [has]
  constructor
  · rintro (h1 | h1)
    · exact h1.2
    · omega
  · intro h1
    exact .inl ⟨h, h1⟩
/-- The levels of the nodes. -/
theorem Wf.lev_term {N : List Nd} (h : Wf N) {a : Nat} (ha : a < N.length) : (2 ≤ a ∧ lev N a ≤ 2) ∨ (a < 2 ∧ lev N a = TT) := by
  rcases Nat.lt_or_ge a 2 with h0 | h0
  · refine .inr ⟨h0, ?_⟩
    have : a = 0 ∨ a = 1 := by omega
    rcases this with rfl | rfl
    · unfold lev; rw [h.t0]
    · unfold lev; rw [h.t1]
  · exact .inl ⟨h0, (h.ok a h0 ha).lv⟩
theorem has_zero {N : List Nd} (h : Wf N) : ∀ (v : List Nat) (l : Nat), ¬ has N v l 0
  | [], _ => by simp [has]
  | x :: v, l => by
    intro hh
    simp only [has] at hh
    rcases hh with ⟨_, t, h1, _⟩ | ⟨_, _, h1⟩
    · unfold edg at h1; rw [h.t0] at h1; simp at h1
    · exact has_zero h v (l + 1) h1

/-- What an operation means. -/
def opS (op : Nat) (p q : Prop) : Prop := (op = 1 ∧ (p ∨ q)) ∨ (op = 2 ∧ p ∧ ¬ q) ∨ (op = 3 ∧ p ∧ q)
/-- r is the answer of the operation at a and b. -/
structure Tru (N : List Nd) (op a b r : Nat) : Prop where
  a_lt : a < N.length
  b_lt : b < N.length
  r_lt : r < N.length
  lev : min (lev N a) (lev N b) ≤ lev N r
  pos : op = 1 → 0 < a → 0 < b → 0 < r
  sem : ∀ v l, v.length + l = 3 → l ≤ Ybulkakra.lev N a → l ≤ Ybulkakra.lev N b → (has N v l r ↔ opS op (has N v l a) (has N v l b))
theorem Tru.ext {N N' : List Nd} {op a b r : Nat} (h : Tru N op a b r) (hw : Wf N) (e : N <+: N') : Tru N' op a b r := by
  have hl := e.length_le
  refine ⟨Nat.lt_of_lt_of_le h.a_lt hl, Nat.lt_of_lt_of_le h.b_lt hl, Nat.lt_of_lt_of_le h.r_lt hl, ?_, h.pos, ?_⟩
  · rw [lev_ext e h.a_lt, lev_ext e h.b_lt, lev_ext e h.r_lt]; exact h.lev
  · intro v l
    rw [lev_ext e h.a_lt, lev_ext e h.b_lt, has_ext hw e v l r h.r_lt, has_ext hw e v l a h.a_lt, has_ext hw e v l b h.b_lt]
    exact h.sem v l

/-- A meaning known at level l is known above it. -/
theorem sem_up {N : List Nd} {op a b r L : Nat} (ha : L ≤ lev N a) (hb : L ≤ lev N b) (hr : L ≤ lev N r) (hL : L ≤ 3)
    (h : ∀ v, v.length + L = 3 → (has N v L r ↔ opS op (has N v L a) (has N v L b))) : ∀ (d l : Nat), l + d = L → ∀ v, v.length + l = 3 → (has N v l r ↔ opS op (has N v l a) (has N v l b))
  | 0, l, e, v, hv => by
    have : l = L := by omega
    subst this
    exact h v hv
  | d + 1, l, e, v, hv => by
    cases v with
    | nil => 
      simp at hv
      subst hv
      omega
    | cons x v =>
      rw [has_skip (by omega), has_skip (by omega), has_skip (by omega), sem_up ha hb hr hL h d (l + 1) (by omega) v (by simp at hv; omega)]
      constructor
      · rintro ⟨rfl, h1⟩
        unfold opS at h1 ⊢
        simpa using h1
      · intro h1
        have hx : x = 0 := by
          rcases h1 with ⟨_, h2 | h2⟩ | ⟨_, h2, _⟩ | ⟨_, h2, _⟩
          · exact h2.1
          · exact h2.1
          · exact h2.1
          · exact h2.1
        subst hx
        refine ⟨rfl, ?_⟩
        unfold opS at h1 ⊢
        simpa using h1

/-! ### get and make -/
def esum (N : List Nd) : Nat := (N.map fun n => n.2.length).sum
theorem esum_snoc (N : List Nd) (n : Nd) : esum (N ++ [n]) = esum N + n.2.length := by simp [esum]
/-- The node of level l and edges E: there, or new. -/
def Got (N : List Nd) (l : Nat) (E : List Ed) (N' : List Nd) (r : Nat) : Prop :=
  (N' = N ∧ 2 ≤ r ∧ r < N.length ∧ nd N r = (l, E)) ∨ (N' = N ++ [(l, E)] ∧ r = N.length ∧ ∀ i, 2 ≤ i → i < N.length → nd N i ≠ (l, E))
theorem nd_snoc (N : List Nd) (n : Nd) : nd (N ++ [n]) N.length = n := by simp [nd]
theorem NOk.ext {N N' : List Nd} {n l : Nat} {E : List Ed} (h : NOk N n l E) (e : N <+: N') (hn : n ≤ N.length) : NOk N' n l E :=
  ⟨h.lv, h.inc, fun x hx => by
    obtain ⟨h1, h2, h3, h4⟩ := h.ed x hx
    exact ⟨h1, h2, h3, by rw [lev_ext e (by omega)]; exact h4⟩, h.ne, h.no0⟩
theorem Got.wf {N N' : List Nd} {l r : Nat} {E : List Ed} (g : Got N l E N' r) (hw : Wf N) (hn : NOk N N.length l E) :
    Wf N' ∧ N <+: N' ∧ r < N'.length ∧ 2 ≤ r ∧ nd N' r = (l, E) ∧ N'.length ≤ N.length + 1 ∧ esum N' ≤ esum N + E.length := by
  rcases g with ⟨rfl, h1, h2, h3⟩ | ⟨rfl, rfl, h3⟩
  · exact ⟨hw, List.prefix_refl _, h2, h1, h3, by omega, by omega⟩
  · have he : N <+: N ++ [(l, E)] := List.prefix_append _ _
    have h2 := hw.two
    refine ⟨⟨by simp; omega, by rw [nd_ext he (by omega)]; exact hw.t0, by rw [nd_ext he (by omega)]; exact hw.t1, ?_, ?_⟩, he, by simp, h2, nd_snoc _ _, by simp, by rw [esum_snoc]; simp⟩
    · intro i hi hl
      rcases Nat.lt_or_ge i N.length with h0 | h0
      · rw [lev_ext he h0, edg_ext he h0]
        exact (hw.ok i hi h0).ext he (by omega)
      · have : i = N.length := by simp at hl; omega
        subst this
        unfold lev edg
        rw [nd_snoc]
        exact hn.ext he (Nat.le_refl _)
    · intro i j hi hil hj hjl hij
      simp at hil hjl
      rcases Nat.lt_or_ge i N.length with h0 | h0
      · rcases Nat.lt_or_ge j N.length with h4 | h4
        · rw [nd_ext he h0, nd_ext he h4] at hij
          exact hw.uniq i j hi h0 hj h4 hij
        · have : j = N.length := by omega
          subst this
          rw [nd_ext he h0, nd_snoc] at hij
          exact absurd hij (h3 i hi h0)
      · have : i = N.length := by omega
        subst this
        rcases Nat.lt_or_ge j N.length with h4 | h4
        · rw [nd_ext he h4, nd_snoc] at hij
          exact absurd hij.symm (h3 j hj h4)
        · omega
/-- What make answers. -/
def Made (N : List Nd) (l : Nat) (E : List Ed) (N' : List Nd) (r : Nat) : Prop :=
  (E = [] ∧ N' = N ∧ r = 0) ∨ (∃ t, E = [(0, t)] ∧ N' = N ∧ r = t) ∨ (E ≠ [] ∧ (∀ t, E ≠ [(0, t)]) ∧ Got N l E N' r)
/-- Edges that may hang under level l. -/
def Hang (N : List Nd) (l : Nat) (E : List Ed) : Prop := ∀ e ∈ E, e.1 < 4 ∧ 0 < e.2 ∧ e.2 < N.length ∧ l < lev N e.2
theorem Hang.ext {N N' : List Nd} {l : Nat} {E : List Ed} (h : Hang N l E) (e : N <+: N') : Hang N' l E := fun x hx => by
  obtain ⟨h1, h2, h3, h4⟩ := h x hx
  exact ⟨h1, h2, Nat.lt_of_lt_of_le h3 e.length_le, by rw [lev_ext e h3]; exact h4⟩
/-- What a set at level l holds, said by edges. -/
def hasE (N : List Nd) (E : List Ed) (l x : Nat) (v : List Nat) : Prop := ∃ t, (x, t) ∈ E ∧ has N v (l + 1) t
structure MadeOk (N : List Nd) (l : Nat) (E : List Ed) (N' : List Nd) (r : Nat) : Prop where
  wf : Wf N'
  ext : N <+: N'
  r_lt : r < N'.length
  lv : l ≤ lev N' r
  pos : E ≠ [] → 0 < r
  sem : ∀ x v, v.length + (l + 1) = 3 → (has N' (x :: v) l r ↔ hasE N E l x v)
  len : N'.length ≤ N.length + 1
  es : esum N' ≤ esum N + E.length
theorem hasE_ext {N N' : List Nd} (hw : Wf N) (e : N <+: N') {l : Nat} {E : List Ed} (hE : Hang N l E) (x : Nat) (v : List Nat) : hasE N' E l x v ↔ hasE N E l x v := by
  constructor
  · rintro ⟨t, h1, h2⟩
    exact ⟨t, h1, (has_ext hw e v _ t (hE _ h1).2.2.1).1 h2⟩
  · rintro ⟨t, h1, h2⟩
    exact ⟨t, h1, (has_ext hw e v _ t (hE _ h1).2.2.1).2 h2⟩
theorem Made.ok {N N' : List Nd} {l r : Nat} {E : List Ed} (m : Made N l E N' r) (hw : Wf N) (hl : l ≤ 2) (hi : Inc E) (hE : Hang N l E) : MadeOk N l E N' r := by
  rcases m with ⟨rfl, rfl, rfl⟩ | ⟨t, rfl, rfl, rfl⟩ | ⟨h1, h2, g⟩
  · refine ⟨hw, List.prefix_refl _, by have := hw.two; omega, ?_, by simp, ?_, by omega, by omega⟩
    · unfold lev; rw [hw.t0]; show l ≤ TT; unfold TT; omega
    · intro x v _
      constructor
      · intro h; exact absurd h (has_zero hw _ _)
      · rintro ⟨t, h, _⟩; simp at h
  · obtain ⟨_, h1, h2, h3⟩ := hE (0, r) (by simp)
    refine ⟨hw, List.prefix_refl _, h2, by simpa using Nat.le_of_lt h3, fun _ => h1, ?_, by omega, by omega⟩
    intro x v _
    rw [has_skip h3]
    unfold hasE
    constructor
    · rintro ⟨rfl, h⟩
      exact ⟨r, by simp, h⟩
    · rintro ⟨t, ht, h⟩
      simp at ht
      obtain ⟨rfl, rfl⟩ := ht
      exact ⟨rfl, h⟩
  · obtain ⟨a1, a2, a3, a4, a5, a6, a7⟩ := g.wf hw ⟨hl, hi, hE, h1, h2⟩
    refine ⟨a1, a2, a3, ?_, fun _ => by omega, ?_, a6, a7⟩
    · unfold lev; rw [a5]; exact Nat.le_refl _
    · intro x v _
      rw [has_at (by unfold lev; rw [a5]), show edg N' r = E by unfold edg; rw [a5]]
      exact hasE_ext hw a2 hE x v

/-! ### thin sets and what a union costs -/
def thin (N : List Nd) : Nat → Nat → Prop
  | 0, _ => True
  | f + 1, a => a < 2 ∨ ∃ v t, edg N a = [(v, t)] ∧ thin N f t
theorem thin.pred {N : List Nd} : ∀ {f a : Nat}, thin N (f + 1) a → thin N f a
  | 0, _, _ => trivial
  | _ + 1, _, h => by
    rcases h with h | ⟨v, t, h1, h2⟩
    · exact .inl h
    · exact .inr ⟨v, t, h1, thin.pred h2⟩
theorem thin.ext {N N' : List Nd} (hw : Wf N) (e : N <+: N') : ∀ {f a : Nat}, a < N.length → thin N f a → thin N' f a
  | 0, _, _, _ => trivial
  | _ + 1, a, ha, h => by
    rcases h with h | ⟨v, t, h1, h2⟩
    · exact .inl h
    · refine .inr ⟨v, t, by rw [edg_ext e ha]; exact h1, thin.ext hw e ?_ h2⟩
      have := (hw.to_lt ha (e := (v, t)) (by rw [h1]; simp)).2.2.2.1
      omega
def cost (k : Nat) : Nat → Nat
  | 0 => 0
  | f + 1 => 1 + k * cost k f
/-- Two sets of which one is thin, if k is 1. -/
def Kd (N : List Nd) (k f a b : Nat) : Prop := k = 4 ∨ (k = 1 ∧ (thin N f a ∨ thin N f b))
theorem Kd.ext {N N' : List Nd} {k f a b : Nat} (h : Kd N k f a b) (hw : Wf N) (e : N <+: N') (ha : a < N.length) (hb : b < N.length) : Kd N' k f a b := by
  rcases h with h | ⟨h, h1 | h1⟩
  · exact .inl h
  · exact .inr ⟨h, .inl (h1.ext hw e ha)⟩
  · exact .inr ⟨h, .inr (h1.ext hw e hb)⟩
theorem Kd.symm {N : List Nd} {k f a b : Nat} (h : Kd N k f a b) : Kd N k f b a := by
  rcases h with h | ⟨h, h1 | h1⟩
  · exact .inl h
  · exact .inr ⟨h, .inr h1⟩
  · exact .inr ⟨h, .inl h1⟩

/-! ### the merge -/
theorem pigeon : ∀ (D M : List Nat), D.Nodup → (∀ x ∈ D, x ∈ M) → D.length ≤ M.length
  | [], _, _, _ => Nat.zero_le _
  | x :: D, M, h, hs => by
    obtain ⟨h1, h2⟩ := List.nodup_cons.1 h
    have hx := hs x (by simp)
    have := pigeon D (M.erase x) h2 (fun y hy => (List.mem_erase_of_ne (by rintro rfl; exact h1 hy)).2 (hs y (by simp [hy])))
    rw [List.length_erase_of_mem hx] at this
    have := List.length_pos_of_mem hx
    simp
    omega
/-- E has at most k values too many. -/
def Bd (E : List Ed) (k : Nat) : Prop := ∃ D : List Nat, D.Nodup ∧ E.length ≤ D.length + k ∧ ∀ x ∈ D, ∃ e ∈ E, e.1 = x
theorem Bd.join {P Q K : List Ed} {e : Ed} {k : Nat} (h : Bd (P ++ e :: Q) k) (hP : ∀ x ∈ P, ∃ y ∈ K, y.1 = x.1) (he : ∃ y ∈ K, y.1 = e.1) : P.length + 1 ≤ K.length + k := by
  obtain ⟨D, h1, h2, h3⟩ := h
  have := pigeon D ((K ++ Q).map (·.1)) h1 (fun x hx => by
    obtain ⟨y, hy, rfl⟩ := h3 x hx
    simp only [List.mem_append, List.mem_cons] at hy
    rw [List.mem_map]
    rcases hy with hy | rfl | hy
    · obtain ⟨z, hz, e1⟩ := hP y hy
      exact ⟨z, by simp [hz], e1⟩
    · obtain ⟨z, hz, e1⟩ := he
      exact ⟨z, by simp [hz], e1⟩
    · exact ⟨y, by simp [hy], rfl⟩)
  simp at this h2
  omega
/-- The merge at work: P is taken, K kept, J joined. -/
structure MInv (N0 : List Nd) (l k c : Nat) (P K : List Ed) (J : Nat) (N : List Nd) : Prop where
  wf : Wf N
  ext : N0 <+: N
  len : K.length + J = P.length
  zero : J = 0 → K = P
  inc : Inc K
  hang : Hang N l K
  sub : ∀ x ∈ P, ∃ y ∈ K, y.1 = x.1
  top : ∀ x ∈ K, ∃ y ∈ P, y.1 = x.1
  sem : ∀ x v, v.length + (l + 1) = 3 → (hasE N K l x v ↔ hasE N0 P l x v)
  nlen : N.length ≤ N0.length + J * c
  es : esum N ≤ esum N0 + 4 * (J * c)
theorem MInv.start {N0 : List Nd} (hw : Wf N0) (l k c : Nat) : MInv N0 l k c [] [] 0 N0 :=
  ⟨hw, List.prefix_refl _, rfl, fun _ => rfl, List.Pairwise.nil, fun e he => by simp at he, by simp, by simp, fun x v _ => by simp [hasE], by omega, by omega⟩
theorem MInv.keep {N0 N : List Nd} {l k c J : Nat} {P K : List Ed} (h : MInv N0 l k c P K J N) {e : Ed} (hlt : ∀ y ∈ K, y.1 < e.1) (hw0 : Wf N0) (he : Hang N0 l [e]) : MInv N0 l k c (P ++ [e]) (K ++ [e]) J N := by
  refine ⟨h.wf, h.ext, by have := h.len; simp; omega, fun h0 => by rw [h.zero h0], ?_, ?_, ?_, ?_, ?_, h.nlen, h.es⟩
  · refine List.pairwise_append.2 ⟨h.inc, by simp, fun x hx y hy => ?_⟩
    simp at hy; subst hy; exact hlt x hx
  · intro x hx
    rcases List.mem_append.1 hx with hx | hx
    · exact h.hang x hx
    · exact he.ext h.ext x hx
  · intro x hx
    rcases List.mem_append.1 hx with hx | hx
    · obtain ⟨y, hy, e1⟩ := h.sub x hx
      exact ⟨y, by simp [hy], e1⟩
    · exact ⟨x, by simp at hx; simp [hx], rfl⟩
  · intro x hx
    rcases List.mem_append.1 hx with hx | hx
    · obtain ⟨y, hy, e1⟩ := h.top x hx
      exact ⟨y, by simp [hy], e1⟩
    · exact ⟨x, by simp at hx; simp [hx], rfl⟩
  · intro x v hv
    have h1 := h.sem x v hv
    have h2 := hasE_ext hw0 h.ext he x v
    have hap : ∀ (M : List Nd) (A B : List Ed), hasE M (A ++ B) l x v ↔ hasE M A l x v ∨ hasE M B l x v := by
      intro M A B
      unfold hasE
      simp only [List.mem_append]
      constructor
      · rintro ⟨t, h | h, h'⟩
        · exact .inl ⟨t, h, h'⟩
        · exact .inr ⟨t, h, h'⟩
      · rintro (⟨t, h, h'⟩ | ⟨t, h, h'⟩)
        · exact ⟨t, .inl h, h'⟩
        · exact ⟨t, .inr h, h'⟩
    rw [hap, hap, h1, h2]
theorem MInv.join {N0 N N' : List Nd} {l k c J x t u r : Nat} {P K : List Ed} (h : MInv N0 l k c P (K ++ [(x, t)]) J N) (hw0 : Wf N0) (he : Hang N0 l [(x, u)])
    (T : Tru N' 1 t u r) (hw : Wf N') (e : N <+: N') (hc : N'.length ≤ N.length + c) (hes : esum N' ≤ esum N + 4 * c) : MInv N0 l k c (P ++ [(x, u)]) (K ++ [(x, r)]) (J + 1) N' := by
  obtain ⟨t1, t2, t3, t4⟩ := h.hang (x, t) (by simp)
  obtain ⟨u1, u2, u3, u4⟩ := he (x, u) (by simp)
  have u3' := Nat.lt_of_lt_of_le u3 h.ext.length_le
  simp only at t1 t2 t3 t4 u1 u2 u3 u4
  have hl1 := T.lev
  rw [lev_ext e t3, lev_ext e u3', lev_ext h.ext u3] at hl1
  refine ⟨hw, h.ext.trans e, by have := h.len; simp at this ⊢; omega, fun h0 => by omega, ?_, ?_, ?_, ?_, ?_, ?_, ?_⟩
  · have := List.pairwise_append.1 h.inc
    refine List.pairwise_append.2 ⟨this.1, by simp, fun a ha b hb => ?_⟩
    simp at hb; subst hb
    exact this.2.2 a ha (x, t) (by simp)
  · intro y hy
    rcases List.mem_append.1 hy with hy | hy
    · exact h.hang.ext e y (by simp [hy])
    · simp at hy; subst hy
      exact ⟨u1, T.pos rfl t2 u2, T.r_lt, by show l < lev N' r; omega⟩
  · intro y hy
    have key : ∀ z ∈ K ++ [(x, t)], ∃ z' ∈ K ++ [(x, r)], z'.1 = z.1 := by
      intro z hz
      rcases List.mem_append.1 hz with hz | hz
      · exact ⟨z, by simp [hz], rfl⟩
      · simp at hz; subst hz; exact ⟨(x, r), by simp, rfl⟩
    rcases List.mem_append.1 hy with hy | hy
    · obtain ⟨z, hz, e1⟩ := h.sub y hy
      obtain ⟨z', hz', e2⟩ := key z hz
      exact ⟨z', hz', e2.trans e1⟩
    · simp at hy; subst hy
      exact ⟨(x, r), by simp, rfl⟩
  · intro y hy
    rcases List.mem_append.1 hy with hy | hy
    · obtain ⟨z, hz, e1⟩ := h.top y (by simp [hy])
      exact ⟨z, by simp [hz], e1⟩
    · simp at hy; subst hy
      exact ⟨(x, u), by simp, rfl⟩
  · intro y v hv
    have h1 := h.sem y v hv
    have hap : ∀ (M : List Nd) (A : List Ed) (s : Nat), hasE M (A ++ [(x, s)]) l y v ↔ hasE M A l y v ∨ (y = x ∧ has M v (l + 1) s) := by
      intro M A s
      unfold hasE
      simp only [List.mem_append, List.mem_singleton, Prod.mk.injEq]
      constructor
      · rintro ⟨t, h | ⟨rfl, rfl⟩, h'⟩
        · exact .inl ⟨t, h, h'⟩
        · exact .inr ⟨rfl, h'⟩
      · rintro (⟨t, h, h'⟩ | ⟨rfl, h'⟩)
        · exact ⟨t, .inl h, h'⟩
        · exact ⟨s, .inr ⟨rfl, rfl⟩, h'⟩
    have hK : hasE N' K l y v ↔ hasE N K l y v := hasE_ext h.wf e (fun z hz => h.hang z (by simp [hz])) y v
    rw [hap] at h1
    rw [hap, hap, ← h1, hK]
    have hs := T.sem v (l + 1) hv (by rw [lev_ext e t3]; omega) (by rw [lev_ext e u3', lev_ext h.ext u3]; omega)
    have : has N' v (l + 1) r ↔ has N v (l + 1) t ∨ has N0 v (l + 1) u := by
      rw [hs, has_ext h.wf e v _ t t3, has_ext h.wf e v _ u u3', has_ext hw0 h.ext v _ u u3]
      unfold opS
      simp
    rw [this]
    constructor
    · rintro (a | ⟨a, b | b⟩)
      · exact .inl (.inl a)
      · exact .inl (.inr ⟨a, b⟩)
      · exact .inr ⟨a, b⟩
    · rintro ((a | ⟨a, b⟩) | ⟨a, b⟩)
      · exact .inl a
      · exact .inr ⟨a, .inl b⟩
      · exact .inr ⟨a, .inr b⟩
  · have := h.nlen
    rw [Nat.add_mul]; omega
  · have := h.es
    rw [Nat.add_mul]; omega

/-! ### the union of two sets -/
/-- What Union lays of a set upon the stack. -/
def sideE (N : List Nd) (l a : Nat) : List Ed := if lev N a = l then edg N a else [(0, a)]
theorem Wf.edg_len {N : List Nd} (h : Wf N) {a : Nat} (ha : a < N.length) : (edg N a).length ≤ 4 := by
  rcases h.lev_term ha with ⟨h1, _⟩ | ⟨h1, _⟩
  · have h2 := h.ok a h1 ha
    have := pigeon ((edg N a).map (·.1)) (List.range 4) (List.pairwise_map.2 (h2.inc.imp (fun h => Nat.ne_of_lt h))) (fun x hx => by
      obtain ⟨e, he, rfl⟩ := List.mem_map.1 hx
      exact List.mem_range.2 (h2.ed e he).1)
    simpa using this
  · have : a = 0 ∨ a = 1 := by omega
    rcases this with rfl | rfl
    · unfold edg; rw [h.t0]; simp
    · unfold edg; rw [h.t1]; simp
structure Side (N : List Nd) (l a : Nat) : Prop where
  hang : Hang N l (sideE N l a)
  inc : Inc (sideE N l a)
  ne : sideE N l a ≠ []
  len : (sideE N l a).length ≤ 4
  sem : ∀ x v, hasE N (sideE N l a) l x v ↔ has N (x :: v) l a
theorem side_of {N : List Nd} (hw : Wf N) {l a : Nat} (ha : a < N.length) (h0 : 0 < a) (hl : l ≤ 2) (hla : l ≤ lev N a) : Side N l a := by
  by_cases h : lev N a = l
  · have hs : sideE N l a = edg N a := if_pos h
    have h2 : 2 ≤ a := by
      rcases hw.lev_term ha with ⟨h1, _⟩ | ⟨_, h1⟩
      · exact h1
      · unfold TT at h1; omega
    have hk := hw.ok a h2 ha
    refine ⟨?_, ?_, ?_, ?_, ?_⟩
    · rw [hs]
      intro e he
      obtain ⟨a1, a2, a3, a4⟩ := hk.ed e he
      exact ⟨a1, a2, by omega, by omega⟩
    · rw [hs]; exact hk.inc
    · rw [hs]; exact hk.ne
    · rw [hs]; exact hw.edg_len ha
    · intro x v
      rw [hs, has_at h]
      exact Iff.rfl
  · have hs : sideE N l a = [(0, a)] := if_neg h
    refine ⟨?_, ?_, ?_, ?_, ?_⟩
    · rw [hs]
      intro e he
      simp at he; subst he
      exact ⟨by simp, h0, ha, by show l < lev N a; omega⟩
    · rw [hs]; simp [Inc]
    · rw [hs]; simp
    · rw [hs]; simp
    · intro x v
      rw [hs, has_skip (by omega)]
      unfold hasE
      constructor
      · rintro ⟨t, ht, h'⟩
        simp at ht
        obtain ⟨rfl, rfl⟩ := ht
        exact ⟨rfl, h'⟩
      · rintro ⟨rfl, h'⟩
        exact ⟨a, by simp, h'⟩
theorem side_thin {N : List Nd} {l a f : Nat} (h0 : 2 ≤ a ∨ lev N a ≠ l) (h : thin N (f + 1) a) : ∃ v t, sideE N l a = [(v, t)] ∧ thin N f t := by
  by_cases hl : lev N a = l
  · rcases h with h | ⟨v, t, h1, h2⟩
    · omega
    · exact ⟨v, t, (if_pos hl).trans h1, h2⟩
  · exact ⟨0, a, if_neg hl, h.pred⟩
/-- What build asks of the edges on the stack. -/
structure BPre (N : List Nd) (l k f : Nat) (E : List Ed) : Prop where
  l2 : l ≤ 2
  f3 : 3 ≤ f + (l + 1)
  hang : Hang N l E
  bd : Bd E k
  kd : E.Pairwise fun x y => x.1 = y.1 → Kd N k f x.2 y.2
  k4 : k = 1 ∨ k = 4
theorem BPre.perm {N : List Nd} {l k f : Nat} {E E' : List Ed} (h : BPre N l k f E) (p : E.Perm E') : BPre N l k f E' := by
  refine ⟨h.l2, h.f3, fun e he => h.hang e (p.mem_iff.2 he), ?_, h.kd.perm p (fun {x y} hxy e => (hxy e.symm).symm), h.k4⟩
  obtain ⟨D, h1, h2, h3⟩ := h.bd
  refine ⟨D, h1, by rw [← p.length_eq]; exact h2, fun x hx => ?_⟩
  obtain ⟨e, he, e1⟩ := h3 x hx
  exact ⟨e, p.mem_iff.1 he, e1⟩
theorem inc_nodup {E : List Ed} (h : Inc E) : (E.map (·.1)).Nodup := List.pairwise_map.2 (h.imp (fun h => Nat.ne_of_lt h))
/-- A union's edges. -/
theorem union_pre {N : List Nd} (hw : Wf N) {a b l k f : Nat} (ha : a < N.length) (hb : b < N.length) (a0 : 0 < a) (b0 : 0 < b) (hne : a ≠ b) (hl : l = min (lev N a) (lev N b)) (hf : 3 ≤ f + 1 + l) (hk : Kd N k (f + 1) a b) :
    BPre N l k f (sideE N l a ++ sideE N l b) ∧ l ≤ 2 := by
  have hl2 : l ≤ 2 := by
    rcases hw.lev_term ha with ⟨_, h1⟩ | ⟨h1, _⟩
    · omega
    · rcases hw.lev_term hb with ⟨_, h2⟩ | ⟨h2, _⟩
      · omega
      · omega
  have A := side_of hw ha a0 hl2 (by omega)
  have B := side_of hw hb b0 hl2 (by omega)
  have hlt : ∀ {x : Nat}, x < N.length → 2 ≤ x ∨ lev N x ≠ l := by
    intro x hx
    rcases hw.lev_term hx with ⟨h1, _⟩ | ⟨_, h1⟩
    · exact .inl h1
    · exact .inr (by unfold TT at h1; omega)
  refine ⟨⟨hl2, by omega, ?_, ?_, ?_, ?_⟩, hl2⟩
  · intro e he
    rcases List.mem_append.1 he with he | he
    · exact A.hang e he
    · exact B.hang e he
  · have key : (sideE N l b).length ≤ k ∨ (sideE N l a).length ≤ k := by
      rcases hk with rfl | ⟨rfl, h | h⟩
      · exact .inl B.len
      · obtain ⟨v, t, h1, _⟩ := side_thin (hlt ha) h
        exact .inr (by rw [h1]; simp)
      · obtain ⟨v, t, h1, _⟩ := side_thin (hlt hb) h
        exact .inl (by rw [h1]; simp)
    rcases key with h | h
    · refine ⟨_, inc_nodup A.inc, by simp; omega, fun x hx => ?_⟩
      obtain ⟨e, he, e1⟩ := List.mem_map.1 hx
      exact ⟨e, by simp [he], e1⟩
    · refine ⟨_, inc_nodup B.inc, by simp; omega, fun x hx => ?_⟩
      obtain ⟨e, he, e1⟩ := List.mem_map.1 hx
      exact ⟨e, by simp [he], e1⟩
  · refine List.pairwise_append.2 ⟨A.inc.imp fun {x y} h e => by omega, B.inc.imp fun {x y} h e => by omega, fun x hx y hy _ => ?_⟩
    rcases hk with rfl | ⟨rfl, h | h⟩
    · exact .inl rfl
    · obtain ⟨v, t, h1, h2⟩ := side_thin (hlt ha) h
      rw [h1] at hx; simp at hx; subst hx
      exact .inr ⟨rfl, .inl h2⟩
    · obtain ⟨v, t, h1, h2⟩ := side_thin (hlt hb) h
      rw [h1] at hy; simp at hy; subst hy
      exact .inr ⟨rfl, .inr h2⟩
  · rcases hk with rfl | ⟨rfl, _⟩
    · exact .inr rfl
    · exact .inl rfl
/-- What build leaves. -/
structure Built (N : List Nd) (l c : Nat) (E : List Ed) (N' : List Nd) (r : Nat) : Prop where
  wf : Wf N'
  ext : N <+: N'
  r_lt : r < N'.length
  lv : l ≤ lev N' r
  pos : E ≠ [] → 0 < r
  sem : ∀ x v, v.length + (l + 1) = 3 → (has N' (x :: v) l r ↔ hasE N E l x v)
  len : N'.length ≤ N.length + c
  es : esum N' ≤ esum N + 4 * c
theorem hang_inc_len {N : List Nd} {l : Nat} {K : List Ed} (h : Hang N l K) (i : Inc K) : K.length ≤ 4 := by
  have := pigeon (K.map (·.1)) (List.range 4) (inc_nodup i) (fun x hx => by
    obtain ⟨e, he, rfl⟩ := List.mem_map.1 hx
    exact List.mem_range.2 (h e he).1)
  simpa using this
theorem MInv.built {N0 N N' : List Nd} {l k c J r : Nat} {E K : List Ed} (h : MInv N0 l k c E K J N) (hl : l ≤ 2) (hJ : J ≤ k) (m : Made N l K N' r) (c' : Nat) (hc : 1 + k * c ≤ c') : Built N0 l c' E N' r := by
  have M := m.ok h.wf hl h.inc h.hang
  have h4 := hang_inc_len h.hang h.inc
  have hJc : J * c ≤ k * c := Nat.mul_le_mul_right c hJ
  have h1 := h.nlen
  have h2 := h.es
  have h3 := M.len
  have h5 := M.es
  refine ⟨M.wf, h.ext.trans M.ext, M.r_lt, M.lv, fun hE => M.pos ?_, fun x v hv => (M.sem x v hv).trans (h.sem x v hv), by omega, by omega⟩
  intro hK
  subst hK
  cases E with
  | nil => exact hE rfl
  | cons e E =>
    obtain ⟨y, hy, _⟩ := h.sub e (by simp)
    simp at hy
theorem union_tru {N N' : List Nd} (hw : Wf N) {a b l c r : Nat} (ha : a < N.length) (hb : b < N.length) (a0 : 0 < a) (b0 : 0 < b) (hl2 : l ≤ 2) (hl : l = min (lev N a) (lev N b)) (B : Built N l c (sideE N l a ++ sideE N l b) N' r) : Tru N' 1 a b r := by
  have SA := side_of hw ha a0 hl2 (by omega)
  have SB := side_of hw hb b0 hl2 (by omega)
  have hll := B.ext.length_le
  have e1 := lev_ext B.ext ha
  have e2 := lev_ext B.ext hb
  have hr := B.lv
  refine ⟨by omega, by omega, B.r_lt, by omega, fun _ _ _ => B.pos (by simp [SA.ne]), ?_⟩
  intro v l0 hv h1 h2
  refine sem_up (L := l) (by omega) (by omega) hr (by omega) ?_ (l - l0) l0 (by omega) v hv
  intro v hv
  cases v with
  | nil => simp at hv; omega
  | cons x v =>
    rw [B.sem x v (by simp at hv; omega), has_ext hw B.ext _ _ a ha, has_ext hw B.ext _ _ b hb, ← SA.sem, ← SB.sem]
    unfold opS hasE
    simp only [List.mem_append]
    constructor
    · rintro ⟨t, h | h, h'⟩
      · exact .inl ⟨by trivial, .inl ⟨t, h, h'⟩⟩
      · exact .inl ⟨by trivial, .inr ⟨t, h, h'⟩⟩
    · rintro (⟨_, ⟨t, h, h'⟩ | ⟨t, h, h'⟩⟩ | ⟨h, _⟩ | ⟨h, _⟩)
      · exact ⟨t, .inl h, h'⟩
      · exact ⟨t, .inr h, h'⟩
      · omega
      · omega
/-- The merge's next join is within the bounds. -/
theorem MInv.may {N0 N : List Nd} {l k c J f x t u : Nat} {P K Q : List Ed} (h : MInv N0 l k c P (K ++ [(x, t)]) J N) (hw0 : Wf N0) (hp : BPre N0 l k f (P ++ (x, u) :: Q)) : J + 1 ≤ k ∧ Kd N k f t u := by
  have h1 := hp.bd.join (K := K ++ [(x, t)]) h.sub ⟨(x, t), by simp, rfl⟩
  have h2 := h.len
  have hJ : J + 1 ≤ k := by omega
  refine ⟨hJ, ?_⟩
  rcases hp.k4 with rfl | rfl
  · have hz := h.zero (by omega)
    have := (List.pairwise_append.1 hp.kd).2.2 (x, t) (by rw [← hz]; simp) (x, u) (by simp) rfl
    have g1 := (hp.hang (x, t) (by rw [← hz]; simp)).2.2.1
    have g2 := (hp.hang (x, u) (by simp)).2.2.1
    exact this.ext hw0 h.ext g1 g2
  · exact .inl rfl
end Go.Proofs.Ybulkakra

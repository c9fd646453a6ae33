/-
  THE STORE of seat b1820a: what memory holds of it, part by part.
-/
import Derived.Test.YbulkakraPut
namespace Go.Proofs.Ybulkakra
open Go.RowKit
set_option linter.unusedSimpArgs false
set_option linter.unusedVariables false

def eoff (N : List Nd) (i : Nat) : Nat := esum (N.take i)
theorem eoff_snoc {N : List Nd} {n : Nd} {i : Nat} (h : i ≤ N.length) : eoff (N ++ [n]) i = eoff N i := by
  unfold eoff
  rw [List.take_append_of_le_length h]
theorem eoff_last (N : List Nd) (n : Nd) : eoff (N ++ [n]) N.length = esum N := by
  unfold eoff
  rw [List.take_append_of_le_length (Nat.le_refl _), List.take_length]
theorem esum_take_succ (N : List Nd) (i : Nat) (h : i < N.length) : eoff N (i + 1) = eoff N i + (edg N i).length := by
  have e : N.take (i + 1) = N.take i ++ [N[i]] := by rw [List.take_add_one, List.getElem?_eq_getElem h]; rfl
  unfold eoff
  rw [e, esum_snoc]
  unfold edg nd
  simp [List.getElem?_eq_getElem h]
theorem esum_mono (N : List Nd) : ∀ (k i : Nat), i ≤ k → eoff N i ≤ eoff N k
  | 0, i, h => by have : i = 0 := by omega
                  subst this; exact Nat.le_refl _
  | k + 1, i, h => by
    rcases Nat.lt_or_ge i (k + 1) with h0 | h0
    · have h1 := esum_mono N k i (by omega)
      rcases Nat.lt_or_ge k N.length with h2 | h2
      · have := esum_take_succ N k h2; omega
      · unfold eoff at h1 ⊢
        rw [List.take_of_length_le (by omega : N.length ≤ k + 1)]
        rw [List.take_of_length_le h2] at h1
        exact h1
    · have : i = k + 1 := by omega
      subst this; exact Nat.le_refl _
theorem eoff_bound (N : List Nd) {i : Nat} (h : i < N.length) : eoff N i + (edg N i).length ≤ esum N := by
  have h1 := esum_take_succ N i h
  have h2 := esum_mono N N.length (i + 1) (by omega)
  have h3 : eoff N N.length = esum N := by unfold eoff; rw [List.take_length]
  omega
theorem nd_lt_snoc {N : List Nd} {n : Nd} {i : Nat} (h : i < N.length) : nd (N ++ [n]) i = nd N i := nd_ext (List.prefix_append _ _) h
theorem lev_snoc {N : List Nd} {n : Nd} {i : Nat} (h : i < N.length) : lev (N ++ [n]) i = lev N i := lev_ext (List.prefix_append _ _) h
theorem edg_snoc {N : List Nd} {n : Nd} {i : Nat} (h : i < N.length) : edg (N ++ [n]) i = edg N i := edg_ext (List.prefix_append _ _) h
theorem lev_last (N : List Nd) (n : Nd) : lev (N ++ [n]) N.length = n.1 := by unfold lev; rw [nd_snoc]
theorem edg_last (N : List Nd) (n : Nd) : edg (N ++ [n]) N.length = n.2 := by unfold edg; rw [nd_snoc]

/-- The nodes in memory. -/
structure NodesV (tg : Nat → Nat) (w : World) (C : Nat → Value) (N : List Nd) (nO nC c0 : Nat) (g h : Nat → Value) : Prop where
  c : C 0 = .slice (some ⟨nO, 0, none⟩) 1 c0
  c1 : C 1 = .int .i64 (N.length : Int)
  one : 1 ≤ c0
  ro : Row w nO c0 g
  g0 : g 0 = .slice (some ⟨nC, 0, none⟩) N.length 65536
  rc : Row w nC (65536 * 3) h
  tO : tg nO = 5
  tc : tg nC = 4
  val : ∀ i, i < N.length → h (i * 3) = .int .u32 (lev N i : Int) ∧ h (i * 3 + 1) = .int .u32 (eoff N i : Int) ∧ h (i * 3 + 2) = .int .u32 ((edg N i).length : Int)
def NodesOk (tg : Nat → Nat) (w : World) (C : Nat → Value) (N : List Nd) : Prop := ∃ nO nC c0 g h, NodesV tg w C N nO nC c0 g h
/-- The edges in memory. -/
structure EdgesV (tg : Nat → Nat) (w : World) (C : Nat → Value) (N : List Nd) (eO eC c1 : Nat) (g h : Nat → Value) : Prop where
  c : C 2 = .slice (some ⟨eO, 0, none⟩) 1 c1
  one : 1 ≤ c1
  ro : Row w eO c1 g
  g0 : g 0 = .slice (some ⟨eC, 0, none⟩) (esum N) 65536
  rc : Row w eC (65536 * 2) h
  tO : tg eO = 7
  tc : tg eC = 6
  val : ∀ i, i < N.length → ∀ j, j < (edg N i).length → h ((eoff N i + j) * 2) = .int .u32 (vE (edg N i) j : Int) ∧ h ((eoff N i + j) * 2 + 1) = .int .u32 (tE (edg N i) j : Int)
def EdgesOk (tg : Nat → Nat) (w : World) (C : Nat → Value) (N : List Nd) : Prop := (esum N = 0 ∧ C 2 = .slice none 0 0) ∨ ∃ eO eC c1 g h, EdgesV tg w C N eO eC c1 g h
theorem NodesV.fr {R : Nat → Prop} {tg tg' : Nat → Nat} {w w' : World} {C C' : Nat → Value} {N : List Nd} {nO nC c0 : Nat} {g h : Nat → Value} (v : NodesV tg w C N nO nC c0 g h) (k : Fr R tg w tg' w') (r4 : ¬ R 4) (r5 : ¬ R 5) (e0 : C' 0 = C 0) (e1 : C' 1 = C 1) : NodesV tg' w' C' N nO nC c0 g h := by
  have l1 := v.ro.lt v.one
  have l2 := v.rc.lt (by omega)
  exact ⟨e0.trans v.c, e1.trans v.c1, v.one, v.ro.fr k l1 (by rw [v.tO]; exact r5), v.g0, v.rc.fr k l2 (by rw [v.tc]; exact r4), (k.tag _ l1).trans v.tO, (k.tag _ l2).trans v.tc, v.val⟩
theorem EdgesV.fr {R : Nat → Prop} {tg tg' : Nat → Nat} {w w' : World} {C C' : Nat → Value} {N : List Nd} {eO eC c1 : Nat} {g h : Nat → Value} (v : EdgesV tg w C N eO eC c1 g h) (k : Fr R tg w tg' w') (r6 : ¬ R 6) (r7 : ¬ R 7) (e2 : C' 2 = C 2) : EdgesV tg' w' C' N eO eC c1 g h := by
  have l1 := v.ro.lt v.one
  have l2 := v.rc.lt (by omega)
  exact ⟨e2.trans v.c, v.one, v.ro.fr k l1 (by rw [v.tO]; exact r7), v.g0, v.rc.fr k l2 (by rw [v.tc]; exact r6), (k.tag _ l1).trans v.tO, (k.tag _ l2).trans v.tc, v.val⟩
theorem NodesOk.fr {R : Nat → Prop} {tg tg' : Nat → Nat} {w w' : World} {C C' : Nat → Value} {N : List Nd} (v : NodesOk tg w C N) (k : Fr R tg w tg' w') (r4 : ¬ R 4) (r5 : ¬ R 5) (e0 : C' 0 = C 0) (e1 : C' 1 = C 1) : NodesOk tg' w' C' N := by
  obtain ⟨nO, nC, c0, g, h, v⟩ := v
  exact ⟨nO, nC, c0, g, h, v.fr k r4 r5 e0 e1⟩
theorem EdgesOk.fr {R : Nat → Prop} {tg tg' : Nat → Nat} {w w' : World} {C C' : Nat → Value} {N : List Nd} (v : EdgesOk tg w C N) (k : Fr R tg w tg' w') (r6 : ¬ R 6) (r7 : ¬ R 7) (e2 : C' 2 = C 2) : EdgesOk tg' w' C' N := by
  rcases v with ⟨h1, h2⟩ | ⟨eO, eC, c1, g, h, v⟩
  · exact .inl ⟨h1, e2.trans h2⟩
  · exact .inr ⟨eO, eC, c1, g, h, v.fr k r6 r7 e2⟩
/-- The hash of node i. -/
def hN (N : List Nd) (i : Nat) : Nat := hashN (lev N i) (edg N i)
/-- One part of the unique table in memory. -/
structure PartV (tg : Nat → Nat) (w : World) (C : Nat → Value) (N : List Nd) (j sb L c : Nat) (s : Nat → Slot) : Prop where
  c0 : C (3 + j * 2) = .slice (some ⟨sb, 0, none⟩) L L
  c1 : C (3 + j * 2 + 1) = .int .i64 (c : Int)
  row : Row w sb (L * 2) (slF s)
  t : tg sb = 10 + j
  tab : Tab L s c
  full : 4 * c ≤ 3 * L
  small : L ≤ 4 + 4 * c
  cle : c ≤ N.length
  sound : ∀ k, k < L → (s k).2 ≠ 0 → 2 ≤ (s k).2 ∧ (s k).2 < N.length ∧ (s k).1 = hN N (s k).2
  complete : ∀ i, 2 ≤ i → i < N.length → hN N i % 256 = j → Holds L s (hN N i) i
def PartsOk (tg : Nat → Nat) (w : World) (C : Nat → Value) (N : List Nd) : Prop := ∀ j, j < 256 → ∃ sb L c s, PartV tg w C N j sb L c s
theorem PartV.fr {R : Nat → Prop} {tg tg' : Nat → Nat} {w w' : World} {C C' : Nat → Value} {N : List Nd} {j sb L c : Nat} {s : Nat → Slot} (v : PartV tg w C N j sb L c s) (k : Fr R tg w tg' w') (hr : ¬ R (10 + j)) (e0 : C' (3 + j * 2) = C (3 + j * 2)) (e1 : C' (3 + j * 2 + 1) = C (3 + j * 2 + 1)) : PartV tg' w' C' N j sb L c s := by
  have h4 := v.tab.four
  have l1 := v.row.lt (by omega)
  exact ⟨e0.trans v.c0, e1.trans v.c1, v.row.fr k l1 (by rw [v.t]; exact hr), (k.tag _ l1).trans v.t, v.tab, v.full, v.small, v.cle, v.sound, v.complete⟩
theorem PartsOk.fr {R : Nat → Prop} {tg tg' : Nat → Nat} {w w' : World} {C C' : Nat → Value} {N : List Nd} (v : PartsOk tg w C N) (k : Fr R tg w tg' w') (hr : ∀ r, 10 ≤ r → ¬ R r) (e : ∀ i, 3 ≤ i → i < 515 → C' i = C i) : PartsOk tg' w' C' N := fun j hj => by
  obtain ⟨sb, L, c, s, v⟩ := v j hj
  exact ⟨sb, L, c, s, v.fr k (hr _ (by omega)) (e _ (by omega) (by omega)) (e _ (by omega) (by omega))⟩
/-- The cache in memory. -/
structure CacheV (tg : Nat → Nat) (w : World) (C : Nat → Value) (N : List Nd) (cb : Nat) (f : Nat → Value) : Prop where
  c : C 1030 = .slice (some ⟨cb, 0, none⟩) 65536 65536
  row : Row w cb (65536 * 4) f
  t : tg cb = 2
  val : ∀ k, k < 65536 → ∃ op a b r : Nat, f (k * 4) = .int .u32 (op : Int) ∧ f (k * 4 + 1) = .int .u32 (a : Int) ∧ f (k * 4 + 2) = .int .u32 (b : Int) ∧ f (k * 4 + 3) = .int .u32 (r : Int) ∧ op < 4294967296 ∧ a < 4294967296 ∧ b < 4294967296 ∧ r < 4294967296 ∧ (op = 0 ∨ Tru N op a b r)
def CacheOk (tg : Nat → Nat) (w : World) (C : Nat → Value) (N : List Nd) : Prop := ∃ cb f, CacheV tg w C N cb f
theorem CacheV.fr {R : Nat → Prop} {tg tg' : Nat → Nat} {w w' : World} {C C' : Nat → Value} {N : List Nd} {cb : Nat} {f : Nat → Value} (v : CacheV tg w C N cb f) (k : Fr R tg w tg' w') (r2 : ¬ R 2) (e : C' 1030 = C 1030) : CacheV tg' w' C' N cb f := by
  have l1 := v.row.lt (by omega)
  exact ⟨e.trans v.c, v.row.fr k l1 (by rw [v.t]; exact r2), (k.tag _ l1).trans v.t, v.val⟩
theorem CacheV.ext {tg : Nat → Nat} {w : World} {C : Nat → Value} {N N' : List Nd} {cb : Nat} {f : Nat → Value} (v : CacheV tg w C N cb f) (hw : Wk N) (e : N <+: N') : CacheV tg w C N' cb f :=
  ⟨v.c, v.row, v.t, fun k hk => by
    obtain ⟨op, a, b, r, h1, h2, h3, h4, h5, h6, h7, h8, h9⟩ := v.val k hk
    exact ⟨op, a, b, r, h1, h2, h3, h4, h5, h6, h7, h8, h9.imp id fun h => h.extW hw e⟩⟩
/-- The cells of a list of edges. -/
def edF (S : List Ed) : Nat → Value := fun i => .int .u32 ((if i % 2 = 0 then vE S (i / 2) else tE S (i / 2) : Nat) : Int)
theorem edF_0 (S : List Ed) (j : Nat) : edF S (j * 2) = .int .u32 (vE S j : Int) := by
  unfold edF
  rw [if_pos (by omega), show j * 2 / 2 = j by omega]
theorem edF_1 (S : List Ed) (j : Nat) : edF S (j * 2 + 1) = .int .u32 (tE S j : Int) := by
  unfold edF
  rw [if_neg (by omega), show (j * 2 + 1) / 2 = j by omega]
/-- The stack in memory. -/
def StackOk (tg : Nat → Nat) (w : World) (C : Nat → Value) (S : List Ed) : Prop := ∃ cap f, Sl tg w 3 2 (C 1031) S.length cap f ∧ ∀ i, i < S.length * 2 → f i = edF S i
theorem StackOk.fr {R : Nat → Prop} {tg tg' : Nat → Nat} {w w' : World} {C C' : Nat → Value} {S : List Ed} (v : StackOk tg w C S) (k : Fr R tg w tg' w') (r3 : ¬ R 3) (e : C' 1031 = C 1031) : StackOk tg' w' C' S := by
  obtain ⟨cap, f, h1, h2⟩ := v
  exact ⟨cap, f, by rw [e]; exact h1.fr k r3, h2⟩
/-- The edges' only chunk lies in block e. -/
def ChunkAt (tg : Nat → Nat) (w : World) (C : Nat → Value) (e : Nat) : Prop := ∃ eO c1 n, C 2 = .slice (some ⟨eO, 0, none⟩) 1 c1 ∧ tg eO = 7 ∧ w.cell? ⟨eO, 0, none⟩ = some (.slice (some ⟨e, 0, none⟩) n 65536)
theorem ChunkAt.fr {R : Nat → Prop} {tg tg' : Nat → Nat} {w w' : World} {C C' : Nat → Value} {e : Nat} (h : ChunkAt tg w C e) (k : Fr R tg w tg' w') (r7 : ¬ R 7) (e2 : C' 2 = C 2) : ChunkAt tg' w' C' e := by
  obtain ⟨eO, c1, n, h1, h2, h3⟩ := h
  have l := World.block_lt_of_cell? _ _ h3
  exact ⟨eO, c1, n, e2.trans h1, (k.tag _ l).trans h2, (k.cell l (by rw [h2]; exact r7)).trans h3⟩
/-- Block d + 1's tag may name the edges' chunk. -/
def Pin (tg : Nat → Nat) (w : World) (d : Nat) (C : Nat → Value) : Prop := d + 1 < w.heap.size ∧ ∀ e, tg (d + 1) = 1000 + e → ChunkAt tg w C e
theorem Pin.fr {R : Nat → Prop} {tg tg' : Nat → Nat} {w w' : World} {d : Nat} {C C' : Nat → Value} (h : Pin tg w d C) (k : Fr R tg w tg' w') (r7 : ¬ R 7) (e2 : C' 2 = C 2) : Pin tg' w' d C' :=
  ⟨Nat.lt_of_lt_of_le h.1 k.size, fun e he => (h.2 e (by rw [← k.tag _ h.1]; exact he)).fr k r7 e2⟩
/-- The store in memory. -/
structure StC (tg : Nat → Nat) (w : World) (d : Nat) (C : Nat → Value) (N : List Nd) (S : List Ed) : Prop where
  row : Row w d 1035 C
  t : tg d = 1
  nodes : NodesOk tg w C N
  edges : EdgesOk tg w C N
  parts : PartsOk tg w C N
  cache : CacheOk tg w C N
  stack : StackOk tg w C S
  stop : C 1033 = .chan none
  work : ∃ x, C 1034 = .int .u64 x
  cat : C 1030 = .slice (some ⟨d - 1, 0, none⟩) 65536 65536
  pin : Pin tg w d C
def St (tg : Nat → Nat) (w : World) (d : Nat) (N : List Nd) (S : List Ed) : Prop := ∃ C, StC tg w d C N S
theorem StC.fr {R : Nat → Prop} {tg tg' : Nat → Nat} {w w' : World} {d : Nat} {C : Nat → Value} {N : List Nd} {S : List Ed} (v : StC tg w d C N S) (k : Fr R tg w tg' w') (hr : ∀ r, 1 ≤ r → ¬ R r) : StC tg' w' d C N S := by
  have l := v.row.lt (by omega)
  exact ⟨v.row.fr k l (by rw [v.t]; exact hr 1 (by omega)), (k.tag _ l).trans v.t, v.nodes.fr k (hr _ (by omega)) (hr _ (by omega)) rfl rfl, v.edges.fr k (hr _ (by omega)) (hr _ (by omega)) rfl, v.parts.fr k (fun r h => hr r (by omega)) (fun _ _ _ => rfl), by
    obtain ⟨cb, f, c⟩ := v.cache
    exact ⟨cb, f, c.fr k (hr _ (by omega)) rfl⟩, v.stack.fr k (hr _ (by omega)) rfl, v.stop, v.work, v.cat, v.pin.fr k (hr _ (by omega)) rfl⟩
theorem StC.jk {tg : Nat → Nat} {w w' : World} {d : Nat} {C : Nat → Value} {N : List Nd} {S : List Ed} (v : StC tg w d C N S) (k : Jk w w') : StC tg w' d C N S := v.fr (k.fr (fun _ => False) tg) (fun _ _ h => h)
end Go.Proofs.Ybulkakra

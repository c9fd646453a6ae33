/-
  THE MEMORY of seat b1827a's refresh law, at its start; what a round of the first loop does to what the blocks hold.
-/
import Derived.Test.YbulkakuuRefMem
namespace Go.Proofs.Ybulkakuu.Ref
open Go.RowKit

/-- The blocks of a list, laid one behind the other. -/
def lay (w : World) : List Obj → World
  | [] => w
  | o :: l => lay (w.alloc o) l

theorem lay_size : ∀ (l : List Obj) (w : World), (lay w l).heap.size = w.heap.size + l.length
  | [], w => rfl
  | o :: l, w => by rw [lay, lay_size l, World.size_alloc, List.length_cons]; omega
theorem lay_old : ∀ (l : List Obj) (w : World) (k : Nat), k < w.heap.size → (lay w l).heap[k]? = w.heap[k]?
  | [], _, _, _ => rfl
  | o :: l, w, k, hk => by rw [lay, lay_old l _ k (by rw [World.size_alloc]; omega), Below.heap_alloc _ _ _ hk]
theorem lay_new : ∀ (l : List Obj) (w : World) (j : Nat), (lay w l).heap[w.heap.size + j]? = l[j]?
  | [], w, j => by rw [lay]; simp
  | o :: l, w, 0 => by
    rw [lay, lay_old l _ _ (by rw [World.size_alloc]; omega)]
    exact heap_alloc_new _ _
  | o :: l, w, j + 1 => by
    have h := lay_new l (w.alloc o) j
    rw [World.size_alloc] at h
    rw [lay, show w.heap.size + (j + 1) = w.heap.size + 1 + j from by omega, h]
    simp
theorem lay_below (l : List Obj) (w : World) (B : Nat) (hB : B ≤ w.heap.size) : Below B w (lay w l) := by
  have hs := lay_size l w
  refine ⟨?_, ?_, ?_, by omega, fun k hk => lay_old l w k (by omega)⟩
  all_goals
    clear hs hB
    induction l generalizing w with
    | nil => rfl
    | cons o l ih => rw [lay, ih]; rfl

/-- Blocks of plain cells, by their contents and types. -/
def cellsOf (cs : List (Array Value)) (ts : List TypeId) : List Obj := List.zipWith (fun c t => .cells c t) cs ts

def cont (cs : List (Array Value)) (j i : Nat) : Value := ((cs[j]?.getD #[])[i]?).getD undef
def lens (cs : List (Array Value)) (j : Nat) : Nat := (cs[j]?.getD #[]).size
def typs (ts : List TypeId) (j : Nat) : Nat := ts[j]?.getD 0

theorem blk_lay (w : World) (cs : List (Array Value)) (ts : List TypeId) (h1 : cs.length = 13) (h2 : ts.length = 13) : Blk (lay w (cellsOf cs ts)) w.heap.size (typs ts) (lens cs) (cont cs) := by
  intro j hj
  have hc : cs[j]? = some cs[j] := List.getElem?_eq_getElem (by omega)
  have ht : ts[j]? = some ts[j] := List.getElem?_eq_getElem (by omega)
  refine ⟨cs[j], ?_, ?_, fun i hi => ?_⟩
  · rw [lay_new, cellsOf, List.getElem?_zipWith, hc, ht]
    simp [typs, ht]
  · simp [lens, hc]
  · simp only [lens, hc, Option.getD_some] at hi
    simp only [cont, hc, Option.getD_some]
    rw [Array.getElem?_eq_getElem hi]
    rfl

theorem made_get {v : Value} {n i : Nat} (hi : i < n) : ((madeCells #[v] n)[i]?).getD undef = v := by simp [madeCells, hi, Nat.mod_one]

theorem cont_at {cs : List (Array Value)} {j : Nat} {c : Array Value} (h : cs[j]? = some c) (i : Nat) : cont cs j i = (c[i]?).getD undef := by simp [cont, h]
theorem lens_at {cs : List (Array Value)} {j : Nat} {c : Array Value} (h : cs[j]? = some c) : lens cs j = c.size := by simp [lens, h]

/-- Bit j of element u. -/
def bit (zs : List Int) (j u : Nat) : Bool := (zs[u]?.getD 0).toNat.testBit j
/-- Up to k alone. -/
def upTo (k : Nat) (P : Nat → Bool) (u : Nat) : Bool := decide (u < k) && P u
def locK (n k u : Nat) : Int := if u < k then ((n - 1 - u : Nat) : Int) else 0

theorem upTo_self (k : Nat) (P : Nat → Bool) : upTo (k + 1) P k = P k := by simp [upTo]
theorem upTo_other (k : Nat) (P : Nat → Bool) {u : Nat} (h : u ≠ k) : upTo (k + 1) P u = upTo k P u := by
  have : (u < k + 1) ↔ (u < k) := by omega
  simp [upTo, this]
theorem upTo_ins (k : Nat) (P : Nat → Bool) (h : P k = true) : upTo (k + 1) P = ins (upTo k P) k := by
  funext u
  unfold ins
  split
  · subst u; rw [upTo_self, h]
  · rename_i h'; exact upTo_other k P h'
theorem upTo_not (k : Nat) (P : Nat → Bool) (h : P k = false) : upTo (k + 1) P = upTo k P := by
  funext u
  by_cases e : u = k
  · subst e; rw [upTo_self, h]; simp [upTo]
  · exact upTo_other k P e
theorem wd_upTo_zero (P : Nat → Bool) (j : Nat) : wd (upTo 0 P) j = 0 := by
  by_cases h : wd (upTo 0 P) j = 0
  · exact h
  · obtain ⟨b, _, hb⟩ := (wd_ne_zero _ j).1 h
    simp [upTo] at hb

/-- The contents at the first loop's head. -/
theorem con_start (n N : Nat) (r q f : SetAt) (P0 Z ps : Array Value) (zs : List Int) (hp : P0 = #[.slice none 0 0, .int .i64 0, .slice none 0 0, .int .u64 0, .int .i64 0, r.sl n, q.sl n, f.sl n])
    (hZ : 42 ≤ Z.size) (z39 : Z[39]? = some (.slice (some ⟨N + 2, 0, none⟩) 1 1)) (z40 : Z[40]? = some (.slice (some ⟨N + 3, 0, none⟩) n n)) (z41 : Z[41]? = some (.slice (some ⟨N + 4, 0, none⟩) n n))
    (z28 : Z[28]? = some (.slice (some ⟨N + 5, 0, none⟩) (wds n) (wds n))) (z34 : Z[34]? = some (.slice (some ⟨N + 6, 0, none⟩) n n)) (z35 : Z[35]? = some (.slice (some ⟨N + 7, 0, none⟩) n n))
    (z7 : Z[7]? = some (.slice (some ⟨N + 8, 0, none⟩) n n)) (z8 : Z[8]? = some (.slice (some ⟨N + 9, 0, none⟩) n n)) (hps : ps = #[.pointer (some ⟨N, 0, none⟩)])
    (cs : List (Array Value)) (hcs : cs = [P0, Z, ps, madeCells #[.int .i64 0] n, madeCells #[.int .i64 0] n, madeCells #[.int .u64 0] (wds n), madeCells #[.int .i64 0] n, madeCells #[.bool false] n, madeCells #[.bool false] n, madeCells #[.bool false] n, madeCells #[.bool false] n, madeCells #[.bool false] n, madeCells #[.bool false] n]) :
    Con n N r q f (lens cs) (cont cs) (locK n 0) (upTo 0 (bit zs 0)) (upTo 0 (bit zs 1)) (upTo 0 (bit zs 2)) (upTo 0 (bit zs 3)) (upTo 0 (bit zs 4)) (fun _ => false) (fun _ => false) (fun _ => false) := by
  have hu : ∀ j u, upTo 0 (bit zs j) u = false := fun j u => by simp [upTo]
  have g0 : cs[0]? = some (P0) := by rw [hcs]; rfl
  have g1 : cs[1]? = some (Z) := by rw [hcs]; rfl
  have g2 : cs[2]? = some (ps) := by rw [hcs]; rfl
  have g3 : cs[3]? = some (madeCells #[.int .i64 0] n) := by rw [hcs]; rfl
  have g4 : cs[4]? = some (madeCells #[.int .i64 0] n) := by rw [hcs]; rfl
  have g5 : cs[5]? = some (madeCells #[.int .u64 0] (wds n)) := by rw [hcs]; rfl
  have g6 : cs[6]? = some (madeCells #[.int .i64 0] n) := by rw [hcs]; rfl
  have g7 : cs[7]? = some (madeCells #[.bool false] n) := by rw [hcs]; rfl
  have g8 : cs[8]? = some (madeCells #[.bool false] n) := by rw [hcs]; rfl
  have g9 : cs[9]? = some (madeCells #[.bool false] n) := by rw [hcs]; rfl
  have g10 : cs[10]? = some (madeCells #[.bool false] n) := by rw [hcs]; rfl
  have g11 : cs[11]? = some (madeCells #[.bool false] n) := by rw [hcs]; rfl
  have g12 : cs[12]? = some (madeCells #[.bool false] n) := by rw [hcs]; rfl
  clear hcs
  refine ⟨?_, ?_, ?_, ?_, ?_, ?_, ?_, ?_, ?_, ?_, ?_, ?_, ?_, ?_, ?_, ?_, ?_, ?_, ?_, ?_, ?_, ?_, ?_, ?_, ?_, ?_, ?_, ?_, ?_, ?_, ?_, ?_, ?_, ?_, ?_⟩
  · rw [lens_at g0, hp]; simp
  · rw [lens_at g1]; exact hZ
  · rw [lens_at g2, hps]; rfl
  · rw [lens_at g3, size_madeCells]
  · rw [lens_at g4, size_madeCells]
  · rw [lens_at g5, size_madeCells]
  · rw [lens_at g6, size_madeCells]
  · rw [lens_at g7, size_madeCells]
  · rw [lens_at g8, size_madeCells]
  · rw [lens_at g9, size_madeCells]
  · rw [lens_at g10, size_madeCells]
  · rw [lens_at g11, size_madeCells]
  · rw [lens_at g12, size_madeCells]
  · rw [cont_at g0, hp]; rfl
  · rw [cont_at g0, hp]; rfl
  · rw [cont_at g0, hp]; rfl
  · rw [cont_at g1, z39]; rfl
  · rw [cont_at g1, z40]; rfl
  · rw [cont_at g1, z41]; rfl
  · rw [cont_at g1, z28]; rfl
  · rw [cont_at g1, z34]; rfl
  · rw [cont_at g1, z35]; rfl
  · rw [cont_at g1, z7]; rfl
  · rw [cont_at g1, z8]; rfl
  · rw [cont_at g2, hps]; rfl
  · intro u h; rw [cont_at g3, made_get h]
  · intro u h; rw [cont_at g4, made_get h]; simp [locK]
  · intro u h; rw [cont_at g5, made_get h, wd_upTo_zero]; rfl
  · intro u h; rw [cont_at g6, made_get h, hu]; rfl
  · intro u h; rw [cont_at g7, made_get h, hu]
  · intro u h; rw [cont_at g8, made_get h, hu]
  · intro u h; rw [cont_at g9, made_get h, hu]
  · intro u h; rw [cont_at g10, made_get h]
  · intro u h; rw [cont_at g11, made_get h]
  · intro u h; rw [cont_at g12, made_get h]
section
variable {n N : Nat} {r q f : SetAt} {ln : Nat → Nat} {C : Nat → Nat → Value} {loc : Nat → Int} {P U K Q F R RQ RF : Nat → Bool} {k : Nat}

theorem Con.stepLoc (h : Con n N r q f ln C (locK n k) P U K Q F R RQ RF) {x : Int} (hk : k < n) (hx : x = ((n - 1 - k : Nat) : Int)) : Con n N r q f ln (upd C 4 k (.int .i64 x)) (locK n (k + 1)) P U K Q F R RQ RF := by
  refine ⟨h.l0, h.l1, h.l2, h.l3, h.l4, h.l5, h.l6, h.l7, h.l8, h.l9, h.l10, h.l11, h.l12, ?_, ?_, ?_, ?_, ?_, ?_, ?_, ?_, ?_, ?_, ?_, ?_, ?_, ?_, ?_, ?_, ?_, ?_, ?_, ?_, ?_, ?_⟩
  · rw [upd_block _ _ _ _ (by decide)]; exact h.p5
  · rw [upd_block _ _ _ _ (by decide)]; exact h.p6
  · rw [upd_block _ _ _ _ (by decide)]; exact h.p7
  · rw [upd_block _ _ _ _ (by decide)]; exact h.s39
  · rw [upd_block _ _ _ _ (by decide)]; exact h.s40
  · rw [upd_block _ _ _ _ (by decide)]; exact h.s41
  · rw [upd_block _ _ _ _ (by decide)]; exact h.s28
  · rw [upd_block _ _ _ _ (by decide)]; exact h.s34
  · rw [upd_block _ _ _ _ (by decide)]; exact h.s35
  · rw [upd_block _ _ _ _ (by decide)]; exact h.s7
  · rw [upd_block _ _ _ _ (by decide)]; exact h.s8
  · rw [upd_block _ _ _ _ (by decide)]; exact h.c2
  · intro u hu; rw [upd_block _ _ _ _ (by decide)]; exact h.c3 u hu
  · intro u hu
    by_cases e : u = k
    · subst e; rw [upd_same, hx]; simp [locK]
    · rw [upd_cell _ _ _ e, h.c4 u hu]
      have : (u < k + 1) ↔ (u < k) := by omega
      simp [locK, this]
  · intro u hu; rw [upd_block _ _ _ _ (by decide)]; exact h.c5 u hu
  · intro u hu; rw [upd_block _ _ _ _ (by decide)]; exact h.c6 u hu
  · intro u hu; rw [upd_block _ _ _ _ (by decide)]; exact h.c7 u hu
  · intro u hu; rw [upd_block _ _ _ _ (by decide)]; exact h.c8 u hu
  · intro u hu; rw [upd_block _ _ _ _ (by decide)]; exact h.c9 u hu
  · intro u hu; rw [upd_block _ _ _ _ (by decide)]; exact h.c10 u hu
  · intro u hu; rw [upd_block _ _ _ _ (by decide)]; exact h.c11 u hu
  · intro u hu; rw [upd_block _ _ _ _ (by decide)]; exact h.c12 u hu

theorem Con.stepPla (h : Con n N r q f ln C loc (upTo k P) U K Q F R RQ RF) {x : Int} (hP : P k = true) (hx : x = ((wd (ins (upTo k P) k) (k / 64) : Nat) : Int)) : Con n N r q f ln (upd C 5 (k / 64) (.int .u64 x)) loc (upTo (k + 1) P) U K Q F R RQ RF := by
  refine ⟨h.l0, h.l1, h.l2, h.l3, h.l4, h.l5, h.l6, h.l7, h.l8, h.l9, h.l10, h.l11, h.l12, ?_, ?_, ?_, ?_, ?_, ?_, ?_, ?_, ?_, ?_, ?_, ?_, ?_, ?_, ?_, ?_, ?_, ?_, ?_, ?_, ?_, ?_⟩
  · rw [upd_block _ _ _ _ (by decide)]; exact h.p5
  · rw [upd_block _ _ _ _ (by decide)]; exact h.p6
  · rw [upd_block _ _ _ _ (by decide)]; exact h.p7
  · rw [upd_block _ _ _ _ (by decide)]; exact h.s39
  · rw [upd_block _ _ _ _ (by decide)]; exact h.s40
  · rw [upd_block _ _ _ _ (by decide)]; exact h.s41
  · rw [upd_block _ _ _ _ (by decide)]; exact h.s28
  · rw [upd_block _ _ _ _ (by decide)]; exact h.s34
  · rw [upd_block _ _ _ _ (by decide)]; exact h.s35
  · rw [upd_block _ _ _ _ (by decide)]; exact h.s7
  · rw [upd_block _ _ _ _ (by decide)]; exact h.s8
  · rw [upd_block _ _ _ _ (by decide)]; exact h.c2
  · intro u hu; rw [upd_block _ _ _ _ (by decide)]; exact h.c3 u hu
  · intro u hu; rw [upd_block _ _ _ _ (by decide)]; exact h.c4 u hu
  · intro u hu
    rw [upTo_ins k P hP]
    by_cases e : u = k / 64
    · subst e; rw [upd_same, hx]
    · rw [upd_cell _ _ _ e, h.c5 u hu, wd_ins_other _ e]
  · intro u hu; rw [upd_block _ _ _ _ (by decide)]; exact h.c6 u hu
  · intro u hu; rw [upd_block _ _ _ _ (by decide)]; exact h.c7 u hu
  · intro u hu; rw [upd_block _ _ _ _ (by decide)]; exact h.c8 u hu
  · intro u hu; rw [upd_block _ _ _ _ (by decide)]; exact h.c9 u hu
  · intro u hu; rw [upd_block _ _ _ _ (by decide)]; exact h.c10 u hu
  · intro u hu; rw [upd_block _ _ _ _ (by decide)]; exact h.c11 u hu
  · intro u hu; rw [upd_block _ _ _ _ (by decide)]; exact h.c12 u hu

theorem Con.stepPlaNot (h : Con n N r q f ln C loc (upTo k P) U K Q F R RQ RF) (hP : P k = false) : Con n N r q f ln C loc (upTo (k + 1) P) U K Q F R RQ RF := by
  rw [upTo_not k P hP]; exact h

theorem Con.stepUnm (h : Con n N r q f ln C loc P (upTo k U) K Q F R RQ RF) {x : Int} (hx : x = if U k then 1 else 0) : Con n N r q f ln (upd C 6 k (.int .i64 x)) loc P (upTo (k + 1) U) K Q F R RQ RF := by
  refine ⟨h.l0, h.l1, h.l2, h.l3, h.l4, h.l5, h.l6, h.l7, h.l8, h.l9, h.l10, h.l11, h.l12, ?_, ?_, ?_, ?_, ?_, ?_, ?_, ?_, ?_, ?_, ?_, ?_, ?_, ?_, ?_, ?_, ?_, ?_, ?_, ?_, ?_, ?_⟩
  · rw [upd_block _ _ _ _ (by decide)]; exact h.p5
  · rw [upd_block _ _ _ _ (by decide)]; exact h.p6
  · rw [upd_block _ _ _ _ (by decide)]; exact h.p7
  · rw [upd_block _ _ _ _ (by decide)]; exact h.s39
  · rw [upd_block _ _ _ _ (by decide)]; exact h.s40
  · rw [upd_block _ _ _ _ (by decide)]; exact h.s41
  · rw [upd_block _ _ _ _ (by decide)]; exact h.s28
  · rw [upd_block _ _ _ _ (by decide)]; exact h.s34
  · rw [upd_block _ _ _ _ (by decide)]; exact h.s35
  · rw [upd_block _ _ _ _ (by decide)]; exact h.s7
  · rw [upd_block _ _ _ _ (by decide)]; exact h.s8
  · rw [upd_block _ _ _ _ (by decide)]; exact h.c2
  · intro u hu; rw [upd_block _ _ _ _ (by decide)]; exact h.c3 u hu
  · intro u hu; rw [upd_block _ _ _ _ (by decide)]; exact h.c4 u hu
  · intro u hu; rw [upd_block _ _ _ _ (by decide)]; exact h.c5 u hu
  · intro u hu
    by_cases e : u = k
    · subst e; rw [upd_same, hx, upTo_self]
    · rw [upd_cell _ _ _ e, h.c6 u hu, upTo_other _ _ e]
  · intro u hu; rw [upd_block _ _ _ _ (by decide)]; exact h.c7 u hu
  · intro u hu; rw [upd_block _ _ _ _ (by decide)]; exact h.c8 u hu
  · intro u hu; rw [upd_block _ _ _ _ (by decide)]; exact h.c9 u hu
  · intro u hu; rw [upd_block _ _ _ _ (by decide)]; exact h.c10 u hu
  · intro u hu; rw [upd_block _ _ _ _ (by decide)]; exact h.c11 u hu
  · intro u hu; rw [upd_block _ _ _ _ (by decide)]; exact h.c12 u hu

theorem Con.stepPar (h : Con n N r q f ln C loc P U (upTo k K) Q F R RQ RF) {x : Bool} (hx : x = K k) : Con n N r q f ln (upd C 7 k (.bool x)) loc P U (upTo (k + 1) K) Q F R RQ RF := by
  refine ⟨h.l0, h.l1, h.l2, h.l3, h.l4, h.l5, h.l6, h.l7, h.l8, h.l9, h.l10, h.l11, h.l12, ?_, ?_, ?_, ?_, ?_, ?_, ?_, ?_, ?_, ?_, ?_, ?_, ?_, ?_, ?_, ?_, ?_, ?_, ?_, ?_, ?_, ?_⟩
  · rw [upd_block _ _ _ _ (by decide)]; exact h.p5
  · rw [upd_block _ _ _ _ (by decide)]; exact h.p6
  · rw [upd_block _ _ _ _ (by decide)]; exact h.p7
  · rw [upd_block _ _ _ _ (by decide)]; exact h.s39
  · rw [upd_block _ _ _ _ (by decide)]; exact h.s40
  · rw [upd_block _ _ _ _ (by decide)]; exact h.s41
  · rw [upd_block _ _ _ _ (by decide)]; exact h.s28
  · rw [upd_block _ _ _ _ (by decide)]; exact h.s34
  · rw [upd_block _ _ _ _ (by decide)]; exact h.s35
  · rw [upd_block _ _ _ _ (by decide)]; exact h.s7
  · rw [upd_block _ _ _ _ (by decide)]; exact h.s8
  · rw [upd_block _ _ _ _ (by decide)]; exact h.c2
  · intro u hu; rw [upd_block _ _ _ _ (by decide)]; exact h.c3 u hu
  · intro u hu; rw [upd_block _ _ _ _ (by decide)]; exact h.c4 u hu
  · intro u hu; rw [upd_block _ _ _ _ (by decide)]; exact h.c5 u hu
  · intro u hu; rw [upd_block _ _ _ _ (by decide)]; exact h.c6 u hu
  · intro u hu
    by_cases e : u = k
    · subst e; rw [upd_same, hx, upTo_self]
    · rw [upd_cell _ _ _ e, h.c7 u hu, upTo_other _ _ e]
  · intro u hu; rw [upd_block _ _ _ _ (by decide)]; exact h.c8 u hu
  · intro u hu; rw [upd_block _ _ _ _ (by decide)]; exact h.c9 u hu
  · intro u hu; rw [upd_block _ _ _ _ (by decide)]; exact h.c10 u hu
  · intro u hu; rw [upd_block _ _ _ _ (by decide)]; exact h.c11 u hu
  · intro u hu; rw [upd_block _ _ _ _ (by decide)]; exact h.c12 u hu

theorem Con.stepQui (h : Con n N r q f ln C loc P U K (upTo k Q) F R RQ RF) {x : Bool} (hx : x = Q k) : Con n N r q f ln (upd C 8 k (.bool x)) loc P U K (upTo (k + 1) Q) F R RQ RF := by
  refine ⟨h.l0, h.l1, h.l2, h.l3, h.l4, h.l5, h.l6, h.l7, h.l8, h.l9, h.l10, h.l11, h.l12, ?_, ?_, ?_, ?_, ?_, ?_, ?_, ?_, ?_, ?_, ?_, ?_, ?_, ?_, ?_, ?_, ?_, ?_, ?_, ?_, ?_, ?_⟩
  · rw [upd_block _ _ _ _ (by decide)]; exact h.p5
  · rw [upd_block _ _ _ _ (by decide)]; exact h.p6
  · rw [upd_block _ _ _ _ (by decide)]; exact h.p7
  · rw [upd_block _ _ _ _ (by decide)]; exact h.s39
  · rw [upd_block _ _ _ _ (by decide)]; exact h.s40
  · rw [upd_block _ _ _ _ (by decide)]; exact h.s41
  · rw [upd_block _ _ _ _ (by decide)]; exact h.s28
  · rw [upd_block _ _ _ _ (by decide)]; exact h.s34
  · rw [upd_block _ _ _ _ (by decide)]; exact h.s35
  · rw [upd_block _ _ _ _ (by decide)]; exact h.s7
  · rw [upd_block _ _ _ _ (by decide)]; exact h.s8
  · rw [upd_block _ _ _ _ (by decide)]; exact h.c2
  · intro u hu; rw [upd_block _ _ _ _ (by decide)]; exact h.c3 u hu
  · intro u hu; rw [upd_block _ _ _ _ (by decide)]; exact h.c4 u hu
  · intro u hu; rw [upd_block _ _ _ _ (by decide)]; exact h.c5 u hu
  · intro u hu; rw [upd_block _ _ _ _ (by decide)]; exact h.c6 u hu
  · intro u hu; rw [upd_block _ _ _ _ (by decide)]; exact h.c7 u hu
  · intro u hu
    by_cases e : u = k
    · subst e; rw [upd_same, hx, upTo_self]
    · rw [upd_cell _ _ _ e, h.c8 u hu, upTo_other _ _ e]
  · intro u hu; rw [upd_block _ _ _ _ (by decide)]; exact h.c9 u hu
  · intro u hu; rw [upd_block _ _ _ _ (by decide)]; exact h.c10 u hu
  · intro u hu; rw [upd_block _ _ _ _ (by decide)]; exact h.c11 u hu
  · intro u hu; rw [upd_block _ _ _ _ (by decide)]; exact h.c12 u hu

theorem Con.stepFre (h : Con n N r q f ln C loc P U K Q (upTo k F) R RQ RF) {x : Bool} (hx : x = F k) : Con n N r q f ln (upd C 9 k (.bool x)) loc P U K Q (upTo (k + 1) F) R RQ RF := by
  refine ⟨h.l0, h.l1, h.l2, h.l3, h.l4, h.l5, h.l6, h.l7, h.l8, h.l9, h.l10, h.l11, h.l12, ?_, ?_, ?_, ?_, ?_, ?_, ?_, ?_, ?_, ?_, ?_, ?_, ?_, ?_, ?_, ?_, ?_, ?_, ?_, ?_, ?_, ?_⟩
  · rw [upd_block _ _ _ _ (by decide)]; exact h.p5
  · rw [upd_block _ _ _ _ (by decide)]; exact h.p6
  · rw [upd_block _ _ _ _ (by decide)]; exact h.p7
  · rw [upd_block _ _ _ _ (by decide)]; exact h.s39
  · rw [upd_block _ _ _ _ (by decide)]; exact h.s40
  · rw [upd_block _ _ _ _ (by decide)]; exact h.s41
  · rw [upd_block _ _ _ _ (by decide)]; exact h.s28
  · rw [upd_block _ _ _ _ (by decide)]; exact h.s34
  · rw [upd_block _ _ _ _ (by decide)]; exact h.s35
  · rw [upd_block _ _ _ _ (by decide)]; exact h.s7
  · rw [upd_block _ _ _ _ (by decide)]; exact h.s8
  · rw [upd_block _ _ _ _ (by decide)]; exact h.c2
  · intro u hu; rw [upd_block _ _ _ _ (by decide)]; exact h.c3 u hu
  · intro u hu; rw [upd_block _ _ _ _ (by decide)]; exact h.c4 u hu
  · intro u hu; rw [upd_block _ _ _ _ (by decide)]; exact h.c5 u hu
  · intro u hu; rw [upd_block _ _ _ _ (by decide)]; exact h.c6 u hu
  · intro u hu; rw [upd_block _ _ _ _ (by decide)]; exact h.c7 u hu
  · intro u hu; rw [upd_block _ _ _ _ (by decide)]; exact h.c8 u hu
  · intro u hu
    by_cases e : u = k
    · subst e; rw [upd_same, hx, upTo_self]
    · rw [upd_cell _ _ _ e, h.c9 u hu, upTo_other _ _ e]
  · intro u hu; rw [upd_block _ _ _ _ (by decide)]; exact h.c10 u hu
  · intro u hu; rw [upd_block _ _ _ _ (by decide)]; exact h.c11 u hu
  · intro u hu; rw [upd_block _ _ _ _ (by decide)]; exact h.c12 u hu

theorem Con.insR (h : Con n N r q f ln C loc P U K Q F R RQ RF)  : Con n N r q f ln (upd C 10 k (.bool true)) loc P U K Q F (ins R k) RQ RF := by
  refine ⟨h.l0, h.l1, h.l2, h.l3, h.l4, h.l5, h.l6, h.l7, h.l8, h.l9, h.l10, h.l11, h.l12, ?_, ?_, ?_, ?_, ?_, ?_, ?_, ?_, ?_, ?_, ?_, ?_, ?_, ?_, ?_, ?_, ?_, ?_, ?_, ?_, ?_, ?_⟩
  · rw [upd_block _ _ _ _ (by decide)]; exact h.p5
  · rw [upd_block _ _ _ _ (by decide)]; exact h.p6
  · rw [upd_block _ _ _ _ (by decide)]; exact h.p7
  · rw [upd_block _ _ _ _ (by decide)]; exact h.s39
  · rw [upd_block _ _ _ _ (by decide)]; exact h.s40
  · rw [upd_block _ _ _ _ (by decide)]; exact h.s41
  · rw [upd_block _ _ _ _ (by decide)]; exact h.s28
  · rw [upd_block _ _ _ _ (by decide)]; exact h.s34
  · rw [upd_block _ _ _ _ (by decide)]; exact h.s35
  · rw [upd_block _ _ _ _ (by decide)]; exact h.s7
  · rw [upd_block _ _ _ _ (by decide)]; exact h.s8
  · rw [upd_block _ _ _ _ (by decide)]; exact h.c2
  · intro u hu; rw [upd_block _ _ _ _ (by decide)]; exact h.c3 u hu
  · intro u hu; rw [upd_block _ _ _ _ (by decide)]; exact h.c4 u hu
  · intro u hu; rw [upd_block _ _ _ _ (by decide)]; exact h.c5 u hu
  · intro u hu; rw [upd_block _ _ _ _ (by decide)]; exact h.c6 u hu
  · intro u hu; rw [upd_block _ _ _ _ (by decide)]; exact h.c7 u hu
  · intro u hu; rw [upd_block _ _ _ _ (by decide)]; exact h.c8 u hu
  · intro u hu; rw [upd_block _ _ _ _ (by decide)]; exact h.c9 u hu
  · intro u hu
    by_cases e : u = k
    · subst e; rw [upd_same]; simp [ins]
    · rw [upd_cell _ _ _ e, h.c10 u hu]; simp [ins, e]
  · intro u hu; rw [upd_block _ _ _ _ (by decide)]; exact h.c11 u hu
  · intro u hu; rw [upd_block _ _ _ _ (by decide)]; exact h.c12 u hu

theorem Con.delR (h : Con n N r q f ln C loc P U K Q F R RQ RF)  : Con n N r q f ln (upd C 10 k (.bool false)) loc P U K Q F (del R k) RQ RF := by
  refine ⟨h.l0, h.l1, h.l2, h.l3, h.l4, h.l5, h.l6, h.l7, h.l8, h.l9, h.l10, h.l11, h.l12, ?_, ?_, ?_, ?_, ?_, ?_, ?_, ?_, ?_, ?_, ?_, ?_, ?_, ?_, ?_, ?_, ?_, ?_, ?_, ?_, ?_, ?_⟩
  · rw [upd_block _ _ _ _ (by decide)]; exact h.p5
  · rw [upd_block _ _ _ _ (by decide)]; exact h.p6
  · rw [upd_block _ _ _ _ (by decide)]; exact h.p7
  · rw [upd_block _ _ _ _ (by decide)]; exact h.s39
  · rw [upd_block _ _ _ _ (by decide)]; exact h.s40
  · rw [upd_block _ _ _ _ (by decide)]; exact h.s41
  · rw [upd_block _ _ _ _ (by decide)]; exact h.s28
  · rw [upd_block _ _ _ _ (by decide)]; exact h.s34
  · rw [upd_block _ _ _ _ (by decide)]; exact h.s35
  · rw [upd_block _ _ _ _ (by decide)]; exact h.s7
  · rw [upd_block _ _ _ _ (by decide)]; exact h.s8
  · rw [upd_block _ _ _ _ (by decide)]; exact h.c2
  · intro u hu; rw [upd_block _ _ _ _ (by decide)]; exact h.c3 u hu
  · intro u hu; rw [upd_block _ _ _ _ (by decide)]; exact h.c4 u hu
  · intro u hu; rw [upd_block _ _ _ _ (by decide)]; exact h.c5 u hu
  · intro u hu; rw [upd_block _ _ _ _ (by decide)]; exact h.c6 u hu
  · intro u hu; rw [upd_block _ _ _ _ (by decide)]; exact h.c7 u hu
  · intro u hu; rw [upd_block _ _ _ _ (by decide)]; exact h.c8 u hu
  · intro u hu; rw [upd_block _ _ _ _ (by decide)]; exact h.c9 u hu
  · intro u hu
    by_cases e : u = k
    · subst e; rw [upd_same]; simp [del]
    · rw [upd_cell _ _ _ e, h.c10 u hu]; simp [del, e]
  · intro u hu; rw [upd_block _ _ _ _ (by decide)]; exact h.c11 u hu
  · intro u hu; rw [upd_block _ _ _ _ (by decide)]; exact h.c12 u hu

theorem Con.insRQ (h : Con n N r q f ln C loc P U K Q F R RQ RF)  : Con n N r q f ln (upd C 11 k (.bool true)) loc P U K Q F R (ins RQ k) RF := by
  refine ⟨h.l0, h.l1, h.l2, h.l3, h.l4, h.l5, h.l6, h.l7, h.l8, h.l9, h.l10, h.l11, h.l12, ?_, ?_, ?_, ?_, ?_, ?_, ?_, ?_, ?_, ?_, ?_, ?_, ?_, ?_, ?_, ?_, ?_, ?_, ?_, ?_, ?_, ?_⟩
  · rw [upd_block _ _ _ _ (by decide)]; exact h.p5
  · rw [upd_block _ _ _ _ (by decide)]; exact h.p6
  · rw [upd_block _ _ _ _ (by decide)]; exact h.p7
  · rw [upd_block _ _ _ _ (by decide)]; exact h.s39
  · rw [upd_block _ _ _ _ (by decide)]; exact h.s40
  · rw [upd_block _ _ _ _ (by decide)]; exact h.s41
  · rw [upd_block _ _ _ _ (by decide)]; exact h.s28
  · rw [upd_block _ _ _ _ (by decide)]; exact h.s34
  · rw [upd_block _ _ _ _ (by decide)]; exact h.s35
  · rw [upd_block _ _ _ _ (by decide)]; exact h.s7
  · rw [upd_block _ _ _ _ (by decide)]; exact h.s8
  · rw [upd_block _ _ _ _ (by decide)]; exact h.c2
  · intro u hu; rw [upd_block _ _ _ _ (by decide)]; exact h.c3 u hu
  · intro u hu; rw [upd_block _ _ _ _ (by decide)]; exact h.c4 u hu
  · intro u hu; rw [upd_block _ _ _ _ (by decide)]; exact h.c5 u hu
  · intro u hu; rw [upd_block _ _ _ _ (by decide)]; exact h.c6 u hu
  · intro u hu; rw [upd_block _ _ _ _ (by decide)]; exact h.c7 u hu
  · intro u hu; rw [upd_block _ _ _ _ (by decide)]; exact h.c8 u hu
  · intro u hu; rw [upd_block _ _ _ _ (by decide)]; exact h.c9 u hu
  · intro u hu; rw [upd_block _ _ _ _ (by decide)]; exact h.c10 u hu
  · intro u hu
    by_cases e : u = k
    · subst e; rw [upd_same]; simp [ins]
    · rw [upd_cell _ _ _ e, h.c11 u hu]; simp [ins, e]
  · intro u hu; rw [upd_block _ _ _ _ (by decide)]; exact h.c12 u hu

theorem Con.delRQ (h : Con n N r q f ln C loc P U K Q F R RQ RF)  : Con n N r q f ln (upd C 11 k (.bool false)) loc P U K Q F R (del RQ k) RF := by
  refine ⟨h.l0, h.l1, h.l2, h.l3, h.l4, h.l5, h.l6, h.l7, h.l8, h.l9, h.l10, h.l11, h.l12, ?_, ?_, ?_, ?_, ?_, ?_, ?_, ?_, ?_, ?_, ?_, ?_, ?_, ?_, ?_, ?_, ?_, ?_, ?_, ?_, ?_, ?_⟩
  · rw [upd_block _ _ _ _ (by decide)]; exact h.p5
  · rw [upd_block _ _ _ _ (by decide)]; exact h.p6
  · rw [upd_block _ _ _ _ (by decide)]; exact h.p7
  · rw [upd_block _ _ _ _ (by decide)]; exact h.s39
  · rw [upd_block _ _ _ _ (by decide)]; exact h.s40
  · rw [upd_block _ _ _ _ (by decide)]; exact h.s41
  · rw [upd_block _ _ _ _ (by decide)]; exact h.s28
  · rw [upd_block _ _ _ _ (by decide)]; exact h.s34
  · rw [upd_block _ _ _ _ (by decide)]; exact h.s35
  · rw [upd_block _ _ _ _ (by decide)]; exact h.s7
  · rw [upd_block _ _ _ _ (by decide)]; exact h.s8
  · rw [upd_block _ _ _ _ (by decide)]; exact h.c2
  · intro u hu; rw [upd_block _ _ _ _ (by decide)]; exact h.c3 u hu
  · intro u hu; rw [upd_block _ _ _ _ (by decide)]; exact h.c4 u hu
  · intro u hu; rw [upd_block _ _ _ _ (by decide)]; exact h.c5 u hu
  · intro u hu; rw [upd_block _ _ _ _ (by decide)]; exact h.c6 u hu
  · intro u hu; rw [upd_block _ _ _ _ (by decide)]; exact h.c7 u hu
  · intro u hu; rw [upd_block _ _ _ _ (by decide)]; exact h.c8 u hu
  · intro u hu; rw [upd_block _ _ _ _ (by decide)]; exact h.c9 u hu
  · intro u hu; rw [upd_block _ _ _ _ (by decide)]; exact h.c10 u hu
  · intro u hu
    by_cases e : u = k
    · subst e; rw [upd_same]; simp [del]
    · rw [upd_cell _ _ _ e, h.c11 u hu]; simp [del, e]
  · intro u hu; rw [upd_block _ _ _ _ (by decide)]; exact h.c12 u hu

theorem Con.insRF (h : Con n N r q f ln C loc P U K Q F R RQ RF)  : Con n N r q f ln (upd C 12 k (.bool true)) loc P U K Q F R RQ (ins RF k) := by
  refine ⟨h.l0, h.l1, h.l2, h.l3, h.l4, h.l5, h.l6, h.l7, h.l8, h.l9, h.l10, h.l11, h.l12, ?_, ?_, ?_, ?_, ?_, ?_, ?_, ?_, ?_, ?_, ?_, ?_, ?_, ?_, ?_, ?_, ?_, ?_, ?_, ?_, ?_, ?_⟩
  · rw [upd_block _ _ _ _ (by decide)]; exact h.p5
  · rw [upd_block _ _ _ _ (by decide)]; exact h.p6
  · rw [upd_block _ _ _ _ (by decide)]; exact h.p7
  · rw [upd_block _ _ _ _ (by decide)]; exact h.s39
  · rw [upd_block _ _ _ _ (by decide)]; exact h.s40
  · rw [upd_block _ _ _ _ (by decide)]; exact h.s41
  · rw [upd_block _ _ _ _ (by decide)]; exact h.s28
  · rw [upd_block _ _ _ _ (by decide)]; exact h.s34
  · rw [upd_block _ _ _ _ (by decide)]; exact h.s35
  · rw [upd_block _ _ _ _ (by decide)]; exact h.s7
  · rw [upd_block _ _ _ _ (by decide)]; exact h.s8
  · rw [upd_block _ _ _ _ (by decide)]; exact h.c2
  · intro u hu; rw [upd_block _ _ _ _ (by decide)]; exact h.c3 u hu
  · intro u hu; rw [upd_block _ _ _ _ (by decide)]; exact h.c4 u hu
  · intro u hu; rw [upd_block _ _ _ _ (by decide)]; exact h.c5 u hu
  · intro u hu; rw [upd_block _ _ _ _ (by decide)]; exact h.c6 u hu
  · intro u hu; rw [upd_block _ _ _ _ (by decide)]; exact h.c7 u hu
  · intro u hu; rw [upd_block _ _ _ _ (by decide)]; exact h.c8 u hu
  · intro u hu; rw [upd_block _ _ _ _ (by decide)]; exact h.c9 u hu
  · intro u hu; rw [upd_block _ _ _ _ (by decide)]; exact h.c10 u hu
  · intro u hu; rw [upd_block _ _ _ _ (by decide)]; exact h.c11 u hu
  · intro u hu
    by_cases e : u = k
    · subst e; rw [upd_same]; simp [ins]
    · rw [upd_cell _ _ _ e, h.c12 u hu]; simp [ins, e]

theorem Con.delRF (h : Con n N r q f ln C loc P U K Q F R RQ RF)  : Con n N r q f ln (upd C 12 k (.bool false)) loc P U K Q F R RQ (del RF k) := by
  refine ⟨h.l0, h.l1, h.l2, h.l3, h.l4, h.l5, h.l6, h.l7, h.l8, h.l9, h.l10, h.l11, h.l12, ?_, ?_, ?_, ?_, ?_, ?_, ?_, ?_, ?_, ?_, ?_, ?_, ?_, ?_, ?_, ?_, ?_, ?_, ?_, ?_, ?_, ?_⟩
  · rw [upd_block _ _ _ _ (by decide)]; exact h.p5
  · rw [upd_block _ _ _ _ (by decide)]; exact h.p6
  · rw [upd_block _ _ _ _ (by decide)]; exact h.p7
  · rw [upd_block _ _ _ _ (by decide)]; exact h.s39
  · rw [upd_block _ _ _ _ (by decide)]; exact h.s40
  · rw [upd_block _ _ _ _ (by decide)]; exact h.s41
  · rw [upd_block _ _ _ _ (by decide)]; exact h.s28
  · rw [upd_block _ _ _ _ (by decide)]; exact h.s34
  · rw [upd_block _ _ _ _ (by decide)]; exact h.s35
  · rw [upd_block _ _ _ _ (by decide)]; exact h.s7
  · rw [upd_block _ _ _ _ (by decide)]; exact h.s8
  · rw [upd_block _ _ _ _ (by decide)]; exact h.c2
  · intro u hu; rw [upd_block _ _ _ _ (by decide)]; exact h.c3 u hu
  · intro u hu; rw [upd_block _ _ _ _ (by decide)]; exact h.c4 u hu
  · intro u hu; rw [upd_block _ _ _ _ (by decide)]; exact h.c5 u hu
  · intro u hu; rw [upd_block _ _ _ _ (by decide)]; exact h.c6 u hu
  · intro u hu; rw [upd_block _ _ _ _ (by decide)]; exact h.c7 u hu
  · intro u hu; rw [upd_block _ _ _ _ (by decide)]; exact h.c8 u hu
  · intro u hu; rw [upd_block _ _ _ _ (by decide)]; exact h.c9 u hu
  · intro u hu; rw [upd_block _ _ _ _ (by decide)]; exact h.c10 u hu
  · intro u hu; rw [upd_block _ _ _ _ (by decide)]; exact h.c11 u hu
  · intro u hu
    by_cases e : u = k
    · subst e; rw [upd_same]; simp [del]
    · rw [upd_cell _ _ _ e, h.c12 u hu]; simp [del, e]

end
def Rel1 (w : World) (n N N1 N2 : Nat) (r q f : SetAt) (ty ln : Nat → Nat) (zs : List Int) (k : Nat) (wr : World) : Prop :=
  ∃ C R RQ RF, Mem wr n N N1 N2 w.heap.size r q f ty ln C R RQ RF ∧
    Con n N r q f ln C (locK n k) (upTo k (bit zs 0)) (upTo k (bit zs 1)) (upTo k (bit zs 2)) (upTo k (bit zs 3)) (upTo k (bit zs 4)) R RQ RF ∧ Below w.heap.size w wr

theorem start_rel (w w1 w2 w3 : World) (n W : Nat) (hW : W = wds n) (r q f : SetAt) (Z : Array Value) (zs : List Int) (hZ : 42 ≤ Z.size)
    (hr : NSat w1 n r (fun _ => false)) (hrin : r.In w.heap.size w1.heap.size) (hbr : Below w.heap.size w w1)
    (hq : NSat w2 n q (fun _ => false)) (hqin : q.In w1.heap.size w2.heap.size) (hbq : Below w1.heap.size w1 w2)
    (hf : NSat w3 n f (fun _ => false)) (hfin : f.In w2.heap.size w3.heap.size) (hbf : Below w2.heap.size w2 w3)
    (cs : List (Array Value)) (hcs : cs = [#[.slice none 0 0, .int .i64 0, .slice none 0 0, .int .u64 0, .int .i64 0, r.sl n, q.sl n, f.sl n],
      (((((((Z.setIfInBounds 39 (.slice (some ⟨w3.heap.size + 2, 0, none⟩) 1 1)).setIfInBounds 40 (.slice (some ⟨w3.heap.size + 3, 0, none⟩) n n)).setIfInBounds 41 (.slice (some ⟨w3.heap.size + 4, 0, none⟩) n n)).setIfInBounds 28 (.slice (some ⟨w3.heap.size + 5, 0, none⟩) W W)).setIfInBounds 34 (.slice (some ⟨w3.heap.size + 6, 0, none⟩) n n)).setIfInBounds 35 (.slice (some ⟨w3.heap.size + 7, 0, none⟩) n n)).setIfInBounds 7 (.slice (some ⟨w3.heap.size + 8, 0, none⟩) n n)).setIfInBounds 8 (.slice (some ⟨w3.heap.size + 9, 0, none⟩) n n),
      #[.pointer (some ⟨w3.heap.size, 0, none⟩)], madeCells #[.int .i64 0] n, madeCells #[.int .i64 0] n, madeCells #[.int .u64 0] W, madeCells #[.int .i64 0] n, madeCells #[.bool false] n, madeCells #[.bool false] n, madeCells #[.bool false] n, madeCells #[.bool false] n, madeCells #[.bool false] n, madeCells #[.bool false] n])
    (ts : List TypeId) (hts : ts = [33, 68, 24, 3, 3, 31, 3, 4, 4, 4, 4, 4, 4]) :
    Rel1 w n w3.heap.size w1.heap.size w2.heap.size r q f (typs ts) (lens cs) zs 0 (lay w3 (cellsOf cs ts)) := by
  have l1 := hrin.le
  have l2 := hqin.le
  have l3 := hfin.le
  have hl := lay_size (cellsOf cs ts) w3
  have hold := lay_old (cellsOf cs ts) w3
  refine ⟨cont cs, fun _ => false, fun _ => false, fun _ => false, ⟨hrin, hqin, hfin, blk_lay w3 cs ts (by rw [hcs]; rfl) (by rw [hts]; rfl), ?_, ?_, ?_⟩, ?_, ?_⟩
  · exact hr.of_below hrin (by have := hbq.size; have := hbf.size; omega) fun k h1 h2 => ((hold k (by omega)).trans (hbf.block k (by omega))).trans (hbq.block k (by omega))
  · exact hq.of_below hqin (by have := hbf.size; omega) fun k h1 h2 => (hold k (by omega)).trans (hbf.block k (by omega))
  · exact hf.of_below hfin (by omega) fun k h1 h2 => hold k (by omega)
  · subst hW
    refine con_start n w3.heap.size r q f _ _ _ zs rfl ?_ ?_ ?_ ?_ ?_ ?_ ?_ ?_ ?_ rfl cs hcs
    · simpa using hZ
    all_goals simp [Array.getElem?_setIfInBounds]; omega
  · exact ((hbr.trans (hbq.mono (by omega))).trans (hbf.mono (by omega))).trans (lay_below _ _ _ (by omega))


/-- In the midst of a round: local and placed written. -/
def Rel1a (w : World) (n N N1 N2 : Nat) (r q f : SetAt) (ty ln : Nat → Nat) (zs : List Int) (k : Nat) (wr : World) : Prop :=
  ∃ C R RQ RF, Mem wr n N N1 N2 w.heap.size r q f ty ln C R RQ RF ∧
    Con n N r q f ln C (locK n (k + 1)) (upTo (k + 1) (bit zs 0)) (upTo k (bit zs 1)) (upTo k (bit zs 2)) (upTo k (bit zs 3)) (upTo k (bit zs 4)) R RQ RF ∧ Below w.heap.size w wr

/-- The flags of element k, as the walk writes them. -/
theorem flags (zs : List Int) (k : Nat) (x : Int) (hx : x = zs[k]?.getD 0) (hr : 0 ≤ x ∧ x ≤ 255) :
    (bits .and .u8 x 1 != 0) = bit zs 0 k ∧ (bits .and .u8 x 2 != 0) = bit zs 1 k ∧ (bits .and .u8 x 4 != 0) = bit zs 2 k ∧ (bits .and .u8 x 8 != 0) = bit zs 3 k ∧
    (bits .and .u8 x 16 != 0) = bit zs 4 k ∧ (bits .and .u8 x 32 != 0) = bit zs 5 k ∧ (bits .and .u8 x 64 != 0) = bit zs 6 k ∧ (bits .and .u8 x 128 != 0) = bit zs 7 k := by
  obtain ⟨X, rfl⟩ := Int.eq_ofNat_of_zero_le hr.1
  have hX : X < 256 := by omega
  have hb : ∀ j, bit zs j k = X.testBit j := fun j => by unfold bit; rw [← hx]; rfl
  simp only [hb]
  exact ⟨flag_and X 0 hX (by decide), flag_and X 1 hX (by decide), flag_and X 2 hX (by decide), flag_and X 3 hX (by decide), flag_and X 4 hX (by decide), flag_and X 5 hX (by decide), flag_and X 6 hX (by decide), flag_and X 7 hX (by decide)⟩

theorem flag_shift (zs : List Int) (k : Nat) (x : Int) (hx : x = zs[k]?.getD 0) (hr : 0 ≤ x ∧ x ≤ 255) : bits .and .u8 (x / 2) 1 = if bit zs 1 k then 1 else 0 := by
  obtain ⟨X, rfl⟩ := Int.eq_ofNat_of_zero_le hr.1
  have hX : X < 256 := by omega
  have hb : bit zs 1 k = X.testBit 1 := by unfold bit; rw [← hx]; rfl
  have e : ((X : Int) / 2) = ((X / 2 : Nat) : Int) := by omega
  have h1 : (BitVec.ofInt 8 ((X / 2 : Nat) : Int)).toNat = X / 2 := by rw [BitVec.ofInt_natCast, BitVec.toNat_ofNat]; exact Nat.mod_eq_of_lt (by omega)
  have h2 : (BitVec.ofInt 8 (1 : Int)).toNat = 1 := by decide
  have h3 : bits .and .u8 ((X / 2 : Nat) : Int) 1 = ((X / 2 &&& 1 : Nat) : Int) := by
    show IntKind.u8.wrap ((BitVec.ofInt 8 ((X / 2 : Nat) : Int) &&& BitVec.ofInt 8 (1 : Int)).toNat : Int) = _
    rw [BitVec.toNat_and, h1, h2, Nat.and_one_is_mod]
    simp [IntKind.wrap, IntKind.bits, IntKind.signed]
    omega
  rw [e, h3, hb, Nat.and_one_is_mod, Nat.testBit_eq_decide_div_mod_eq]
  have : X / 2 ^ 1 = X / 2 := rfl
  rw [this]
  by_cases h : X / 2 % 2 = 1
  · simp [h]
  · simp [h]; omega

/-- What the last loop's test looks at. -/
theorem see {w w' : World} {n N N1 N2 : Nat} {r q f : SetAt} {ty ln : Nat → Nat} {C : Nat → Nat → Value} {R RQ RF : Nat → Bool} {loc : Nat → Int} {P U K Q F : Nat → Bool} {i : Nat} (hi : i < n)
    (hC : Con n N r q f ln C loc P U K Q F R RQ RF) (hM : Mem w' n N N1 N2 w.heap.size r q f ty ln C R RQ RF) (hB : Below w.heap.size w w') :
    w'.cell? ⟨N, 5, none⟩ = some (r.sl n) ∧ w'.cell? ⟨N, 6, none⟩ = some (q.sl n) ∧ w'.cell? ⟨N, 7, none⟩ = some (f.sl n) ∧ w'.cell? ⟨N + 10, i, none⟩ = some (.bool (R i)) ∧ w'.cell? ⟨N + 11, i, none⟩ = some (.bool (RQ i)) ∧ w'.cell? ⟨N + 12, i, none⟩ = some (.bool (RF i)) ∧ Mem w' n N N1 N2 w.heap.size r q f ty ln C R RQ RF ∧ Below w.heap.size w w' := by
  have l0 := hC.l0
  have p5 := hM.cell 0 5 _ (by omega) (by omega) hC.p5
  have p6 := hM.cell 0 6 _ (by omega) (by omega) hC.p6
  have p7 := hM.cell 0 7 _ (by omega) (by omega) hC.p7
  rw [Nat.add_zero] at p5 p6 p7
  exact ⟨p5, p6, p7, hM.cell 10 i _ (by omega) (by rw [hC.l10]; omega) (hC.c10 i hi), hM.cell 11 i _ (by omega) (by rw [hC.l11]; omega) (hC.c11 i hi), hM.cell 12 i _ (by omega) (by rw [hC.l12]; omega) (hC.c12 i hi), hM, hB⟩
theorem see_alloc {w w' : World} {n N N1 N2 : Nat} {r q f : SetAt} {ty ln : Nat → Nat} {C : Nat → Nat → Value} {R RQ RF : Nat → Bool} {i : Nat} {o : Obj} {loc : Nat → Int} {P U K Q F : Nat → Bool} (hi : i < n) (hC : Con n N r q f ln C loc P U K Q F R RQ RF)
    (h : w'.cell? ⟨N, 5, none⟩ = some (r.sl n) ∧ w'.cell? ⟨N, 6, none⟩ = some (q.sl n) ∧ w'.cell? ⟨N, 7, none⟩ = some (f.sl n) ∧ w'.cell? ⟨N + 10, i, none⟩ = some (.bool (R i)) ∧ w'.cell? ⟨N + 11, i, none⟩ = some (.bool (RQ i)) ∧ w'.cell? ⟨N + 12, i, none⟩ = some (.bool (RF i)) ∧ Mem w' n N N1 N2 w.heap.size r q f ty ln C R RQ RF ∧ Below w.heap.size w w') :
    (w'.alloc o).cell? ⟨N, 5, none⟩ = some (r.sl n) ∧ (w'.alloc o).cell? ⟨N, 6, none⟩ = some (q.sl n) ∧ (w'.alloc o).cell? ⟨N, 7, none⟩ = some (f.sl n) ∧ (w'.alloc o).cell? ⟨N + 10, i, none⟩ = some (.bool (R i)) ∧ (w'.alloc o).cell? ⟨N + 11, i, none⟩ = some (.bool (RQ i)) ∧ (w'.alloc o).cell? ⟨N + 12, i, none⟩ = some (.bool (RF i)) ∧ Mem (w'.alloc o) n N N1 N2 w.heap.size r q f ty ln C R RQ RF ∧ Below w.heap.size w (w'.alloc o) := by
  obtain ⟨_, _, _, _, _, _, hM, hB⟩ := h
  have h1 := hM.inr.le
  have h2 := hM.inq.le
  have h3 := hM.inf.le
  have h4 := hM.lt (j := 0) (by omega)
  exact see hi hC (hM.alloc o) (hB.alloc (by omega) o)
theorem see_r {w w' : World} {n N N1 N2 : Nat} {r q f : SetAt} {ty ln : Nat → Nat} {C : Nat → Nat → Value} {R RQ RF : Nat → Bool} {i : Nat} (h : w'.cell? ⟨N, 5, none⟩ = some (r.sl n) ∧ w'.cell? ⟨N, 6, none⟩ = some (q.sl n) ∧ w'.cell? ⟨N, 7, none⟩ = some (f.sl n) ∧ w'.cell? ⟨N + 10, i, none⟩ = some (.bool (R i)) ∧ w'.cell? ⟨N + 11, i, none⟩ = some (.bool (RQ i)) ∧ w'.cell? ⟨N + 12, i, none⟩ = some (.bool (RF i)) ∧ Mem w' n N N1 N2 w.heap.size r q f ty ln C R RQ RF ∧ Below w.heap.size w w') : NSat w' n r R := h.2.2.2.2.2.2.1.sr
theorem see_q {w w' : World} {n N N1 N2 : Nat} {r q f : SetAt} {ty ln : Nat → Nat} {C : Nat → Nat → Value} {R RQ RF : Nat → Bool} {i : Nat} (h : w'.cell? ⟨N, 5, none⟩ = some (r.sl n) ∧ w'.cell? ⟨N, 6, none⟩ = some (q.sl n) ∧ w'.cell? ⟨N, 7, none⟩ = some (f.sl n) ∧ w'.cell? ⟨N + 10, i, none⟩ = some (.bool (R i)) ∧ w'.cell? ⟨N + 11, i, none⟩ = some (.bool (RQ i)) ∧ w'.cell? ⟨N + 12, i, none⟩ = some (.bool (RF i)) ∧ Mem w' n N N1 N2 w.heap.size r q f ty ln C R RQ RF ∧ Below w.heap.size w w') : NSat w' n q RQ := h.2.2.2.2.2.2.1.sq
theorem see_f {w w' : World} {n N N1 N2 : Nat} {r q f : SetAt} {ty ln : Nat → Nat} {C : Nat → Nat → Value} {R RQ RF : Nat → Bool} {i : Nat} (h : w'.cell? ⟨N, 5, none⟩ = some (r.sl n) ∧ w'.cell? ⟨N, 6, none⟩ = some (q.sl n) ∧ w'.cell? ⟨N, 7, none⟩ = some (f.sl n) ∧ w'.cell? ⟨N + 10, i, none⟩ = some (.bool (R i)) ∧ w'.cell? ⟨N + 11, i, none⟩ = some (.bool (RQ i)) ∧ w'.cell? ⟨N + 12, i, none⟩ = some (.bool (RF i)) ∧ Mem w' n N N1 N2 w.heap.size r q f ty ln C R RQ RF ∧ Below w.heap.size w w') : NSat w' n f RF := h.2.2.2.2.2.2.1.sf
end Go.Proofs.Ybulkakuu.Ref

/-
  THE MEMORY of seat b1827a's refresh law: thirteen blocks in a row (from N on) that the law itself lays, and three number sets below them.
-/
import Derived.Test.YbulkakuuNewWalks
import Derived.Test.YbulkakuuRemWalks
import Derived.Test.YbulkakuuReadWalks
import Derived.Deep.Draws
namespace Go.Proofs.Ybulkakuu.Ref
open Go.RowKit

/-- How many levels a set of n numbers has. -/
def lev (n : Nat) : Nat := if 64 < n then 2 else 1

structure SetAt where
  lb : Nat
  cap : Nat
  b0 : Nat
  b1 : Nat

def SetAt.sl (s : SetAt) (n : Nat) : Value := .slice (some ⟨s.lb, 0, none⟩) (lev n) s.cap
structure SetAt.In (s : SetAt) (lo hi : Nat) : Prop where
  a : lo ≤ s.lb ∧ s.lb < hi
  b : lo ≤ s.b0 ∧ s.b0 < hi
  c : lo ≤ s.b1 ∧ s.b1 < hi

def NSat (w : World) (n : Nat) (s : SetAt) (S : Nat → Bool) : Prop := NS w n s.lb s.b0 s.b1 S

theorem NSat.of_below {w w' : World} {n : Nat} {s : SetAt} {S : Nat → Bool} (h : NSat w n s S) {lo hi : Nat} (hin : s.In lo hi) (hs : w.heap.size ≤ w'.heap.size) (hb : ∀ k, lo ≤ k → k < hi → w'.heap[k]? = w.heap[k]?) : NSat w' n s S :=
  NS.of_blocks h hs (hb _ hin.a.1 hin.a.2) (hb _ hin.b.1 hin.b.2) (hb _ hin.c.1 hin.c.2)

/-! the five contracts over 'lev' -/
theorem add_any (n : Nat) (s : SetAt) (i : Nat) (S : Nat → Bool) (w : World) (hn : n ≤ 1024) (hi : i < n) (h : NSat w n s S) :
    Calls Yba.prog 7 #[.agg #[s.sl n], .int .i64 (i : Int)] w fun e w' => e = .returned (.tuple #[]) ∧ But s.b0 s.b1 w w' ∧ NSat w' n s (ins S i) := by
  unfold SetAt.sl lev
  by_cases e : 64 < n
  · rw [if_pos e]; exact add_two n s.lb s.cap s.b0 s.b1 i S w e hn hi h
  · rw [if_neg e]; exact add_one n s.lb s.cap s.b0 s.b1 i S w (by omega) hi h
theorem rem_any (n : Nat) (s : SetAt) (i : Nat) (S : Nat → Bool) (w : World) (hn : n ≤ 1024) (hi : i < n) (h : NSat w n s S) :
    Calls Yba.prog 16 #[.agg #[s.sl n], .int .i64 (i : Int)] w fun e w' => e = .returned (.tuple #[]) ∧ But s.b0 s.b1 w w' ∧ NSat w' n s (del S i) := by
  unfold SetAt.sl lev
  by_cases e : 64 < n
  · rw [if_pos e]; exact rem_two n s.lb s.cap s.b0 s.b1 i S w e hn hi h
  · rw [if_neg e]; exact rem_one n s.lb s.cap s.b0 s.b1 i S w (by omega) hi h
theorem hasn_any (n : Nat) (s : SetAt) (i : Nat) (S : Nat → Bool) (w : World) (hn : n ≤ 1024) (hi : i < n) (h : NSat w n s S) :
    Calls Yba.prog 9 #[.agg #[s.sl n], .int .i64 (i : Int)] w fun e w' => e = .returned (.bool (S i)) ∧ ∃ o, w' = w.alloc o :=
  has_any n s.lb (lev n) s.cap s.b0 s.b1 i S w (by unfold lev; split <;> omega) hn hi h
theorem sound_any (n : Nat) (s : SetAt) (S : Nat → Bool) (w : World) (hn : n ≤ 1024) (h : NSat w n s S) :
    Calls Yba.prog 10 #[.agg #[s.sl n]] w fun e w' => e = .returned (.bool true) ∧ ∃ o, w' = w.alloc o := by
  unfold SetAt.sl lev
  by_cases e : 64 < n
  · rw [if_pos e]; exact sound_two n s.lb s.cap s.b0 s.b1 S w e hn h
  · rw [if_neg e]; exact sound_one n s.lb s.cap s.b0 s.b1 S w h
theorem new_any (n : Nat) (w : World) (hn0 : 0 < n) (hn : n ≤ 1024) :
    Calls Yba.prog 6 #[.int .i64 (n : Int)] w fun e w' => ∃ s : SetAt, e = .returned (.agg #[s.sl n]) ∧ NSat w' n s (fun _ => false) ∧ s.In w.heap.size w'.heap.size ∧ Below w.heap.size w w' := by
  unfold SetAt.sl lev
  by_cases e : 64 < n
  · rw [if_pos e]
    refine (new_two n w e hn).mono ?_
    rintro e w' ⟨lb, cap, b0, b1, rfl, h, h1, h2, h3, h4⟩
    exact ⟨⟨lb, cap, b0, b1⟩, rfl, h, ⟨⟨h1, h.z0⟩, ⟨h2, h.r0.lt⟩, ⟨h3, h.z1⟩⟩, h4⟩
  · rw [if_neg e]
    refine (new_one n w hn0 (by omega)).mono ?_
    rintro e w' ⟨lb, cap, b0, b1, rfl, h, h1, h2, h3, h4⟩
    exact ⟨⟨lb, cap, b0, b1⟩, rfl, h, ⟨⟨h1, h.z0⟩, ⟨h2, h.r0.lt⟩, ⟨h3, h.z1⟩⟩, h4⟩

/-- Cell i of block j holds v. -/
def upd (C : Nat → Nat → Value) (j i : Nat) (v : Value) : Nat → Nat → Value := fun j' i' => if j' = j ∧ i' = i then v else C j' i'
theorem upd_same (C : Nat → Nat → Value) (j i : Nat) (v : Value) : upd C j i v j i = v := by simp [upd]
theorem upd_block (C : Nat → Nat → Value) {j j' : Nat} (i i' : Nat) (v : Value) (h : j' ≠ j) : upd C j i v j' i' = C j' i' := by simp [upd, h]
theorem upd_cell (C : Nat → Nat → Value) (j : Nat) {i i' : Nat} (v : Value) (h : i' ≠ i) : upd C j i v j i' = C j i' := by simp [upd, h]

def Blk (w : World) (N : Nat) (ty ln : Nat → Nat) (C : Nat → Nat → Value) : Prop := ∀ j, j < 13 → w.rowIs (N + j) (ty j) (ln j) (C j)

theorem Blk.set {w : World} {N : Nat} {ty ln : Nat → Nat} {C : Nat → Nat → Value} (h : Blk w N ty ln C) (j i : Nat) (v : Value) : Blk (w.setCell ⟨N + j, i, none⟩ v) N ty ln (upd C j i v) := by
  intro j' hj'
  by_cases e : j' = j
  · subst e
    refine ((h j' hj').set i v).congr fun i' _ => ?_
    simp [upd]
  · refine ((h j' hj').setOther (a := ⟨N + j, i, none⟩) (by simp; omega) v).congr fun i' _ => ?_
    simp [upd, e]

structure Mem (w : World) (n N N1 N2 B : Nat) (r q f : SetAt) (ty ln : Nat → Nat) (C : Nat → Nat → Value) (R RQ RF : Nat → Bool) : Prop where
  inr : r.In B N1
  inq : q.In N1 N2
  inf : f.In N2 N
  blk : Blk w N ty ln C
  sr : NSat w n r R
  sq : NSat w n q RQ
  sf : NSat w n f RF

section
variable {w w' : World} {n N N1 N2 B : Nat} {r q f : SetAt} {ty ln : Nat → Nat} {C : Nat → Nat → Value} {R RQ RF : Nat → Bool}

theorem SetAt.In.le {s : SetAt} {lo hi : Nat} (h : s.In lo hi) : lo < hi := Nat.lt_of_le_of_lt h.a.1 h.a.2
theorem Mem.lt (h : Mem w n N N1 N2 B r q f ty ln C R RQ RF) {j : Nat} (hj : j < 13) : N + j < w.heap.size := (h.blk j hj).lt

theorem Mem.store (h : Mem w n N N1 N2 B r q f ty ln C R RQ RF) (j i : Nat) (v : Value) : Mem (w.setCell ⟨N + j, i, none⟩ v) n N N1 N2 B r q f ty ln (upd C j i v) R RQ RF := by
  have hb : ∀ k, k < N → (w.setCell ⟨N + j, i, none⟩ v).heap[k]? = w.heap[k]? := fun k hk => Below.heap_setCell _ _ _ _ (by simp; omega)
  have l1 := h.inr.le
  have l2 := h.inq.le
  have l3 := h.inf.le
  exact ⟨h.inr, h.inq, h.inf, h.blk.set j i v, h.sr.of_below h.inr (by simp) (fun k _ hk => hb k (by omega)), h.sq.of_below h.inq (by simp) (fun k _ hk => hb k (by omega)), h.sf.of_below h.inf (by simp) (fun k _ hk => hb k (by omega))⟩

/-- The blocks from B on are as they were, wherever Mem looks. -/
theorem Mem.kept (h : Mem w n N N1 N2 B r q f ty ln C R RQ RF) (hs : w.heap.size ≤ w'.heap.size) (hb : ∀ k, k < w.heap.size → w'.heap[k]? = w.heap[k]?) : Mem w' n N N1 N2 B r q f ty ln C R RQ RF := by
  have l1 := h.inr.le
  have l2 := h.inq.le
  have l3 := h.inf.le
  have l4 := h.lt (j := 0) (by omega)
  exact ⟨h.inr, h.inq, h.inf, fun j hj => (h.blk j hj).of_block (hb _ (h.lt hj)), h.sr.of_below h.inr hs (fun k _ hk => hb k (by omega)), h.sq.of_below h.inq hs (fun k _ hk => hb k (by omega)), h.sf.of_below h.inf hs (fun k _ hk => hb k (by omega))⟩
theorem Mem.alloc (h : Mem w n N N1 N2 B r q f ty ln C R RQ RF) (o : Obj) : Mem (w.alloc o) n N N1 N2 B r q f ty ln C R RQ RF := h.kept (by simp) fun k hk => Below.heap_alloc _ _ _ hk
theorem Mem.drewN (h : Mem w n N N1 N2 B r q f ty ln C R RQ RF) (k : Nat) : Mem (w.drewN k) n N N1 N2 B r q f ty ln C R RQ RF := h.kept (Nat.le_refl _) fun _ _ => rfl
theorem Mem.drew (h : Mem w n N N1 N2 B r q f ty ln C R RQ RF) : Mem w.drew n N N1 N2 B r q f ty ln C R RQ RF := h.kept (Nat.le_refl _) fun _ _ => rfl

theorem Mem.setR (h : Mem w n N N1 N2 B r q f ty ln C R RQ RF) {R' : Nat → Bool} (hb : But r.b0 r.b1 w w') (hn : NSat w' n r R') : Mem w' n N N1 N2 B r q f ty ln C R' RQ RF := by
  have l1 := h.inr.b
  have l1' := h.inr.c
  have l2 := h.inq.le
  have l3 := h.inf.le
  have l4 := h.lt (j := 0) (by omega)
  exact ⟨h.inr, h.inq, h.inf, fun j hj => (h.blk j hj).of_block (hb.block _ (h.lt hj) (by omega) (by omega)), hn, h.sq.of_below h.inq hb.size (fun k _ hk => hb.block k (by omega) (by omega) (by omega)), h.sf.of_below h.inf hb.size (fun k _ hk => hb.block k (by omega) (by omega) (by omega))⟩
theorem Mem.setQ (h : Mem w n N N1 N2 B r q f ty ln C R RQ RF) {R' : Nat → Bool} (hb : But q.b0 q.b1 w w') (hn : NSat w' n q R') : Mem w' n N N1 N2 B r q f ty ln C R R' RF := by
  have l1 := h.inq.b
  have l1' := h.inq.c
  have l2 := h.inr.le
  have l3 := h.inf.le
  have l4 := h.lt (j := 0) (by omega)
  exact ⟨h.inr, h.inq, h.inf, fun j hj => (h.blk j hj).of_block (hb.block _ (h.lt hj) (by omega) (by omega)), h.sr.of_below h.inr hb.size (fun k _ hk => hb.block k (by omega) (by omega) (by omega)), hn, h.sf.of_below h.inf hb.size (fun k _ hk => hb.block k (by omega) (by omega) (by omega))⟩
theorem Mem.setF (h : Mem w n N N1 N2 B r q f ty ln C R RQ RF) {R' : Nat → Bool} (hb : But f.b0 f.b1 w w') (hn : NSat w' n f R') : Mem w' n N N1 N2 B r q f ty ln C R RQ R' := by
  have l1 := h.inf.b
  have l1' := h.inf.c
  have l2 := h.inr.le
  have l3 := h.inq.le
  have l4 := h.lt (j := 0) (by omega)
  exact ⟨h.inr, h.inq, h.inf, fun j hj => (h.blk j hj).of_block (hb.block _ (h.lt hj) (by omega) (by omega)), h.sr.of_below h.inr hb.size (fun k _ hk => hb.block k (by omega) (by omega) (by omega)), h.sq.of_below h.inq hb.size (fun k _ hk => hb.block k (by omega) (by omega) (by omega)), hn⟩

theorem Mem.belowR (h : Mem w n N N1 N2 B r q f ty ln C R RQ RF) (hb : But r.b0 r.b1 w w') : Below B w w' := by
  have l1 := h.inr.b
  have l1' := h.inr.c
  have l2 := h.inq.le
  have l3 := h.inf.le
  have l4 := h.lt (j := 0) (by omega)
  exact hb.below (by omega) (by omega) (by omega)
theorem Mem.belowQ (h : Mem w n N N1 N2 B r q f ty ln C R RQ RF) (hb : But q.b0 q.b1 w w') : Below B w w' := by
  have l1 := h.inq.b
  have l1' := h.inq.c
  have l2 := h.inr.le
  have l3 := h.inf.le
  have l4 := h.lt (j := 0) (by omega)
  exact hb.below (by omega) (by omega) (by omega)
theorem Mem.belowF (h : Mem w n N N1 N2 B r q f ty ln C R RQ RF) (hb : But f.b0 f.b1 w w') : Below B w w' := by
  have l1 := h.inf.b
  have l1' := h.inf.c
  have l2 := h.inr.le
  have l3 := h.inq.le
  have l4 := h.lt (j := 0) (by omega)
  exact hb.below (by omega) (by omega) (by omega)

theorem Mem.cell (h : Mem w n N N1 N2 B r q f ty ln C R RQ RF) (j i : Nat) (v : Value) (hj : j < 13) (hi : i < ln j) (hv : C j i = v) : w.cell? ⟨N + j, i, none⟩ = some v := by
  rw [(h.blk j hj).cell hi, hv]
theorem Mem.free (h : Mem w n N N1 N2 B r q f ty ln C R RQ RF) (j i : Nat) (hj : j < 13) : w.frozen? ⟨N + j, i, none⟩ = false := (h.blk j hj).frozen i
end

/-- What the thirteen blocks hold: 0: the piece; 1: the search; 2: its pieces; 3 pieceOf; 4 local; 5 placed; 6 unmet; 7 parked; 8 quiet; 9 free; 10, 11, 12: what is expected of the three sets. -/
structure Con (n N : Nat) (r q f : SetAt) (ln : Nat → Nat) (C : Nat → Nat → Value) (loc : Nat → Int) (P U K Q F R RQ RF : Nat → Bool) : Prop where
  l0 : 8 ≤ ln 0
  l1 : 42 ≤ ln 1
  l2 : ln 2 = 1
  l3 : ln 3 = n
  l4 : ln 4 = n
  l5 : ln 5 = wds n
  l6 : ln 6 = n
  l7 : ln 7 = n
  l8 : ln 8 = n
  l9 : ln 9 = n
  l10 : ln 10 = n
  l11 : ln 11 = n
  l12 : ln 12 = n
  p5 : C 0 5 = r.sl n
  p6 : C 0 6 = q.sl n
  p7 : C 0 7 = f.sl n
  s39 : C 1 39 = .slice (some ⟨N + 2, 0, none⟩) 1 1
  s40 : C 1 40 = .slice (some ⟨N + 3, 0, none⟩) n n
  s41 : C 1 41 = .slice (some ⟨N + 4, 0, none⟩) n n
  s28 : C 1 28 = .slice (some ⟨N + 5, 0, none⟩) (wds n) (wds n)
  s34 : C 1 34 = .slice (some ⟨N + 6, 0, none⟩) n n
  s35 : C 1 35 = .slice (some ⟨N + 7, 0, none⟩) n n
  s7 : C 1 7 = .slice (some ⟨N + 8, 0, none⟩) n n
  s8 : C 1 8 = .slice (some ⟨N + 9, 0, none⟩) n n
  c2 : C 2 0 = .pointer (some ⟨N, 0, none⟩)
  c3 : ∀ u, u < n → C 3 u = .int .i64 0
  c4 : ∀ u, u < n → C 4 u = .int .i64 (loc u)
  c5 : ∀ j, j < wds n → C 5 j = .int .u64 ((wd P j : Nat) : Int)
  c6 : ∀ u, u < n → C 6 u = .int .i64 (if U u then 1 else 0)
  c7 : ∀ u, u < n → C 7 u = .bool (K u)
  c8 : ∀ u, u < n → C 8 u = .bool (Q u)
  c9 : ∀ u, u < n → C 9 u = .bool (F u)
  c10 : ∀ u, u < n → C 10 u = .bool (R u)
  c11 : ∀ u, u < n → C 11 u = .bool (RQ u)
  c12 : ∀ u, u < n → C 12 u = .bool (RF u)

end Go.Proofs.Ybulkakuu.Ref

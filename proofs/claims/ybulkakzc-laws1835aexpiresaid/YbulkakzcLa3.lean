/-
  THE LAW OF EXPIRING (seat b1835a): the lines handed in; the books handed to expire.
-/
import Derived.Test.YbulkakzcLa2
namespace Go.Proofs.Ybulkakzc
open Go.RowKit
set_option linter.unusedSimpArgs false

/-- The lines that are handed in. -/
def preD (j : Nat) : Dg := ⟨⟨0, 0, 7777 + (j : Int)⟩, ⟨#[]⟩, ⟨#[]⟩, 0⟩
def preL (n : Nat) : List Dg := (List.range n).map preD
theorem preL_succ (n : Nat) : preL (n + 1) = preL n ++ [preD n] := by simp [preL, List.range_succ]
theorem preL_length (n : Nat) : (preL n).length = n := by simp [preL]

/-- All is laid; the lines lie in the slice v. -/
structure L3 (w0 w : World) (rb pm am fb gb : Nat) (tmo mp now : Int) (fn mn : Nat) (F : Nat → Int) (M : Nat → Mg) (al pl : List En) (fl : List Fq) (ms : List Ms) (v : Value) (b : Nat) (out : List Dg) : Prop where
  same : Same w0 w
  rs : ∃ C, RS w rb pm am C tmo mp 0 now (sumc ms) 0 pl al (sts ms) (fgs fl)
  aperm : (keysOf al).Perm (fl.map (·.k))
  keys : fl.map (·.k) = fks fl.length
  ats : ∀ j x, fl[j]? = some x → x.aw = 0 ∧ x.ae = acc F (j + 1)
  pperm : (keysOf pl).Perm (ms.map (·.k))
  mkeys : ms.map (·.k) = mks ms.length
  mats : ∀ j x, ms[j]? = some x → x.fe = acc (md M) (j + 1) ∧ x.cost = (M j).c ∧ x.frag = (M j).f ∧ x.start = (M j).s
  msg : MsOk w ms
  mnod : (ms.map (·.mb)).Nodup
  row : w.rowIs fb 2 fn (fun j => .int .i64 (if j < fn then acc F (j + 1) else 0))
  row2 : w.rowIs gb 2 mn (fun j => .int .i64 (if j < mn then acc (md M) (j + 1) else 0))
  l1 : w0.heap.size ≤ rb
  l2 : w0.heap.size ≤ pm
  l3 : w0.heap.size ≤ am
  l4 : w0.heap.size ≤ fb
  l5 : ∀ x ∈ blks (fgs fl), w0.heap.size ≤ x
  l6 : w0.heap.size ≤ gb
  l7 : ∀ x ∈ ms, w0.heap.size ≤ x.mb ∧ w0.heap.size ≤ x.eb
  ds : Ds w v b out
  b1 : b ≠ rb
  b2 : b ≠ pm
  b3 : b ≠ am
  b4 : b ∉ blks (sts ms)
  b5 : b ∉ blks (fgs fl)
  b6 : b ∉ ms.map (·.mb)
  b7 : b < w.heap.size
  b8 : w0.heap.size ≤ b
  b9 : b ≠ fb
  b10 : b ≠ gb

section
variable {w0 w w' : World} {rb pm am tb fb gb : Nat} {tmo mp now : Int} {fn mn : Nat} {F : Nat → Int} {M : Nat → Mg} {r : Nat} {al pl : List En} {fl : List Fq} {ms : List Ms} {v : Value} {b : Nat} {out : List Dg}
theorem L2.lines (h : L2 w0 w rb pm am tb fb gb tmo mp now fn mn F M mn al pl fl ms) (hb : w0.heap.size ≤ tb) : L3 w0 w rb pm am fb gb tmo mp now fn mn F M al pl fl ms (.slice none 0 0) tb [] := by
  obtain ⟨C, hR⟩ := h.rs
  obtain ⟨t1, t2, t3, t4, t5⟩ := hR.apart (by decide) (by decide) h.base
  refine ⟨h.same, h.rs, h.aperm, h.keys, h.ats, h.pperm, h.mkeys, h.mats, h.msg, h.mnod, h.row, h.row2, h.l1, h.l2, h.l3, h.l4, h.l5, h.l6, h.l7, ⟨none, 0, 0, rfl, Nat.zero_le _, ⟨Nat.le_refl _, fun h => by omega, fun h => by omega, rfl, fun j u hu => by simp [flatD] at hu, fun j hj => by omega⟩, fun h => by omega⟩, t1, t2, t3, t4, t5, ?_, lt_of_block h.base, hb, ne_cells_row h.base h.row (by decide), ne_cells_row h.base h.row2 (by decide)⟩
  intro hm
  obtain ⟨y, hy, e⟩ := List.mem_map.1 hm
  have h1 := h.msg y hy
  unfold Msg at h1
  rw [e, h.base] at h1
  simp at h1
theorem L3.move (h : L3 w0 w rb pm am fb gb tmo mp now fn mn F M al pl fl ms v b out) (hS : Same w w') : L3 w0 w' rb pm am fb gb tmo mp now fn mn F M al pl fl ms v b out := by
  obtain ⟨C, hR⟩ := h.rs
  exact ⟨h.same.trans hS, ⟨C, hR.same hS⟩, h.aperm, h.keys, h.ats, h.pperm, h.mkeys, h.mats, fun x hx => (hS.block _ (lt_of_block (h.msg x hx))).trans (h.msg x hx), h.mnod, h.row.of_block (hS.block _ h.row.lt), h.row2.of_block (hS.block _ h.row2.lt), h.l1, h.l2, h.l3, h.l4, h.l5, h.l6, h.l7, h.ds.of_block hS.size (hS.block b), h.b1, h.b2, h.b3, h.b4, h.b5, h.b6, Nat.lt_of_lt_of_le h.b7 hS.size, h.b8, h.b9, h.b10⟩
/-- One line more. -/
theorem L3.push (h : L3 w0 w rb pm am fb gb tmo mp now fn mn F M al pl fl ms v b out) {v' : Value} {b' : Nat} {d : Dg} (hq : Ds w' v' b' (out ++ [d])) (hb' : b' = b ∨ w.heap.size ≤ b') (ho : w'.os = w.os) (hu : w'.output = w.output) (hz : w.heap.size ≤ w'.heap.size) (hblk : ∀ j, j < w.heap.size → j ≠ b → w'.heap[j]? = w.heap[j]?) :
    L3 w0 w' rb pm am fb gb tmo mp now fn mn F M al pl fl ms v' b' (out ++ [d]) := by
  obtain ⟨C, hR⟩ := h.rs
  obtain ⟨cp, hp⟩ := hR.pmap
  obtain ⟨ca, ha⟩ := hR.amap
  have z1 := hR.row.lt
  have z2 := lt_of_block hp
  have z3 := lt_of_block ha
  have z4 := h.row.lt
  have z5 := h.row2.lt
  have z6 := h.same.size
  have z7 := h.b8
  have hn : ∀ y, y < w.heap.size → y ≠ b → y ≠ b' := by
    intro y hy hne
    rcases hb' with rfl | hb'
    · exact hne
    · omega
  refine ⟨⟨ho.trans h.same.os, hu.trans h.same.output, by omega, fun j hj => (hblk j (by omega) (by omega)).trans (h.same.block j hj)⟩, ⟨C, hR.congr (hblk _ z1 (Ne.symm h.b1)) (hblk _ z2 (Ne.symm h.b2)) (hblk _ z3 (Ne.symm h.b3)) (fun y hy => hblk y (hR.qs.blks_lt y hy) (fun e => h.b4 (e ▸ hy))) (fun y hy => hblk y (hR.qf.blks_lt y hy) (fun e => h.b5 (e ▸ hy)))⟩, h.aperm, h.keys, h.ats, h.pperm, h.mkeys, h.mats, ?_, h.mnod, h.row.of_block (hblk _ z4 (Ne.symm h.b9)), h.row2.of_block (hblk _ z5 (Ne.symm h.b10)), h.l1, h.l2, h.l3, h.l4, h.l5, h.l6, h.l7, hq, Ne.symm (hn rb z1 (Ne.symm h.b1)), Ne.symm (hn pm z2 (Ne.symm h.b2)), Ne.symm (hn am z3 (Ne.symm h.b3)), ?_, ?_, ?_, hq.lt (by simp), ?_, Ne.symm (hn fb z4 (Ne.symm h.b9)), Ne.symm (hn gb z5 (Ne.symm h.b10))⟩
  · intro y hy
    have := h.msg y hy
    exact (hblk _ (lt_of_block this) (fun e => h.b6 (e ▸ List.mem_map.2 ⟨y, hy, rfl⟩))).trans this
  · intro hb
    exact hn b' (hR.qs.blks_lt _ hb) (fun e => h.b4 (e ▸ hb)) rfl
  · intro hb
    exact hn b' (hR.qf.blks_lt _ hb) (fun e => h.b5 (e ▸ hb)) rfl
  · intro hb
    obtain ⟨y, hy, hyb⟩ := List.mem_map.1 hb
    have hlt := lt_of_block (h.msg y hy)
    rw [hyb] at hlt
    exact hn b' hlt (fun e => h.b6 (e ▸ hb)) rfl
  · rcases hb' with rfl | hb' <;> omega

/-- The blocks that expire may turn. -/
def exB (rb pm am b : Nat) (ms : List Ms) (fl : List Fq) : List Nat := rb :: pm :: am :: b :: (ms.map (·.mb) ++ ms.map (·.eb) ++ blks (fgs fl))
theorem keys_nodup {n m : Nat} (hm : m ≤ 1024) : (fks n ++ mks m).Nodup := by
  rw [List.nodup_append]
  refine ⟨?_, ?_, ?_⟩
  · refine List.Pairwise.map _ ?_ (List.nodup_range (n := n))
    intro a b hab e
    have := congrArg K.i e
    simp only [fk] at this
    omega
  · refine List.Pairwise.map _ ?_ (List.nodup_range (n := m))
    intro a b hab e
    have := congrArg K.i e
    simp only [mk_] at this
    omega
  · intro a ha c hc e
    obtain ⟨i, hi, rfl⟩ := List.mem_map.1 ha
    obtain ⟨j, hj, rfl⟩ := List.mem_map.1 hc
    have := congrArg K.i e
    have hj' := List.mem_range.1 hj
    simp only [fk, mk_] at this
    omega
theorem L3.books (h : L3 w0 w rb pm am fb gb tmo mp now fn mn F M al pl fl ms v b out) (hm : ms.length ≤ 1024) : E2 w w (exB rb pm am b ms fl) rb pm am tmo mp now 0 al pl ms fl v b out := by
  refine ⟨h.rs, h.aperm, h.pperm, by rw [h.keys, h.mkeys]; exact keys_nodup hm, h.mnod, h.msg, Fx.refl _ _, ?_, ?_, h.ds, h.b1, h.b2, h.b3, h.b4, h.b5, h.b6, h.b7, ?_, ?_, ?_, ?_⟩
  · intro x hx
    exact Or.inl (by simp only [exB, List.mem_cons, List.mem_append]; exact Or.inr (Or.inr (Or.inr (Or.inr (Or.inr hx)))))
  · intro x hx
    constructor
    · simp only [exB, List.mem_cons, List.mem_append]
      exact Or.inr (Or.inr (Or.inr (Or.inr (Or.inl (Or.inl (List.mem_map.2 ⟨x, hx, rfl⟩))))))
    · simp only [exB, List.mem_cons, List.mem_append]
      exact Or.inr (Or.inr (Or.inr (Or.inr (Or.inl (Or.inr (List.mem_map.2 ⟨x, hx, rfl⟩))))))
  · exact Or.inl (by simp [exB])
  · simp [exB]
  · simp [exB]
  · simp [exB]
/-- What expire leaves alone of the law's own. -/
theorem L3.keep (h : L3 w0 w rb pm am fb gb tmo mp now fn mn F M al pl fl ms v b out) (hx : Fx (exB rb pm am b ms fl) w w') :
    Same w0 w' ∧ w'.rowIs fb 2 fn (fun j => .int .i64 (if j < fn then acc F (j + 1) else 0)) ∧ w'.rowIs gb 2 mn (fun j => .int .i64 (if j < mn then acc (md M) (j + 1) else 0)) := by
  obtain ⟨C, hR⟩ := h.rs
  have hz := h.same.size
  have key : ∀ d c, w.heap[d]? = some (.cells c 2 (0, 0)) → d ≠ b → d ∉ exB rb pm am b ms fl := by
    intro d c hd hne hm
    obtain ⟨r1, r2, r3, r4, r5⟩ := hR.apart (by decide) (by decide) hd
    simp only [exB, List.mem_cons, List.mem_append] at hm
    rcases hm with e | e | e | e | (e | e) | e
    · exact r1 e
    · exact r2 e
    · exact r3 e
    · exact hne e
    · obtain ⟨y, hy, hyd⟩ := List.mem_map.1 e
      have h1 := h.msg y hy
      unfold Msg at h1
      rw [hyd, hd] at h1
      simp at h1
    · obtain ⟨y, hy, hyd⟩ := List.mem_map.1 e
      exact r4 (List.mem_map.2 ⟨(y.eb, .iface 66 (P2 y.mb 0)), List.mem_map.2 ⟨y, hy, rfl⟩, hyd⟩)
    · exact r5 e
  obtain ⟨cf, hcf, _, _⟩ := h.row
  obtain ⟨cg, hcg, _, _⟩ := h.row2
  refine ⟨⟨hx.os.trans h.same.os, hx.output.trans h.same.output, Nat.le_trans hz hx.size, fun j hj => (hx.block j (by omega) ?_).trans (h.same.block j hj)⟩, h.row.of_block (hx.block fb h.row.lt (key fb cf hcf (Ne.symm h.b9))), h.row2.of_block (hx.block gb h.row2.lt (key gb cg hcg (Ne.symm h.b10)))⟩
  intro hm
  have l1 := h.l1
  have l2 := h.l2
  have l3 := h.l3
  have l8 := h.b8
  simp only [exB, List.mem_cons, List.mem_append] at hm
  rcases hm with e | e | e | e | (e | e) | e
  · omega
  · omega
  · omega
  · omega
  · obtain ⟨y, hy, hyd⟩ := List.mem_map.1 e
    have := (h.l7 y hy).1
    omega
  · obtain ⟨y, hy, hyd⟩ := List.mem_map.1 e
    have := (h.l7 y hy).2
    omega
  · have := h.l5 j e
    omega
end
end Go.Proofs.Ybulkakzc

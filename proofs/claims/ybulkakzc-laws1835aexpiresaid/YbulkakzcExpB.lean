/-
  EXPIRE (seat b1835a): the books of its second loop.
-/
import Derived.Test.YbulkakzcExp1
namespace Go.Proofs.Ybulkakzc
open Go.RowKit
set_option linter.unusedSimpArgs false

def sumc : List Ms → Int
  | [] => 0
  | x :: l => x.cost + sumc l
/-- How many are remembered, and the peak, from one abandonment to the next. -/
def evs (L : Int) (s : Int × Int) : Int × Int := ((if L ≤ s.1 then s.1 - 1 else s.1) + 1, if s.2 < (if L ≤ s.1 then s.1 - 1 else s.1) + 1 then (if L ≤ s.1 then s.1 - 1 else s.1) + 1 else s.2)
def ev (L : Int) : Nat → Int × Int → Int × Int
  | 0, s => s
  | n + 1, s => evs L (ev L n s)
/-- The reason for a timeout. -/
def rsT : ByteArray := ⟨#[114, 101, 97, 115, 115, 101, 109, 98, 108, 121, 45, 116, 105, 109, 101, 111, 117, 116]⟩
def line (x : Ms) : Dg := ⟨x.k, ver x.start, rsT, x.frag⟩

theorem dropF_len (mp : Int) (fl : List Fq) : ((dropF mp fl).length : Int) = if 16 * lim mp ≤ (fl.length : Int) then (fl.length : Int) - 1 else (fl.length : Int) := by
  have hlim : 1 ≤ lim mp := by unfold lim; split <;> omega
  unfold dropF
  split
  · rename_i h
    cases fl with
    | nil => simp at h; omega
    | cons x fl => simp
  · rfl
theorem dropA_perm {mp : Int} {al : List En} {fl : List Fq} (h : (keysOf al).Perm (fl.map (·.k))) : (keysOf (dropA mp al fl)).Perm ((dropF mp fl).map (·.k)) := by
  unfold dropA dropF
  split
  · cases fl with
    | nil => exact h
    | cons x fl =>
      simp only [List.tail_cons]
      rw [keysOf_dele]
      exact kdel_head h
  · exact h
theorem dropF_sub (mp : Int) (fl : List Fq) : ∀ x ∈ dropF mp fl, x ∈ fl := by
  intro x hx
  unfold dropF at hx
  split at hx
  · exact List.mem_of_mem_tail hx
  · exact hx
theorem dropF_sublist (mp : Int) (fl : List Fq) : (dropF mp fl).Sublist fl := by
  unfold dropF
  split
  · exact List.tail_sublist fl
  · exact List.Sublist.refl fl

/-- The second loop's state: the messages ms still wait. -/
structure E2 (w0 w : World) (B : List Nat) (rb pm am : Nat) (tmo mp now pk : Int) (al pl : List En) (ms : List Ms) (fl : List Fq) (v : Value) (b : Nat) (out : List Dg) : Prop where
  rs : ∃ C, RS w rb pm am C tmo mp 0 now (sumc ms) pk pl al (sts ms) (fgs fl)
  aperm : (keysOf al).Perm (fl.map (·.k))
  pperm : (keysOf pl).Perm (ms.map (·.k))
  nod : (fl.map (·.k) ++ ms.map (·.k)).Nodup
  mnod : (ms.map (·.mb)).Nodup
  msg : MsOk w ms
  fx : Fx B w0 w
  fb : ∀ x ∈ blks (fgs fl), x ∈ B ∨ w0.heap.size ≤ x
  mB : ∀ x ∈ ms, x.mb ∈ B ∧ x.eb ∈ B
  ds : Ds w v b out
  b1 : b ≠ rb
  b2 : b ≠ pm
  b3 : b ≠ am
  b4 : b ∉ blks (sts ms)
  b5 : b ∉ blks (fgs fl)
  b6 : b ∉ ms.map (·.mb)
  b7 : b < w.heap.size
  b8 : b ∈ B ∨ w0.heap.size ≤ b
  rB : rb ∈ B
  pB : pm ∈ B
  aB : am ∈ B

section
variable {w0 w w' : World} {B : List Nat} {rb pm am : Nat} {tmo mp now pk : Int} {al pl : List En} {ms : List Ms} {fl : List Fq} {v : Value} {b : Nat} {out : List Dg}

theorem E2.same (h : E2 w0 w B rb pm am tmo mp now pk al pl ms fl v b out) (hS : Same w w') : E2 w0 w' B rb pm am tmo mp now pk al pl ms fl v b out := by
  obtain ⟨C, hR⟩ := h.rs
  refine ⟨⟨C, hR.same hS⟩, h.aperm, h.pperm, h.nod, h.mnod, ?_, h.fx.same hS, h.fb, h.mB, h.ds.of_block hS.size (hS.block b), h.b1, h.b2, h.b3, h.b4, h.b5, h.b6, Nat.lt_of_lt_of_le h.b7 hS.size, h.b8, h.rB, h.pB, h.aB⟩
  intro x hx
  have := h.msg x hx
  exact (hS.block _ (lt_of_block this)).trans this

/-- One message has been abandoned. -/
theorem E2.abandon {x : Ms} (h : E2 w0 w B rb pm am tmo mp now pk al pl (x :: ms) fl v b out) {e : Ending}
    (hp : AbPost w rb pm am tmo mp 0 now (sumc (x :: ms) - x.cost) pk (dele x.k pl) al (sts ms) fl x.mb x.k 0 x.fe x.cost x.frag x.start rsT (x.mb :: x.eb :: blks (sts ms) ++ blks (fgs fl)) e w') :
    e = .returned (.agg (dg x.k (ver x.start) rsT x.frag)) ∧ ∃ al' nb, E2 w0 w' B rb pm am tmo mp now (if pk < ((dropF mp fl).length + 1 : Int) then ((dropF mp fl).length + 1 : Int) else pk) al' (dele x.k pl) ms (dropF mp fl ++ [⟨nb, x.k, 0, now⟩]) v b out := by
  obtain ⟨al6, nb, he, hk6, hg6, hF⟩ := hp
  refine ⟨he, al6, nb, ?_⟩
  obtain ⟨C, hR0⟩ := h.rs
  obtain ⟨C6, hR6⟩ := hF.rs
  have far := hF.far
  have hx := h.msg x List.mem_cons_self
  have hsum : sumc (x :: ms) - x.cost = sumc ms := by simp only [sumc]; omega
  rw [hsum] at hR6
  have hnew : x.k ∉ (dropF mp fl).map (·.k) := by
    intro hm
    obtain ⟨y, hy, hyk⟩ := List.mem_map.1 hm
    have hy' := dropF_sub mp fl y hy
    have hn := h.nod
    rw [List.nodup_append] at hn
    exact hn.2.2 y.k (List.mem_map.2 ⟨y, hy', rfl⟩) x.k (by simp) hyk
  have hap := dropA_perm (mp := mp) h.aperm
  have hblt := h.b7
  have hbs : b ∉ (x.mb :: x.eb :: blks (sts ms) ++ blks (fgs fl)) := by
    have h4 := h.b4
    have h6 := h.b6
    simp only [sts, blks, List.map_cons, List.mem_cons, not_or] at h4 h6
    simp only [List.cons_append, List.mem_cons, List.mem_append, not_or]
    exact ⟨h6.1, h4.1, h4.2, h.b5⟩
  refine ⟨⟨C6, hR6⟩, ?_, ?_, ?_, ?_, ?_, h.fx.far far h.rB h.pB h.aB ?_, ?_, fun y hy => h.mB y (List.mem_cons_of_mem _ hy), h.ds.of_block far.size (fun _ => far.block b hblt h.b1 h.b2 h.b3 hbs), h.b1, h.b2, h.b3, ?_, ?_, ?_, Nat.lt_of_lt_of_le hblt far.size, h.b8, h.rB, h.pB, h.aB⟩
  · rw [hk6, kput_new (fun hm => hnew ((hap.mem_iff).1 hm)), List.map_append]
    exact hap.append (List.Perm.refl _)
  · rw [keysOf_dele]
    exact kdel_head h.pperm
  · have hn := h.nod
    rw [List.nodup_append] at hn ⊢
    obtain ⟨n1, n2, n3⟩ := hn
    simp only [List.map_cons, List.nodup_cons] at n2
    refine ⟨?_, n2.2, ?_⟩
    · rw [List.map_append, List.nodup_append]
      refine ⟨((dropF_sublist mp fl).map _).nodup n1, by simp, ?_⟩
      intro a ha c hc hac
      simp only [List.map_cons, List.map_nil, List.mem_singleton] at hc
      subst hc
      exact hnew (hac ▸ ha)
    · intro a ha c hc hac
      rw [List.map_append, List.mem_append] at ha
      rcases ha with ha | ha
      · obtain ⟨y, hy, rfl⟩ := List.mem_map.1 ha
        exact n3 y.k (List.mem_map.2 ⟨y, dropF_sub mp fl y hy, rfl⟩) c (by simp only [List.map_cons]; exact List.mem_cons_of_mem _ hc) hac
      · simp only [List.map_cons, List.map_nil, List.mem_singleton] at ha
        subst ha
        exact n2.1 (hac ▸ hc)
  · have := h.mnod
    simp only [List.map_cons, List.nodup_cons] at this
    exact this.2
  · intro y hy
    have hyw := h.msg y (List.mem_cons_of_mem _ hy)
    obtain ⟨r1, r2, r3, r4, r5⟩ := hR0.apart (by decide) (by decide) hyw
    have hm := h.mnod
    simp only [List.map_cons, List.nodup_cons] at hm
    have hne : y.mb ≠ x.mb := fun e => hm.1 (e ▸ List.mem_map.2 ⟨y, hy, rfl⟩)
    refine (far.block y.mb (lt_of_block hyw) r1 r2 r3 ?_).trans hyw
    simp only [sts, blks, List.map_cons, List.mem_cons, not_or] at r4
    simp only [List.cons_append, List.mem_cons, List.mem_append, not_or]
    exact ⟨hne, r4.1, r4.2, r5⟩
  · intro y hy
    simp only [List.cons_append, List.mem_cons, List.mem_append] at hy
    rcases hy with rfl | rfl | hy | hy
    · exact Or.inl (h.mB x List.mem_cons_self).1
    · exact Or.inl (h.mB x List.mem_cons_self).2
    · obtain ⟨z, hz, rfl⟩ := List.mem_map.1 hy
      obtain ⟨u, hu, rfl⟩ := List.mem_map.1 hz
      exact Or.inl (h.mB u (List.mem_cons_of_mem _ hu)).2
    · exact h.fb y hy
  · intro y hy
    rcases hF.sub y hy with h1 | h1
    · simp only [List.cons_append, List.mem_cons, List.mem_append] at h1
      rcases h1 with rfl | rfl | h1 | h1
      · exact Or.inl (h.mB x List.mem_cons_self).1
      · exact Or.inl (h.mB x List.mem_cons_self).2
      · obtain ⟨z, hz, rfl⟩ := List.mem_map.1 h1
        obtain ⟨u, hu, rfl⟩ := List.mem_map.1 hz
        exact Or.inl (h.mB u (List.mem_cons_of_mem _ hu)).2
      · exact h.fb y h1
    · exact Or.inr (Nat.le_trans h.fx.size h1)
  · intro hb
    exact h.b4 (by simp only [sts, blks, List.map_cons] at hb ⊢; exact List.mem_cons_of_mem _ hb)
  · intro hb
    rcases hF.sub b hb with h1 | h1
    · exact hbs h1
    · omega
  · intro hb
    exact h.b6 (by simp only [List.map_cons]; exact List.mem_cons_of_mem _ hb)

/-- One line more. -/
theorem E2.push (h : E2 w0 w B rb pm am tmo mp now pk al pl ms fl v b out) {v' : Value} {b' : Nat} {d : Dg} (hq : Ds w' v' b' (out ++ [d])) (hb' : b' = b ∨ w.heap.size ≤ b') (ho : w'.os = w.os) (hu : w'.output = w.output) (hz : w.heap.size ≤ w'.heap.size) (hblk : ∀ j, j < w.heap.size → j ≠ b → w'.heap[j]? = w.heap[j]?) :
    E2 w0 w' B rb pm am tmo mp now pk al pl ms fl v' b' (out ++ [d]) := by
  obtain ⟨C, hR⟩ := h.rs
  obtain ⟨cp, hp⟩ := hR.pmap
  obtain ⟨ca, ha⟩ := hR.amap
  have z1 := hR.row.lt
  have z2 := lt_of_block hp
  have z3 := lt_of_block ha
  have z6 := h.fx.size
  have hn : ∀ y, y < w.heap.size → y ≠ b → y ≠ b' := by
    intro y hy hne
    rcases hb' with rfl | hb'
    · exact hne
    · omega
  have hmlt : ∀ y ∈ ms, y.mb < w.heap.size := fun y hy => lt_of_block (h.msg y hy)
  refine ⟨⟨C, hR.congr (hblk _ z1 (Ne.symm h.b1)) (hblk _ z2 (Ne.symm h.b2)) (hblk _ z3 (Ne.symm h.b3)) (fun y hy => hblk y (hR.qs.blks_lt y hy) (fun e => h.b4 (e ▸ hy))) (fun y hy => hblk y (hR.qf.blks_lt y hy) (fun e => h.b5 (e ▸ hy)))⟩, h.aperm, h.pperm, h.nod, h.mnod, ?_, ?_, h.fb, h.mB, hq, Ne.symm (hn rb z1 (Ne.symm h.b1)), Ne.symm (hn pm z2 (Ne.symm h.b2)), Ne.symm (hn am z3 (Ne.symm h.b3)), ?_, ?_, ?_, hq.lt (by simp), ?_, h.rB, h.pB, h.aB⟩
  · intro y hy
    have := h.msg y hy
    exact (hblk _ (lt_of_block this) (fun e => h.b6 (e ▸ List.mem_map.2 ⟨y, hy, rfl⟩))).trans this
  · refine ⟨ho.trans h.fx.os, hu.trans h.fx.output, Nat.le_trans h.fx.size hz, fun j hj hjB => (hblk j (by omega) ?_).trans (h.fx.block j hj hjB)⟩
    rintro rfl
    rcases h.b8 with h8 | h8
    · exact hjB h8
    · omega
  · intro hb
    exact hn b' (hR.qs.blks_lt _ hb) (fun e => h.b4 (e ▸ hb)) rfl
  · intro hb
    exact hn b' (hR.qf.blks_lt _ hb) (fun e => h.b5 (e ▸ hb)) rfl
  · intro hb
    obtain ⟨y, hy, hyb⟩ := List.mem_map.1 hb
    have hlt := hmlt y hy
    rw [hyb] at hlt
    exact hn b' hlt (fun e => h.b6 (e ▸ hb)) rfl
  · rcases hb' with rfl | hb'
    · exact h.b8
    · exact Or.inr (by omega)
end
end Go.Proofs.Ybulkakzc

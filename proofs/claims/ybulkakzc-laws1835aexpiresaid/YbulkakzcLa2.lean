/-
  THE LAW OF EXPIRING (seat b1835a): the second loop's books.
-/
import Derived.Test.YbulkakzcLa1
import Derived.Test.YbulkakzcPend
namespace Go.Proofs.Ybulkakzc
open Go.RowKit
set_option linter.unusedSimpArgs false

/-- The books behind one message more that waits. -/
theorem wait_post {w4 w5 w7 : World} {rb pm am : Nat} {C C5 : Nat → Value} {tmo mp now held pk : Int} {al pl pl' : List En} {st fg : List (Nat × Value)} {mb : Nat} {v : Value} {k : K} {fe co fr : Int} {start : Bool} {c : Nat}
    (h : RS w4 rb pm am C tmo mp 0 now held pk pl al st fg) (hm : Msg w4 mb k 0 fe (.pointer none) co fr start) (hz5 : w5.heap.size = w4.heap.size + 1) (hr5 : w5.rowIs rb 47 26 C5) (hR5 : Ring w5 rb 11 C5 (st ++ [(w4.heap.size, v)])) (hC5 : ∀ j, j ≠ 11 → j ≠ 11 + 1 → j ≠ 11 + 4 → C5 j = C j) (hQ5 : QOnly rb (blks st) w4 w5)
    (ho : OnlyB pm (w5.setCell ⟨mb, 12, none⟩ (P2 w4.heap.size 0)) w7) (hb7 : w7.heap[pm]? = some (.map (ents pl') c)) :
    (∃ C', RS (w7.setCell ⟨rb, 16, none⟩ (.int .i64 (held + co))) rb pm am C' tmo mp 0 now (held + co) pk pl' al (st ++ [(w4.heap.size, v)]) fg) ∧ Msg (w7.setCell ⟨rb, 16, none⟩ (.int .i64 (held + co))) mb k 0 fe (P2 w4.heap.size 0) co fr start ∧
      (w7.setCell ⟨rb, 16, none⟩ (.int .i64 (held + co))).os = w4.os ∧ (w7.setCell ⟨rb, 16, none⟩ (.int .i64 (held + co))).output = w4.output ∧ w4.heap.size ≤ (w7.setCell ⟨rb, 16, none⟩ (.int .i64 (held + co))).heap.size ∧
      (∀ j, j < w4.heap.size → j ≠ rb → j ≠ pm → j ≠ mb → j ∉ blks st → (w7.setCell ⟨rb, 16, none⟩ (.int .i64 (held + co))).heap[j]? = w4.heap[j]?) ∧ w7.rowIs rb 47 26 C5 ∧ Msg w7 mb k 0 fe (P2 w4.heap.size 0) co fr start ∧
      (∀ j, j < w4.heap.size → j ≠ rb → j ≠ pm → j ≠ mb → j ∉ blks st → (w5.setCell ⟨mb, 12, none⟩ (P2 w4.heap.size 0)).heap[j]? = w4.heap[j]?) ∧ (w5.setCell ⟨mb, 12, none⟩ (P2 w4.heap.size 0)).rowIs rb 47 26 C5 ∧ (∀ j, j < w4.heap.size → j ≠ rb → j ≠ pm → j ≠ mb → j ∉ blks st → w7.heap[j]? = w4.heap[j]?) := by
  obtain ⟨cp, hp⟩ := h.pmap
  obtain ⟨ca, ha⟩ := h.amap
  have hpr : pm ≠ rb := ne_map_row hp h.row
  have har : am ≠ rb := ne_map_row ha h.row
  have hpf : pm ∉ blks fg := ne_map_dq hp h.qf
  have hps : pm ∉ blks st := ne_map_dq hp h.qs
  have has : am ∉ blks st := ne_map_dq ha h.qs
  have hmr : mb ≠ rb := ne_msg_row hm h.row (by decide)
  have hmf : mb ∉ blks fg := ne_msg_dq hm h.qf
  have hms : mb ∉ blks st := ne_msg_dq hm h.qs
  have hmp : mb ≠ pm := ne_msg_map hm hp
  have hma : mb ≠ am := ne_msg_map hm ha
  have zp := lt_of_block hp
  have za := lt_of_block ha
  have zm := lt_of_block hm
  have zr := h.row.lt
  have hm5 : w5.heap[mb]? = some (.cells (msg k 0 fe (.pointer none) co fr start) 71 (0, 0)) := (hQ5.block mb zm hmr hms).trans hm
  have h6 : ∀ j, j ≠ mb → (w5.setCell ⟨mb, 12, none⟩ (P2 w4.heap.size 0)).heap[j]? = w5.heap[j]? := fun j hj => heap_set_other _ _ _ hj
  have hm6 : (w5.setCell ⟨mb, 12, none⟩ (P2 w4.heap.size 0)).heap[mb]? = some (.cells (msg k 0 fe (P2 w4.heap.size 0) co fr start) 71 (0, 0)) := by
    rw [heap_set_same hm5]
    rfl
  have hr6 : (w5.setCell ⟨mb, 12, none⟩ (P2 w4.heap.size 0)).rowIs rb 47 26 C5 := hr5.of_block (h6 rb (Ne.symm hmr))
  have hr7 : w7.rowIs rb 47 26 C5 := hr6.of_block (ho.block rb (Ne.symm hpr))
  have hm7 : w7.heap[mb]? = some (.cells (msg k 0 fe (P2 w4.heap.size 0) co fr start) 71 (0, 0)) := (ho.block mb hmp).trans hm6
  have h8 : ∀ j, j ≠ rb → (w7.setCell ⟨rb, 16, none⟩ (.int .i64 (held + co))).heap[j]? = w7.heap[j]? := fun j hj => heap_set_other _ _ _ hj
  have hk6 : ∀ j, j < w4.heap.size → j ≠ rb → j ≠ pm → j ≠ mb → j ∉ blks st → (w5.setCell ⟨mb, 12, none⟩ (P2 w4.heap.size 0)).heap[j]? = w4.heap[j]? := fun j h1 h2 _ h4 h5 => (h6 j h4).trans (hQ5.block j h1 h2 h5)
  have hk7 : ∀ j, j < w4.heap.size → j ≠ rb → j ≠ pm → j ≠ mb → j ∉ blks st → w7.heap[j]? = w4.heap[j]? := fun j h1 h2 h3 h4 h5 => (ho.block j h3).trans (hk6 j h1 h2 h3 h4 h5)
  have hk : ∀ j, j < w4.heap.size → j ≠ rb → j ≠ pm → j ≠ mb → j ∉ blks st → (w7.setCell ⟨rb, 16, none⟩ (.int .i64 (held + co))).heap[j]? = w4.heap[j]? := fun j h1 h2 h3 h4 h5 => (h8 j h2).trans (hk7 j h1 h2 h3 h4 h5)
  have z7 : w7.heap.size = w4.heap.size + 1 := by rw [ho.size, World.size_setCell, hz5]
  refine ⟨⟨up1 C5 16 (.int .i64 (held + co)), row_up hr7 16 _, (h.rc.of (Or.inl rfl) hC5).held _, ⟨c, (h8 pm hpr).trans hb7⟩, ⟨ca, (hk am za har (Ne.symm h.mm) (Ne.symm hma) has).trans ha⟩, ?_, ?_, ?_, h.mm⟩, (h8 mb hmr).trans hm7, ho.os.trans hQ5.os, ho.output.trans hQ5.output, by rw [World.size_setCell, z7]; omega, hk, hr7, hm7, hk6, hr6, hk7⟩
  · have hD : DQ w5 rb 11 C5 (st ++ [(w4.heap.size, v)]) := Or.inr hR5
    refine hD.congr (fun b hb => ?_) (up1_other _ _ (by omega)) (up1_other _ _ (by omega)) (up1_other _ _ (by omega))
    simp only [blks, List.map_append, List.map_cons, List.map_nil, List.mem_append, List.mem_singleton] at hb
    have hbr : b ≠ rb := by
      rcases hb with hb | hb
      · exact dq_ne h.qs b hb
      · omega
    have hbp : b ≠ pm := by
      rcases hb with hb | hb
      · exact fun e => hps (e ▸ hb)
      · omega
    have hbm : b ≠ mb := by
      rcases hb with hb | hb
      · exact fun e => hms (e ▸ hb)
      · omega
    exact ((h8 _ hbr).trans (ho.block _ hbp)).trans (h6 _ hbm)
  · have hne : ∀ b ∈ blks fg, b ≠ rb := dq_ne h.qf
    refine h.qf.congr (fun b hb => hk b (h.qf.blks_lt b hb) (hne b hb) (fun e => hpf (e ▸ hb)) (fun e => hmf (e ▸ hb)) (fun hs => h.dj b hs hb)) ((up1_other _ _ (by omega)).trans (hC5 18 (by omega) (by omega) (by omega))) ((up1_other _ _ (by omega)).trans (hC5 19 (by omega) (by omega) (by omega))) ((up1_other _ _ (by omega)).trans (hC5 22 (by omega) (by omega) (by omega)))
  · intro b hb hb'
    simp only [blks, List.map_append, List.map_cons, List.map_nil, List.mem_append, List.mem_singleton] at hb
    rcases hb with hb | hb
    · exact h.dj b hb hb'
    · have := h.qf.blks_lt _ hb'
      omega

/-- A message of the law's input. -/
structure Mg where
  d : Int
  c : Int
  f : Int
  s : Bool
structure Mg.Ok (x : Mg) : Prop where
  d0 : 0 ≤ x.d
  d1 : x.d < 256
  c0 : 0 ≤ x.c
  c1 : x.c < 256
  f0 : 0 ≤ x.f
  f1 : x.f < 256
def mgc (x : Mg) : Array Value := #[.int .u8 x.d, .int .u8 x.c, .int .u8 x.f, .bool x.s]
def MgAt (w : World) (b o : Nat) (x : Mg) : Prop := w.cell? ⟨b, o, none⟩ = some (.int .u8 x.d) ∧ w.cell? ⟨b, o + 1, none⟩ = some (.int .u8 x.c) ∧ w.cell? ⟨b, o + 2, none⟩ = some (.int .u8 x.f) ∧ w.cell? ⟨b, o + 3, none⟩ = some (.bool x.s)
theorem MgAt.of_block {w w' : World} {b o : Nat} {x : Mg} (h : MgAt w b o x) (e : w'.heap[b]? = w.heap[b]?) : MgAt w' b o x := by
  have c : ∀ j, w'.cell? ⟨b, j, none⟩ = w.cell? ⟨b, j, none⟩ := fun j => World.cell?_of_block (a := ⟨b, j, none⟩) e
  obtain ⟨h0, h1, h2, h3⟩ := h
  exact ⟨(c _).trans h0, (c _).trans h1, (c _).trans h2, (c _).trans h3⟩
structure Imp (w : World) (ao : Option Addr) (n b off : Nat) (M : Nat → Mg) : Prop where
  addr : 0 < n → ao = some ⟨b, off, none⟩
  lt : 0 < n → b < w.heap.size
  at_ : ∀ i, i < n → MgAt w b (off + i * 4) (M i)
  ok : ∀ i, i < n → (M i).Ok

def mk_ (j : Nat) : K := ⟨0, 0, (j : Int)⟩
def mks (n : Nat) : List K := (List.range n).map mk_
theorem mks_succ (n : Nat) : mks (n + 1) = mks n ++ [mk_ n] := by simp [mks, List.range_succ]
theorem mks_new (n : Nat) : mk_ n ∉ mks n := by
  intro h
  obtain ⟨j, hj, he⟩ := List.mem_map.1 h
  have hj' := List.mem_range.1 hj
  have := congrArg K.i he
  simp only [mk_] at this
  omega
/-- The seconds of the messages. -/
def md (M : Nat → Mg) (j : Nat) : Int := (M j).d

/-- What the second loop has laid. -/
structure L2 (w0 w : World) (rb pm am tb fb gb : Nat) (tmo mp now : Int) (fn mn : Nat) (F : Nat → Int) (M : Nat → Mg) (r : Nat) (al pl : List En) (fl : List Fq) (ms : List Ms) : Prop where
  same : Same w0 w
  rs : ∃ C, RS w rb pm am C tmo mp 0 now (sumc ms) 0 pl al (sts ms) (fgs fl)
  aperm : (keysOf al).Perm (fl.map (·.k))
  keys : fl.map (·.k) = fks fl.length
  ats : ∀ j x, fl[j]? = some x → x.aw = 0 ∧ x.ae = acc F (j + 1)
  pperm : (keysOf pl).Perm (ms.map (·.k))
  mkeys : ms.map (·.k) = mks ms.length
  mats : ∀ j x, ms[j]? = some x → x.fe = acc (md M) (j + 1) ∧ x.cost = (M j).c ∧ x.frag = (M j).f ∧ x.start = (M j).s
  msg : MsOk w ms
  mnod : (ms.map (·.mb)).Nodup
  base : w.heap[tb]? = some (.cells (tm 0) 34 (0, 0))
  row : w.rowIs fb 2 fn (fun j => .int .i64 (if j < fn then acc F (j + 1) else 0))
  row2 : w.rowIs gb 2 mn (fun j => .int .i64 (if j < r then acc (md M) (j + 1) else 0))
  fg : fb ≠ gb
  l1 : w0.heap.size ≤ rb
  l2 : w0.heap.size ≤ pm
  l3 : w0.heap.size ≤ am
  l4 : w0.heap.size ≤ fb
  l5 : ∀ b ∈ blks (fgs fl), w0.heap.size ≤ b
  l6 : w0.heap.size ≤ gb
  l7 : ∀ x ∈ ms, w0.heap.size ≤ x.mb ∧ w0.heap.size ≤ x.eb

section
variable {w0 w w' : World} {rb pm am tb fb gb : Nat} {tmo mp now : Int} {fn mn : Nat} {F : Nat → Int} {M : Nat → Mg} {r : Nat} {al pl : List En} {fl : List Fq} {ms : List Ms}
theorem L2.move (h : L2 w0 w rb pm am tb fb gb tmo mp now fn mn F M r al pl fl ms) (hS : Same w w') : L2 w0 w' rb pm am tb fb gb tmo mp now fn mn F M r al pl fl ms := by
  obtain ⟨C, hR⟩ := h.rs
  exact ⟨h.same.trans hS, ⟨C, hR.same hS⟩, h.aperm, h.keys, h.ats, h.pperm, h.mkeys, h.mats, fun x hx => (hS.block _ (lt_of_block (h.msg x hx))).trans (h.msg x hx), h.mnod, (hS.block _ (lt_of_block h.base)).trans h.base, h.row.of_block (hS.block _ h.row.lt), h.row2.of_block (hS.block _ h.row2.lt), h.fg, h.l1, h.l2, h.l3, h.l4, h.l5, h.l6, h.l7⟩
/-- One second more is laid. -/
theorem L2.sec (h : L2 w0 w rb pm am tb fb gb tmo mp now fn mn F M r al pl fl ms) : L2 w0 (w.setCell ⟨gb, r, none⟩ (.int .i64 (acc (md M) (r + 1)))) rb pm am tb fb gb tmo mp now fn mn F M (r + 1) al pl fl ms := by
  obtain ⟨C, hR⟩ := h.rs
  obtain ⟨c, hc, _, _⟩ := h.row2
  obtain ⟨a1, a2, a3, a4, a5⟩ := hR.apart (by decide) (by decide) hc
  have hl := h.l6
  refine ⟨⟨h.same.os, h.same.output, by rw [World.size_setCell]; exact h.same.size, fun j hj => (heap_set_other _ _ _ (by omega)).trans (h.same.block j hj)⟩,
    ⟨C, hR.congr (heap_set_other _ _ _ (Ne.symm a1)) (heap_set_other _ _ _ (Ne.symm a2)) (heap_set_other _ _ _ (Ne.symm a3)) (fun b hb => heap_set_other _ _ _ (fun e => a4 (e ▸ hb))) (fun b hb => heap_set_other _ _ _ (fun e => a5 (e ▸ hb)))⟩,
    h.aperm, h.keys, h.ats, h.pperm, h.mkeys, h.mats, fun x hx => (heap_set_other _ _ _ (ne_cells_row (h.msg x hx) h.row2 (by decide))).trans (h.msg x hx), h.mnod, (heap_set_other _ _ _ (ne_cells_row h.base h.row2 (by decide))).trans h.base, h.row.of_block (heap_set_other _ _ _ h.fg), (h.row2.set r _).congr (fun i _ => ?_), h.fg, h.l1, h.l2, h.l3, h.l4, h.l5, h.l6, h.l7⟩
  by_cases h1 : i = r
  · subst h1
    simp
  · rw [if_neg h1]
    by_cases h2 : i < r
    · rw [if_pos h2, if_pos (by omega)]
    · rw [if_neg h2, if_neg (by omega)]

theorem sumc_app : ∀ (l : List Ms) (x : Ms), sumc (l ++ [x]) = sumc l + x.cost
  | [], x => by simp [sumc]
  | y :: l, x => by
    have := sumc_app l x
    simp only [List.cons_append, sumc, this]
    omega
/-- One message more waits. -/
theorem L2.next (h : L2 w0 w rb pm am tb fb gb tmo mp now fn mn F M r al pl fl ms) {mb eb c : Nat} {fe co fr : Int} {st : Bool} (hm : Msg w mb (mk_ ms.length) 0 fe (.pointer none) co fr st) (hmb : w0.heap.size ≤ mb) (heb : w.heap.size ≤ eb)
    (hfe : fe = acc (md M) (ms.length + 1)) (hco : co = (M ms.length).c) (hfr : fr = (M ms.length).f) (hst : st = (M ms.length).s)
    (hR' : ∃ C', RS w' rb pm am C' tmo mp 0 now (sumc ms + co) 0 (put (mk_ ms.length) (P2 mb 0) c pl) al (sts ms ++ [(eb, .iface 66 (P2 mb 0))]) (fgs fl)) (hM' : Msg w' mb (mk_ ms.length) 0 fe (P2 eb 0) co fr st) (ho : w'.os = w.os) (hu : w'.output = w.output) (hz : w.heap.size ≤ w'.heap.size)
    (hB : ∀ j, j < w.heap.size → j ≠ rb → j ≠ pm → j ≠ mb → j ∉ blks (sts ms) → w'.heap[j]? = w.heap[j]?) :
    L2 w0 w' rb pm am tb fb gb tmo mp now fn mn F M r al (put (mk_ ms.length) (P2 mb 0) c pl) fl (ms ++ [⟨eb, mb, mk_ ms.length, fe, co, fr, st⟩]) := by
  obtain ⟨C, hR⟩ := h.rs
  have hx : ∀ y ∈ ms, y.mb ≠ mb := by
    intro y hy e
    have h1 := h.msg y hy
    unfold Msg at h1 hm
    rw [e, hm] at h1
    simp [Ybulkakzc.msg] at h1
  have hnew : mk_ ms.length ∉ keysOf pl := by
    intro hk
    have := (h.pperm.mem_iff).1 hk
    rw [h.mkeys] at this
    exact mks_new _ this
  have hsz := h.same.size
  obtain ⟨cf, hcf, _, _⟩ := h.row
  obtain ⟨f1, f2, f3, f4, f5⟩ := hR.apart (by decide) (by decide) hcf
  obtain ⟨cg, hcg, _, _⟩ := h.row2
  obtain ⟨g1, g2, g3, g4, g5⟩ := hR.apart (by decide) (by decide) hcg
  obtain ⟨t1, t2, t3, t4, t5⟩ := hR.apart (by decide) (by decide) h.base
  have hsts : sts (ms ++ [⟨eb, mb, mk_ ms.length, fe, co, fr, st⟩]) = sts ms ++ [(eb, .iface 66 (P2 mb 0))] := by simp [sts]
  refine ⟨⟨ho.trans h.same.os, hu.trans h.same.output, Nat.le_trans hsz hz, fun j hj => ?_⟩, ?_, h.aperm, h.keys, h.ats, ?_, ?_, ?_, ?_, ?_, ?_, h.row.of_block (hB fb h.row.lt f1 f2 (Ne.symm (ne_cells_row hm h.row (by decide))) f4), h.row2.of_block (hB gb h.row2.lt g1 g2 (Ne.symm (ne_cells_row hm h.row2 (by decide))) g4), h.fg, h.l1, h.l2, h.l3, h.l4, h.l5, h.l6, ?_⟩
  · have l1 := h.l1
    have l2 := h.l2
    refine (hB j (by omega) (by omega) (by omega) (by omega) (fun hb => ?_)).trans (h.same.block j hj)
    obtain ⟨z, hz', rfl⟩ := List.mem_map.1 hb
    obtain ⟨u, hu', rfl⟩ := List.mem_map.1 hz'
    have := (h.l7 u hu').2
    simp only at hj
    omega
  · rw [hsts, sumc_app]
    exact hR'
  · rw [keysOf_put, kput_new hnew, List.map_append]
    exact h.pperm.append (List.Perm.refl _)
  · rw [List.map_append, h.mkeys, List.length_append, List.length_cons, List.length_nil, Nat.zero_add, mks_succ]
    rfl
  · intro j x hx'
    rw [List.getElem?_append] at hx'
    split at hx'
    · exact h.mats j x hx'
    · rename_i hj
      have hj0 : j - ms.length = 0 := by
        have := (List.getElem?_eq_some_iff.1 hx').1
        simp at this
        omega
      rw [hj0] at hx'
      simp at hx'
      subst hx'
      have : j = ms.length := by omega
      rw [this]
      exact ⟨hfe, hco, hfr, hst⟩
  · intro y hy
    rcases List.mem_append.1 hy with hy | hy
    · have hyw := h.msg y hy
      obtain ⟨r1, r2, r3, r4, r5⟩ := hR.apart (by decide) (by decide) hyw
      exact (hB y.mb (lt_of_block hyw) r1 r2 (hx y hy) r4).trans hyw
    · rw [List.mem_singleton.1 hy]
      exact hM'
  · rw [List.map_append, List.nodup_append]
    refine ⟨h.mnod, by simp, ?_⟩
    intro a ha b hb hab
    obtain ⟨y, hy, rfl⟩ := List.mem_map.1 ha
    simp only [List.map_cons, List.map_nil, List.mem_singleton] at hb
    exact hx y hy (hab.trans hb)
  · exact (hB tb (lt_of_block h.base) t1 t2 (by
      intro e
      have hb := h.base
      unfold Msg at hm
      rw [e, hm] at hb
      simp at hb) t4).trans h.base
  · intro y hy
    rcases List.mem_append.1 hy with hy | hy
    · exact h.l7 y hy
    · rw [List.mem_singleton.1 hy]
      exact ⟨hmb, by show w0.heap.size ≤ eb; omega⟩
end
end Go.Proofs.Ybulkakzc

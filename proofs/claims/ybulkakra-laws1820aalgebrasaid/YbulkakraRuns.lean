/-
  RUNS of seat b1820a: runs.add, runs.get, list.at.
-/
import Derived.Test.YbulkakraList
namespace Go.Proofs.Ybulkakra
open Go.RowKit
set_option linter.unusedSimpArgs false
set_option linter.unusedVariables false

/-- append where there is room, as one step of a region that draws. -/
theorem step_room2 {ops : Array Oper} {o : Oper} {a : Act} {w : World} {K : Act → World → Prop} {Q : Exit → Act → World → Prop} {E : Prop}
    (hg : o.guard = none) (s x : Operand) (t e : TypeId) (z : Nat) (he : Elem t e z) (hop : o.op = Op.call { callee := Callee.builtin Builtin.append, args := #[s, x], argTypes := #[t, t] })
    (b n cap m c : Nat) (ad : Addr) (news : List Value) (hs : a.eval s = .slice (some ⟨b, 0, none⟩) n cap) (hx : a.eval x = .slice (some ad) m c) (hn : news.length = m * z) (hc : ∀ j u, news[j]? = some u → w.cell? (ad.add j) = some u) (h1c : ∀ u ∈ news, u.oneCell' = true)
    (hroom : n + m ≤ cap) (hspare : ∀ j, j < m * z → (w.cell? ⟨b, n * z + j, none⟩).isSome = true ∧ w.frozen? ⟨b, n * z + j, none⟩ = false)
    (hK : K (a.put o.dst (.slice (some ⟨b, 0, none⟩) (n + m) cap)) (w.setCells b (n * z) news)) :
    if Region.wanted o (yielded ops a.tmps) = true then Oper.wp Yba.prog o a w K Q else E := by
  obtain ⟨hu, i, zv, hi, hz0, hz1, _⟩ := he
  refine step_append_room hg s x t hop e i z hu hi hz1 b 0 n cap hs ad m c news hx hn hc h1c hroom ?_ (by rw [Nat.zero_add]; exact hK)
  intro j hj
  rw [Nat.zero_add]
  exact hspare j (by rw [← hn]; exact hj)

theorem or_zero_u32 (n : Nat) (hn : n < 4294967296) : bits .or .u32 0 (n : Int) = (n : Int) := by
  have := (bits_nat .u32 32 (by decide) (fun n h1 h2 => by rw [IntKind.wrap_u32]; simp at h2; omega) 0 n (by omega) (by omega)).2
  simpa using this

set_option maxRecDepth 100000 in
set_option maxHeartbeats 400000 in
theorem runs_more (w : World) (d o ob cb n m c c0 : Nat) (ad : Addr) (news : List Value)
    (h0 : w.cell? ⟨d, o, none⟩ = some (.slice (some ⟨ob, 0, none⟩) 1 c0))
    (h2 : w.cell? ⟨ob, 0, none⟩ = some (.slice (some ⟨cb, 0, none⟩) n 65536)) (f2 : w.frozen? ⟨ob, 0, none⟩ = false) (hn : n + m ≤ 65536)
    (hs : ∀ j, j < m * 2 → (w.cell? ⟨cb, n * 2 + j, none⟩).isSome = true ∧ w.frozen? ⟨cb, n * 2 + j, none⟩ = false) (n3 : cb ≠ ob) (n2 : cb ≠ d)
    (hl : news.length = m * 2) (hc : ∀ j u, news[j]? = some u → w.cell? (ad.add j) = some u) (h1c : ∀ u ∈ news, u.oneCell' = true) :
    Calls Yba.prog 38 #[.pointer (some ⟨d, o, none⟩), .slice (some ad) m c] w fun e w' => e = .returned (.int .u32 (n : Int)) ∧ ∃ N, w' = ((w.drewN N).setCells cb (n * 2) news).setCell ⟨ob, 0, none⟩ (.slice (some ⟨cb, 0, none⟩) (n + m) 65536) := by
  have e1 : decide ((65536 : Int) < (n : Int) + (m : Int)) = false := by simp; omega
  have hw : IntKind.i64.wrap ((n : Int) + (m : Int)) = (n : Int) + (m : Int) := by rw [IntKind.wrap_i64]; omega
  have hw2 : IntKind.u32.wrap (n : Int) = (n : Int) := by rw [IntKind.wrap_u32]; omega
  have hor := or_zero_u32 n (by omega)
  have q0 : ∀ N, (w.drewN N).cell? ⟨d, o, none⟩ = some (.slice (some ⟨ob, 0, none⟩) 1 c0) := fun N => h0
  have q2 : ∀ N, (w.drewN N).cell? ⟨ob, 0, none⟩ = some (.slice (some ⟨cb, 0, none⟩) n 65536) := fun N => h2
  have q1 : ∀ N vs, ((w.drewN N).setCells cb (n * 2) vs).cell? ⟨ob, 0, none⟩ = some (.slice (some ⟨cb, 0, none⟩) n 65536) := fun N vs => cellS (w := w.drewN N) h2 (Ne.symm n3) _ _
  have q3 : ∀ N vs, ((w.drewN N).setCells cb (n * 2) vs).frozen? ⟨ob, 0, none⟩ = false := fun N vs => (frozen_setCells _ _ _ _ _).trans f2
  have q4 : ∀ N vs, ((w.drewN N).setCells cb (n * 2) vs).cell? ⟨d, o, none⟩ = some (.slice (some ⟨ob, 0, none⟩) 1 c0) := fun N vs => cellS (w := w.drewN N) h0 (Ne.symm n2) _ _
  have HC : Hid _ := hc
  have HL : Hid _ := hl
  have HO : Hid _ := h1c
  have HS : Hid _ := hs
  clear hc hl h1c hs
  go_enter Yba.func38, Yba.ntmps38
  go_upto_region 2 with fail
  go_quiet (fail)
  go_upto_region 6 with fail
  go_region_law (refine step_room2 (by rfl) (.tmp 76) (.tmp 77) 63 80 2 elem63 (by rfl) cb n 65536 m c ad news (by simp [Act.eval, Act.put]) (by simp [Act.eval, Act.put]) HL.out HC.out HO.out (by omega) HS.out ?_)
  all_goals go_wp2
  all_goals go_ret
  all_goals exact ⟨rfl, nq + 1, rfl⟩

/-- What a first run leaves. -/
def RunP (w w' : World) (d o nd : Nat) (C : Nat → Value) (tg : Nat → Nat) (rO rC m : Nat) (vs : List Value) : Prop :=
  ∃ ob cb c0 tg' g f0, Row w' d nd (up1 C o (.slice (some ⟨ob, 0, none⟩) 1 c0)) ∧ Row w' ob c0 (up1 g 0 (.slice (some ⟨cb, 0, none⟩) m 65536)) ∧ 1 ≤ c0 ∧ Row w' cb (65536 * 2) (upL f0 0 vs) ∧ tg' ob = rO ∧ tg' cb = rC ∧ ob < w'.heap.size ∧ cb < w'.heap.size ∧ Fr (· = tg d) tg w tg' w'
theorem add_block (ad : Addr) (j : Nat) : (ad.add j).block = ad.block := by
  unfold Addr.add
  split <;> rfl
theorem run_rel {w wA : World} {d o nd gb cap' rO rC : Nat} {C f0 f' : Nat → Value} {tg tg0 tg' : Nat → Nat} {cs : Array Value} {T : TypeId} {ad : Addr} {news : List Value} (H1 : Row w d nd C) (H5 : ∀ i, i < 65536 * 2 → cs[i]? = some (f0 i)) (H7 : ∀ j, j < ((w.alloc (.cells cs 80)).alloc (.cells #[.slice (some ⟨w.heap.size, 0, none⟩) 0 65536] T)).heap.size → wA.heap[j]? = ((w.alloc (.cells cs 80)).alloc (.cells #[.slice (some ⟨w.heap.size, 0, none⟩) 0 65536] T)).heap[j]?) (H8 : ((w.alloc (.cells cs 80)).alloc (.cells #[.slice (some ⟨w.heap.size, 0, none⟩) 0 65536] T)).heap.size ≤ gb)
    (HT : tg0 = tagAt (tagAt tg w.heap.size rC) (w.heap.size + 1) 0) (HA : Sl tg' wA rO 1 (.slice (some ⟨gb, 0, none⟩) (0 + 1) cap') (0 + 1) cap' f')
    (HO : ∀ j u, [(Value.slice (some ⟨w.heap.size, 0, none⟩) 0 65536)][j]? = some u → f' (0 * 1 + j) = u) (HF : Fr (· = rO) tg0 ((w.alloc (.cells cs 80)).alloc (.cells #[.slice (some ⟨w.heap.size, 0, none⟩) 0 65536] T)) tg' wA) (HR : Row wA gb (cap' * 1) f') (hgl : gb < wA.heap.size) (hgt : tg' gb = rO)
    (hdl : d < w.heap.size) (hrO : rO ≠ tg d) (hrr : rO ≠ rC) (hc : ∀ j u, news[j]? = some u → w.cell? (ad.add j) = some u) (had : ad.block < w.heap.size) (nad : ad.block ≠ d) :
    Row (wA.setCell ⟨d, o, none⟩ (.slice (some ⟨gb, 0, none⟩) 1 cap')) d nd (up1 C o (.slice (some ⟨gb, 0, none⟩) 1 cap')) ∧ Row (wA.setCell ⟨d, o, none⟩ (.slice (some ⟨gb, 0, none⟩) 1 cap')) gb cap' f' ∧ 1 ≤ cap' ∧ f' 0 = .slice (some ⟨w.heap.size, 0, none⟩) 0 65536 ∧ Row (wA.setCell ⟨d, o, none⟩ (.slice (some ⟨gb, 0, none⟩) 1 cap')) w.heap.size (65536 * 2) f0 ∧ tg' gb = rO ∧ tg' w.heap.size = rC ∧ Fr (· = tg d) tg w tg' (wA.setCell ⟨d, o, none⟩ (.slice (some ⟨gb, 0, none⟩) 1 cap')) ∧ w.heap.size ≤ gb ∧ w.heap.size ≤ w.heap.size ∧ ∀ j u, news[j]? = some u → (wA.setCell ⟨d, o, none⟩ (.slice (some ⟨gb, 0, none⟩) 1 cap')).cell? (ad.add j) = some u := by
  have s1 := World.size_alloc w (.cells cs 80)
  have s2 := World.size_alloc (w.alloc (.cells cs 80)) (.cells #[.slice (some ⟨w.heap.size, 0, none⟩) 0 65536] T)
  have t1 : ∀ b, b < w.heap.size → tg0 b = tg b := fun b hb => by rw [HT, tagAt_other _ (by omega), tagAt_other _ (by omega)]
  have t3 : tg0 w.heap.size = rC := by rw [HT, tagAt_other _ (by omega), tagAt_same]
  have hbig : w.heap.size ≤ gb := by omega
  have e1 : d ≠ gb := by omega
  have B : ∀ b, b < w.heap.size → wA.heap[b]? = w.heap[b]? := fun b hb => by
    rw [H7 b (by omega), Below.heap_alloc _ _ _ (by omega), Below.heap_alloc _ _ _ hb]
  refine ⟨?_, ?_, by have := HA.le; omega, ?_, ?_, hgt, ?_, ?_, hbig, by omega, ?_⟩
  · exact (H1.of_block (B d hdl)).set o _
  · rw [Nat.mul_one] at HR
    exact HR.setOther (a := ⟨d, o, none⟩) (Ne.symm e1) _
  · exact HO 0 _ rfl
  · refine Row.setOther (a := ⟨d, o, none⟩) ?_ (by show w.heap.size ≠ d; omega) _
    have hr := Row.new w cs 80 (65536 * 2) f0 H5
    refine hr.of_block ?_
    rw [H7 _ (by omega), Below.heap_alloc _ _ _ (by omega)]
  · rw [HF.tag _ (by omega), t3]
  · have hq : Fr (· = tg d) tg w tg' wA := ?_
    · exact hq.set (a := ⟨d, o, none⟩) (.inr rfl) _
    refine ⟨HF.os, HF.output, ?_, ?_, ?_⟩
    · have := HF.size; omega
    · intro b hb
      rw [HF.tag b (by omega), t1 b hb]
    · intro b hb hr
      exact B b hb
  · intro j u hj
    rw [World.cell?_of_block (Below.heap_setCell _ _ _ _ (by rw [add_block]; exact nad)), World.cell?_of_block (B _ (by rw [add_block]; exact had))]
    exact hc j u hj

theorem run_end {w w1 wc : World} {d o nd ob cb c0 rO rC m : Nat} {C g f0 : Nat → Value} {tg tg' : Nat → Nat} (vs : List Value) (J1 : Row wc d nd (up1 C o (.slice (some ⟨ob, 0, none⟩) 1 c0))) (J2 : Row wc ob c0 g) (J5 : Row wc cb (65536 * 2) f0) (J8 : Fr (· = tg d) tg w1 tg' wc) (A7 : ∀ tg' w', Fr (· = tg d) tg w1 tg' w' → Fr (· = tg d) tg w tg' w') (hc3 : 1 ≤ c0) (hc6 : tg' ob = rO) (hc7 : tg' cb = rC) (hc9 : w1.heap.size ≤ ob) (hc10 : w1.heap.size ≤ cb) (n1 : d ≠ ob) (n2 : cb ≠ d) (n3 : cb ≠ ob) :
    RunP w ((wc.drew.setCells cb 0 vs).setCell ⟨ob, 0, none⟩ (.slice (some ⟨cb, 0, none⟩) m 65536)) d o nd C tg rO rC m vs := by
  have hsz : ((wc.drew.setCells cb 0 vs).setCell ⟨ob, 0, none⟩ (.slice (some ⟨cb, 0, none⟩) m 65536)).heap.size = wc.heap.size := by
    rw [World.size_setCell, size_setCells']
    rfl
  have b1 : Row wc.drew d nd (up1 C o (.slice (some ⟨ob, 0, none⟩) 1 c0)) := J1
  have b2 : Row wc.drew ob c0 g := J2
  have b3 : Row wc.drew cb (65536 * 2) f0 := J5
  refine ⟨ob, cb, c0, tg', g, f0, (b1.of_block (heap_setCells _ _ (Ne.symm n2) _ _ _)).setOther (a := ⟨ob, 0, none⟩) n1 _, (b2.of_block (heap_setCells _ _ (Ne.symm n3) _ _ _)).set 0 _, hc3, (Row.setL vs b3 0).setOther (a := ⟨ob, 0, none⟩) n3 _, hc6, hc7, ?_, ?_, ?_⟩
  · rw [hsz]; exact J2.lt hc3
  · rw [hsz]; exact J5.lt (by omega)
  · exact A7 _ _ ((Fr.setL (.inl hc10) vs J8.drew 0).set (a := ⟨ob, 0, none⟩) (.inl hc9) _)

set_option maxRecDepth 100000 in
set_option maxHeartbeats 400000 in
theorem runs_first (w : World) (d o nd m c : Nat) (C : Nat → Value) (ad : Addr) (news : List Value) (tg : Nat → Nat) (rO rC : Nat) (hrO : rO ≠ tg d) (hrr : rO ≠ rC)
    (hd : Row w d nd C) (ho : o < nd) (h0 : C o = .slice none 0 0) (hm : m ≤ 65536) (had : ad.block < w.heap.size) (nad : ad.block ≠ d)
    (hl : news.length = m * 2) (hc : ∀ j u, news[j]? = some u → w.cell? (ad.add j) = some u) (h1c : ∀ u ∈ news, u.oneCell' = true) :
    Calls Yba.prog 38 #[.pointer (some ⟨d, o, none⟩), .slice (some ad) m c] w fun e w' => e = .returned (.int .u32 0) ∧ RunP w w' d o nd C tg rO rC m news := by
  have k0 : w.cell? ⟨d, o, none⟩ = some (.slice none 0 0) := (hd o ho).1.trans (by rw [h0])
  have hdl := hd.lt (by omega)
  have e3 : (if (65536 : Int) < (m : Int) then (m : Int) else 65536) = 65536 := if_neg (by omega)
  obtain ⟨cs, f0, hcs, hcf, hmk⟩ := mk_any elem63 0 65536 (by omega) (by omega)
  have hmk' : ∀ w : World, Sem.run Yba.prog (Instr.makeSlice 63 (.int .i64 0) (.int .i64 65536)) w = .ok (.slice (some ⟨w.heap.size, 0, none⟩) 0 65536) (w.alloc (.cells cs 80)) := hmk
  clear hmk
  have H1 : Hid _ := hd
  have H5 : Hid _ := hcf
  have HC : Hid _ := hc
  have HL : Hid _ := hl
  have HOo : Hid _ := h1c
  clear hd hcf hc hl h1c
  go_enter Yba.func38, Yba.ntmps38
  have q0 : ∀ N, (w.drewN N).cell? ⟨d, o, none⟩ = some (.slice none 0 0) := fun N => k0
  go_upto_region 2 with fail
  go_quiet (fail)
  go_upto_region 3 with fail
  have a1 : Row (w.drewN nq) d nd C := H1.out
  have a3 : Hid (∀ j u, news[j]? = some u → (w.drewN nq).cell? (ad.add j) = some u) := HC.out
  have a4 : d < (w.drewN nq).heap.size := hdl
  have a5 : ad.block < (w.drewN nq).heap.size := had
  have a6 : (w.drewN nq).cell? ⟨d, o, none⟩ = some (.slice none 0 0) := k0
  have a7 : ∀ tg' w', Fr (· = tg d) tg (w.drewN nq) tg' w' → Fr (· = tg d) tg w tg' w' := fun tg' w' h => ⟨h.os, h.output, h.size, h.tag, h.block⟩
  have A1 : Hid _ := a1
  have A7 : Hid _ := a7
  clear H1 HC hdl had k0 q0 a1 a7
  generalize w.drewN nq = w1 at *
  have q0 : ∀ N, (w1.drewN N).cell? ⟨d, o, none⟩ = some (.slice none 0 0) := fun N => a6
  have q1 : ∀ u : Value, ((w1.alloc (.cells cs 80)).alloc (.cells #[u] 63)).cell? ⟨w1.heap.size + 1, 0, none⟩ = some u := fun u => by rw [← World.size_alloc w1 (.cells cs 80)]; exact cell_new0 _ _ _
  have q4 : ∀ o1 : Obj, (w1.alloc o1).cell? ⟨d, o, none⟩ = some (.slice none 0 0) := fun o1 => cellA a6 _
  have q2 : ∀ o1 : Obj, ((w1.alloc (.cells cs 80)).alloc o1).cell? ⟨d, o, none⟩ = some (.slice none 0 0) := fun o1 => cellA (cellA a6 _) _
  have q3 : ∀ o1 : Obj, ((w1.alloc (.cells cs 80)).alloc o1).frozen? ⟨d, o, none⟩ = false := fun o1 => frozA (World.block_lt_of_cell? _ _ (cellA a6 _)) (frozA (World.block_lt_of_cell? _ _ a6) ((A1.out o ho).2) _) _
  obtain ⟨tg0, htg0⟩ : ∃ t, t = tagAt (tagAt tg w1.heap.size rC) (w1.heap.size + 1) 0 := ⟨_, rfl⟩
  have hd0 : tg0 d = tg d := by rw [htg0, tagAt_other _ (by omega), tagAt_other _ (by omega)]
  have hrO' : ¬ (tg0 d = rO) := by rw [hd0]; exact Ne.symm hrO
  have HT : Hid _ := htg0
  clear htg0
  go_cut [] from 37 to 49 (fun wx => ∃ ob cb c0 tg' g, Row wx d nd (up1 C o (.slice (some ⟨ob, 0, none⟩) 1 c0)) ∧ Row wx ob c0 g ∧ 1 ≤ c0 ∧ g 0 = .slice (some ⟨cb, 0, none⟩) 0 65536 ∧ Row wx cb (65536 * 2) f0 ∧ tg' ob = rO ∧ tg' cb = rC ∧ Fr (· = tg d) tg w1 tg' wx ∧ w1.heap.size ≤ ob ∧ w1.heap.size ≤ cb ∧ ∀ j u, news[j]? = some u → wx.cell? (ad.add j) = some u)
  case first =>
    go_region_law (refine step_app (by rfl) (.tmp 41) (.tmp 46) 46 63 1 elem46 (by omega) (by rfl) (Sl.nil tg0 _ rO 1 (fun _ => .bool true)) _ 1 _ (src_one elem46.1 (q1 _) rfl) (by simp [Act.eval, Act.put]) (by simp [Act.eval, Act.put]) (by omega) ?_; intro v' wA tg' cap' f' hA hold hnew hFr hcap; obtain ⟨gb, rfl, hgl, hgt, hgr⟩ := hA.pos (by omega); obtain ⟨⟨gb2, hgb2, hgb3⟩, H7'⟩ := hcap rfl (by omega); obtain rfl : gb = gb2 := slice_blk hgb2; have H7 : Hid _ := H7'; have H8 : Hid _ := hgb3; clear H7' hgb2 hgb3; have c1 : wA.cell? ⟨d, o, none⟩ = some (.slice none 0 0) := (hFr.cell (World.block_lt_of_cell? _ _ (q2 _)) hrO').trans (q2 _); have c2 : wA.frozen? ⟨d, o, none⟩ = false := (hFr.frozen (World.block_lt_of_cell? _ _ (q2 _)) hrO').trans (q3 _); have HA : Hid _ := hA; have HO : Hid _ := hnew; have HF : Hid _ := hFr; have HR : Hid _ := hgr; clear hA hold hnew hFr hgr hcap)
    all_goals (go_wp2_with fail; go_meet)
    all_goals (refine ⟨gb, w1.heap.size, cap', tg', f', ?_⟩; exact run_rel A1.out H5.out H7.out H8.out HT.out HA.out HO.out HF.out.fromDrew HR.out hgl hgt a4 hrO hrr a3.out a5 nad)
  case rest =>
    obtain ⟨ob, cb, c0, tg', g, hc1, hc2, hc3, hc4, hc5, hc6, hc7, hc8, hc9, hc10, hc11⟩ := hcut
    clear q0 q1 q2 q3 q4 hmk' a6
    have k0 : wc.cell? ⟨d, o, none⟩ = some (.slice (some ⟨ob, 0, none⟩) 1 c0) := by rw [(hc1 o (by omega)).1, up1_same]
    have k2 : wc.cell? ⟨ob, 0, none⟩ = some (.slice (some ⟨cb, 0, none⟩) 0 65536) := by rw [(hc2 0 hc3).1, hc4]
    have g2 := (hc2 0 hc3).2
    have hs' : ∀ j, j < m * 2 → (wc.cell? ⟨cb, 0 * 2 + j, none⟩).isSome = true ∧ wc.frozen? ⟨cb, 0 * 2 + j, none⟩ = false := fun j hj => by
      rw [Nat.zero_mul, Nat.zero_add]
      exact ⟨by rw [(hc5 j (by omega)).1]; rfl, (hc5 j (by omega)).2⟩
    have hdt : tg' d = tg d := hc8.tag d a4
    have n1 : d ≠ ob := by rintro rfl; omega
    have n1' := n1.symm
    have n2 : cb ≠ d := by rintro rfl; omega
    have n3 : cb ≠ ob := by rintro rfl; omega
    have hor : bits .or .u32 0 0 = 0 := by simpa using or_zero_u32 0 (by omega)
    have q0 : ∀ N, (wc.drewN N).cell? ⟨d, o, none⟩ = some (.slice (some ⟨ob, 0, none⟩) 1 c0) := fun N => k0
    have q5 : ∀ N, (wc.drewN N).cell? ⟨ob, 0, none⟩ = some (.slice (some ⟨cb, 0, none⟩) 0 65536) := fun N => k2
    have q1 : ∀ N vs, ((wc.drewN N).setCells cb 0 vs).cell? ⟨ob, 0, none⟩ = some (.slice (some ⟨cb, 0, none⟩) 0 65536) := fun N vs => cellS (w := wc.drewN N) k2 (Ne.symm n3) _ _
    have q2 : ∀ N vs, ((wc.drewN N).setCells cb 0 vs).frozen? ⟨ob, 0, none⟩ = false := fun N vs => (frozen_setCells _ _ _ _ _).trans g2
    have q3 : ∀ N vs, ((wc.drewN N).setCells cb 0 vs).cell? ⟨d, o, none⟩ = some (.slice (some ⟨ob, 0, none⟩) 1 c0) := fun N vs => cellS (w := wc.drewN N) k0 (Ne.symm n2) _ _
    have q6 : ∀ vs, (wc.drew.setCells cb 0 vs).cell? ⟨ob, 0, none⟩ = some (.slice (some ⟨cb, 0, none⟩) 0 65536) := fun vs => q1 1 vs
    have q7 : ∀ vs, (wc.drew.setCells cb 0 vs).frozen? ⟨ob, 0, none⟩ = false := fun vs => q2 1 vs
    have q8 : ∀ vs, (wc.drew.setCells cb 0 vs).cell? ⟨d, o, none⟩ = some (.slice (some ⟨ob, 0, none⟩) 1 c0) := fun vs => q3 1 vs
    have J1 : Hid _ := hc1
    have J2 : Hid _ := hc2
    have J5 : Hid _ := hc5
    have J8 : Hid _ := hc8
    have JC : Hid _ := hc11
    clear hc1 hc2 hc5 hc8 hc11
    go_upto_region 6 with fail
    go_region_law (refine step_room2 (by rfl) (.tmp 76) (.tmp 77) 63 80 2 elem63 (by rfl) cb 0 65536 m c ad news (by simp [Act.eval, Act.put]) (by simp [Act.eval, Act.put]) HL.out JC.out HOo.out (by omega) hs' ?_)
    all_goals (go_wp2; go_ret)
    all_goals exact ⟨rfl, run_end news J1.out J2.out J5.out J8.out A7.out hc3 hc6 hc7 hc9 hc10 n1 n2 n3⟩

end Go.Proofs.Ybulkakra

/-
  All of seat b1820a.
-/
import Derived.Test.YbulkakraWalk2
namespace Go.Proofs.Ybulkakra
open Go.RowKit
set_option linter.unusedSimpArgs false
set_option linter.unusedVariables false

theorem all9 (w : World) (d a : Nat) : Calls Yba.prog 9 #[.pointer (some ⟨d, 0, none⟩), .int .u32 (a : Int)] w fun e w' => e = .returned (.func (.func 22) #[] #[.pointer (some ⟨w.heap.size, 0, none⟩), .pointer (some ⟨w.heap.size + 1, 0, none⟩)]) ∧ w' = (w.alloc (.cells #[.pointer (some ⟨d, 0, none⟩)] 23)).alloc (.cells #[.int .u32 (a : Int)] 27) := by
  go_enter Yba.func9, Yba.ntmps9
  go_wp2
  go_ret
  exact ⟨rfl, rfl⟩
theorem run_storeV (W : World) (a : Addr) (u v : Value) (h : W.cell? a = some u) (hf : W.frozen? a = false) (h1 : v.oneCell' = true) : Sem.run Yba.prog (store a v) W = .ok () (W.setCell a v) := by
  rw [Go.run_store Yba.prog W a v _ h1]
  simp [stored, h, hf]
/-- What All leaves. -/
structure AllP (W : Nat → Bool) (bp bg bo : Nat) (tg : Nat → Nat) (w w' : World) : Prop where
  co : w'.cell? ⟨bo, 0, none⟩ = some (.bool true)
  cg : w'.cell? ⟨bg, 0, none⟩ = some (.int .i64 (cnt W 64 : Int))
  os : w'.os = w.os
  output : w'.output = w.output
  size : w.heap.size ≤ w'.heap.size
  block : ∀ x, x < w.heap.size → tg x ≠ 1 → tg x ≠ 8 → x ≠ bp → x ≠ bg → w'.heap[x]? = w.heap[x]?
set_option maxRecDepth 100000 in
set_option maxHeartbeats 400000 in
theorem all22 (tg : Nat → Nat) (w : World) (d bdd ba bp bg bw bo a : Nat) (N : List Nd) (W : Nat → Bool) (hS : St tg w d N []) (hw : Wf N) (hn : N.length ≤ 65000) (he : esum N ≤ 65536) (ha : a < N.length) (hsay : Says N W 0 a 0)
    (cd : w.cell? ⟨bdd, 0, none⟩ = some (.pointer (some ⟨d, 0, none⟩))) (ca : w.cell? ⟨ba, 0, none⟩ = some (.int .u32 (a : Int))) (cp : w.cell? ⟨bp, 0, none⟩ = some (.int .i64 (-1))) (fp : w.frozen? ⟨bp, 0, none⟩ = false) (cg : w.cell? ⟨bg, 0, none⟩ = some (.int .i64 0)) (fg : w.frozen? ⟨bg, 0, none⟩ = false) (co : w.cell? ⟨bo, 0, none⟩ = some (.bool true)) (row : Row w bw 64 (fun i => .bool (W i)))
    (td : tg bdd = 0) (tp : tg bp = 0) (tgg : tg bg = 0) (tw : tg bw = 0) (too : tg bo = 0) (n1 : bp ≠ bdd) (n2 : bp ≠ bg) (n3 : bp ≠ bw) (n4 : bg ≠ bdd) (n5 : bg ≠ bw) (n6 : bo ≠ bp) (n7 : bo ≠ bg) :
    Calls Yba.prog 22 #[.func (.func 10) #[] #[.pointer (some ⟨bo, 0, none⟩), .pointer (some ⟨bp, 0, none⟩), .pointer (some ⟨bw, 0, none⟩), .pointer (some ⟨bg, 0, none⟩)], .pointer (some ⟨bdd, 0, none⟩), .pointer (some ⟨ba, 0, none⟩)] w fun e w' => (∃ v, e = .returned v) ∧ AllP W bp bg bo tg w w' := by
  obtain ⟨n, hnn⟩ : ∃ n, n = w.heap.size := ⟨_, rfl⟩
  have l1 : bdd < n := by rw [hnn]; exact World.block_lt_of_cell? _ _ cd
  have l2 : bp < n := by rw [hnn]; exact World.block_lt_of_cell? _ _ cp
  have l3 : bg < n := by rw [hnn]; exact World.block_lt_of_cell? _ _ cg
  have l4 : bo < n := by rw [hnn]; exact World.block_lt_of_cell? _ _ co
  have l5 : bw < n := by rw [hnn]; exact row.lt (by omega)
  obtain ⟨b, hb⟩ : ∃ b : Bl, b = ⟨d, n, n + 2, bdd, n + 1, bp, bg, bw, bo⟩ := ⟨_, rfl⟩
  have ok : b.Ok := by
    rw [hb]
    refine ⟨?_, ?_, ?_, ?_, ?_, ?_, ?_, ?_, ?_, ?_, ?_, ?_, ?_, ?_, ?_, ?_, ?_, ?_⟩ <;> dsimp only <;> omega
  obtain ⟨w1, hw1⟩ : ∃ w1, w1 = ((w.alloc (.cells #[fnY b] 38)).alloc (.cells #[.slice none 0 0] 34)).alloc (.cells #[fnK b] 86) := ⟨_, rfl⟩
  obtain ⟨tg1, htg1⟩ : ∃ t, t = tagAt (tagAt (tagAt tg n 0) (n + 1) 0) (n + 2) 0 := ⟨_, rfl⟩
  have s1 := World.size_alloc w (.cells #[fnY b] 38)
  have s2 := World.size_alloc (w.alloc (.cells #[fnY b] 38)) (.cells #[.slice none 0 0] 34)
  have hJ1 : Jk w w1 := by rw [hw1]; exact (((Jk.refl w).alloc _).alloc _).alloc _
  have tt : ∀ x, x < n → tg1 x = tg x := fun x hx => by rw [htg1, tagAt_other _ (by omega), tagAt_other _ (by omega), tagAt_other _ (by omega)]
  have c1 : w1.cell? ⟨n, 0, none⟩ = some (fnY b) := by rw [hw1, hnn]; exact cellA (cellA (cell_new0 w _ 38) _) _
  have c2r := Row.new (w.alloc (.cells #[fnY b] 38)) #[.slice none 0 0] 34 1 (fun _ => .slice none 0 0) (fun i hi => by
    have : i = 0 := by omega
    subst this; rfl) 0 (by omega)
  rw [s1, ← hnn] at c2r
  have c2 : w1.cell? ⟨n + 1, 0, none⟩ = some (.slice none 0 0) := by rw [hw1]; exact cellA c2r.1 _
  have f2 : w1.frozen? ⟨n + 1, 0, none⟩ = false := by rw [hw1]; exact frozA (World.block_lt_of_cell? _ _ c2r.1) c2r.2 _
  have c3 : w1.cell? ⟨n + 2, 0, none⟩ = some (fnK b) := by
    have := cell_new0 ((w.alloc (.cells #[fnY b] 38)).alloc (.cells #[.slice none 0 0] 34)) (fnK b) 86
    rw [s2, s1, ← hnn] at this
    rw [hw1]
    exact this
  have hS1 : WS b W N tg1 w1 (-1) 0 (nzp (fun _ => 0) 3) := by
    obtain ⟨C, hC⟩ := hS
    have fz : ∀ {x : Nat} {v : Value}, w.cell? ⟨x, 0, none⟩ = some v → w.frozen? ⟨x, 0, none⟩ = false → w1.frozen? ⟨x, 0, none⟩ = false := fun hv hf => (World.frozen?_of_block (hJ1.block _ (World.block_lt_of_cell? _ _ hv))).trans hf
    subst hb
    refine ⟨⟨C, hC.sm ⟨hJ1.size, fun x v hv => ⟨hJ1.block x (World.block_lt_of_cell? _ _ hv), tt x (by rw [hnn]; exact World.block_lt_of_cell? _ _ hv)⟩⟩⟩, c1, c3, hJ1.cell cd, hJ1.cell cp, fz cp fp, hJ1.cell cg, fz cg fg, hJ1.cell co, hJ1.row row, f2, ⟨.slice none 0 0, 0, fun _ => .bool true, c2, Sl.nil .., fun i hi => by simp [nzp] at hi⟩, ?_, ?_, ?_, ?_, ?_, ?_, ?_, ?_⟩
    · show tg1 n = 0; rw [htg1, tagAt_other _ (by omega), tagAt_other _ (by omega), tagAt_same]
    · show tg1 (n + 2) = 0; rw [htg1, tagAt_same]
    · exact (tt bdd l1).trans td
    · exact (tt bp l2).trans tp
    · exact (tt bg l3).trans tgg
    · exact (tt bw l5).trans tw
    · show tg1 (n + 1) = 0; rw [htg1, tagAt_other _ (by omega), tagAt_same]
    · exact (tt bo l4).trans too
  have HWk : Hid _ := walk_all b W N hw ok hn he 3 tg1 w1 (-1) 0 (fun _ => 0) a 0 hS1 ha (by omega) (by omega) (fun _ => by omega) (fun _ _ => rfl) hsay ⟨by decide, rfl⟩ (by omega)
  have HEnd : Hid (∀ w', WCP b W N tg1 w1 (fun _ => 0) (bq (fun _ => 0) + 4 ^ (3 - 0)) w' → AllP W bp bg bo tg w w') := by
    rintro w' ⟨tg', p', g', z1, z2, z3⟩
    have hsz := hJ1.size
    subst hb
    have hg := z2.2
    refine ⟨z1.co, by have := z1.cg; rw [hg] at this; exact this, z3.os.trans hJ1.os, z3.output.trans hJ1.output, Nat.le_trans hsz z3.size, fun x hx h1 h8 hp hg => ?_⟩
    have hxn : x < n := by rw [hnn]; exact hx
    rw [z3.block x (by omega) (by rw [tt x hxn]; exact h1) (by rw [tt x hxn]; exact h8) (by show x ≠ n + 1; omega) hp hg, hJ1.block x hx]
  have ca1 : w1.cell? ⟨ba, 0, none⟩ = some (.int .u32 (a : Int)) := hJ1.cell ca
  have HW1 : Hid _ := hw1
  have HB : Hid _ := hb
  have hfY : fnY b = .func (.func 10) #[] #[.pointer (some ⟨bo, 0, none⟩), .pointer (some ⟨bp, 0, none⟩), .pointer (some ⟨bw, 0, none⟩), .pointer (some ⟨bg, 0, none⟩)] := by rw [hb]; rfl
  have hfK : fnK b = .func (.func 23) #[] #[.pointer (some ⟨w.heap.size, 0, none⟩), .pointer (some ⟨w.heap.size + 1, 0, none⟩), .pointer (some ⟨bdd, 0, none⟩), .pointer (some ⟨w.heap.size + 1 + 1, 0, none⟩)] := by rw [hb, hnn]; rfl
  have HNN : Hid _ := hnn
  have HFY : Hid _ := hfY
  have HFK : Hid _ := hfK
  have C3 : Hid (w1.cell? ⟨n + 2, 0, none⟩ = some (fnK b)) := c3
  have HWk2 : Hid (Calls Yba.prog 23 #[.int .u32 (a : Int), .pointer (some ⟨w.heap.size, 0, none⟩), .pointer (some ⟨w.heap.size + 1, 0, none⟩), .pointer (some ⟨bdd, 0, none⟩), .pointer (some ⟨w.heap.size + 1 + 1, 0, none⟩)] w1 fun e w' => e = .returned (.bool true) ∧ WCP b W N tg1 w1 (fun _ => 0) (bq (fun _ => 0) + 4 ^ (3 - 0)) w') := by
    have := HWk.out
    rw [hb, hnn] at this
    rw [hb, hnn]
    exact this
  clear hnn hfY hfK c1 c2 c3 f2 c2r s1 s2 hS1 tt hw1 htg1 hJ1 hb ok hS hw hsay cd cp fp cg fg co row td tp tgg tw too HWk l1 l2 l3 l4 l5
  have hst : ∀ (A B : Obj) (fn : Fn) (x y : Array Value), Sem.run Yba.prog (store ⟨w.heap.size + 1 + 1, 0, none⟩ (.func fn x y)) (((w.alloc A).alloc B).alloc (.cells #[.nilFunc] 86)) = .ok () (((w.alloc A).alloc B).alloc (.cells #[.func fn x y] 86)) := by
    intro A B fn x y
    have hsz : ((w.alloc A).alloc B).heap.size = w.heap.size + 1 + 1 := by rw [World.size_alloc, World.size_alloc]
    have hr := Row.new ((w.alloc A).alloc B) #[.nilFunc] 86 1 (fun _ => .nilFunc) (fun i hi => by
      have : i = 0 := by omega
      subst this; rfl) 0 (by omega)
    rw [hsz] at hr
    rw [run_storeV _ _ _ _ hr.1 hr.2 rfl, World.setCell_alloc_at _ _ _ _ _ hsz.symm]
    rfl
  go_enter Yba.func22, Yba.ntmps22
  go_upto_region 4 with fail
  rw [← HFY.out, ← HFK.out, ← HW1.out]
  have c3' : w1.cell? ⟨w.heap.size + 1 + 1, 0, none⟩ = some (.func (.func 23) #[] #[.pointer (some ⟨w.heap.size, 0, none⟩), .pointer (some ⟨w.heap.size + 1, 0, none⟩), .pointer (some ⟨bdd, 0, none⟩), .pointer (some ⟨w.heap.size + 1 + 1, 0, none⟩)]) := by
    have := C3.out
    rw [HFK.out, HNN.out] at this
    exact this
  clear hst
  go_wp2_with fail
  refine Calls.mono HWk2.out ?_
  rintro e w3 ⟨rfl, hcp⟩
  dsimp only
  have HE : Hid _ := HEnd.out w3 hcp
  clear hcp
  go_wp2
  go_end0
  exact ⟨⟨_, rfl⟩, HE.out⟩
end Go.Proofs.Ybulkakra

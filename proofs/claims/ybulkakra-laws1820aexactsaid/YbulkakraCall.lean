/-
  THE CALLBACK of seat b1820a: LawS1820AExact's function literal.
-/
import Derived.Test.YbulkakraAvec
import Derived.Test.YbulkakraCode
namespace Go.Proofs.Ybulkakra
open Go.RowKit
set_option linter.unusedSimpArgs false
set_option linter.unusedVariables false

/-- The path's entries lie in block b. -/
def EnAt (w : World) (b : Nat) (P : List (Nat × Nat)) : Prop := ∀ j, j < P.length → w.cell? ⟨b, j * 2, none⟩ = some (.int .u32 ((P.getD j (0, 0)).1 : Int)) ∧ w.cell? ⟨b, j * 2 + 1, none⟩ = some (.int .u32 ((P.getD j (0, 0)).2 : Int))
theorem Jk.enAt {w w' : World} (h : Jk w w') {b : Nat} {P : List (Nat × Nat)} (he : EnAt w b P) : EnAt w' b P := fun j hj => ⟨h.cell (he j hj).1, h.cell (he j hj).2⟩
def CbP (w w' : World) (bp bg c g : Nat) : Prop := Chg (fun x => x = bp ∨ x = bg) w w' ∧ w'.cell? ⟨bp, 0, none⟩ = some (.int .i64 (c : Int)) ∧ w'.frozen? ⟨bp, 0, none⟩ = false ∧ w'.cell? ⟨bg, 0, none⟩ = some (.int .i64 ((g : Int) + 1)) ∧ w'.frozen? ⟨bg, 0, none⟩ = false
set_option maxRecDepth 100000 in
set_option maxHeartbeats 1000000 in
theorem call_any (w : World) (bo bp bg bw pb cap : Nat) (ao : Option Addr) (p : Int) (g : Nat) (W : Nat → Bool) (q : Nat → Nat) (hq : ∀ i, q i < 4) (hao : 0 < (nzp q 3).length → ao = some ⟨pb, 0, none⟩) (hP : EnAt w pb (nzp q 3)) (hg : g < 1000)
    (cp : w.cell? ⟨bp, 0, none⟩ = some (.int .i64 p)) (fp : w.frozen? ⟨bp, 0, none⟩ = false) (cg : w.cell? ⟨bg, 0, none⟩ = some (.int .i64 (g : Int))) (fg : w.frozen? ⟨bg, 0, none⟩ = false) (hne : bp ≠ bg)
    (hw : Row w bw 64 (fun i => .bool (W i))) (hp : p < ((q 0 * 16 + q 1 * 4 + q 2 : Nat) : Int)) (hW : W (q 0 * 16 + q 1 * 4 + q 2) = true) :
    Calls Yba.prog 10 #[.slice ao (nzp q 3).length cap, .pointer (some ⟨bo, 0, none⟩), .pointer (some ⟨bp, 0, none⟩), .pointer (some ⟨bw, 0, none⟩), .pointer (some ⟨bg, 0, none⟩)] w fun e w' => e = .returned (.bool true) ∧ CbP w w' bp bg (q 0 * 16 + q 1 * 4 + q 2) g := by
  have hmem := nzp_mem q hq 3
  have hlen := nzp_len q 3
  have HV : Hid (∀ i, i < 3 → vk (nzp q 3) (nzp q 3).length i = q i) := fun i hi => by rw [vk_nzp, if_pos hi]
  have q0 := hq 0
  have q1 := hq 1
  have q2 := hq 2
  generalize hPP : nzp q 3 = P at *
  clear hPP
  obtain ⟨n, hn⟩ : ∃ n, n = P.length := ⟨_, rfl⟩
  rw [← hn] at hao hlen HV ⊢
  have HM : Hid _ := hmem
  have HE : Hid _ := hP
  have HN : Hid _ := hn
  have HAO : Hid _ := hao
  have HW : Hid _ := hw
  have HWW : Hid _ := hW
  have HPc : Hid _ := hp
  have HCP : Hid (w.cell? ⟨bp, 0, none⟩ = some (.int .i64 p) ∧ w.frozen? ⟨bp, 0, none⟩ = false ∧ w.cell? ⟨bg, 0, none⟩ = some (.int .i64 (g : Int)) ∧ w.frozen? ⟨bg, 0, none⟩ = false) := ⟨cp, fp, cg, fg⟩
  have hva : Row (w.alloc (.cells #[.int .u32 0, .int .u32 0, .int .u32 0] 35)) w.heap.size 3 (fun i => .int .u32 (vk P 0 i : Int)) := Row.new w _ 35 3 _ (fun i hi => by rcases i with _ | _ | _ | i <;> first | rfl | omega)
  have HVA : Hid _ := hva
  clear hmem hP hn hao hw hW hp cp fp cg fg hva hq
  go_enter Yba.func10, Yba.ntmps10
  go_wp2_with fail
  go_loopg [13] n (fun gk t wr => ∃ k : Nat, k ≤ n ∧ gk = n - k ∧ t = .int .i64 (k : Int) ∧ Row wr w.heap.size 3 (fun i => .int .u32 (vk P k i : Int)) ∧ Jk w wr)
  case atStart =>
    exact ⟨0, by omega, rfl, rfl, HVA.out, (Jk.refl w).alloc _⟩
  case round =>
    obtain ⟨k, hk, hgk, rfl, hR, hJ⟩ := hrel
    by_cases hlt : k < n
    · obtain ⟨x1, x2⟩ := hJ.enAt HE.out k (by rw [← HN.out]; exact hlt)
      have hm : (P.getD k (0, 0)).1 < 3 ∧ (P.getD k (0, 0)).2 < 4 := by
        refine HM.out _ ?_
        rw [List.getD_eq_getElem?_getD, List.getElem?_eq_getElem (by rw [← HN.out]; exact hlt)]
        exact List.getElem_mem _
      have hae := HAO.out (by omega)
      have HR : Hid _ := hR
      have HJ : Hid _ := hJ
      have HVK : Hid (∀ i, vk P (k + 1) i = if i = (P.getD k (0, 0)).1 then (P.getD k (0, 0)).2 else vk P k i) := fun i => rfl
      have hrl := hR ((P.getD k (0, 0)).1) hm.1
      have hwl : w.heap.size < wr.heap.size := hR.lt (by omega)
      clear hR hJ HAO
      subst hae
      generalize (P.getD k (0, 0)).1 = L at *
      generalize (P.getD k (0, 0)).2 = v at *
      obtain ⟨hL, hv⟩ := hm
      obtain ⟨r1, r2⟩ := hrl
      have hL2 : ¬ (2 < L) := by omega
      have hv3 : ¬ (3 < v) := by omega
      have hkw : IntKind.i64.wrap ((k : Int) + 1) = ((k + 1 : Nat) : Int) := by rw [IntKind.wrap_i64]; omega
      have a1 : ∀ O, (wr.alloc O).cell? ⟨w.heap.size, L, none⟩ = some (.int .u32 (vk P k L : Int)) := fun O => cellA r1 O
      have a2 : ∀ O, (wr.alloc O).frozen? ⟨w.heap.size, L, none⟩ = false := fun O => frozA hwl r2 O
      go_wp2
      go_roundg (n - (k + 1))
      case measure => omega
      case rel =>
        refine ⟨k + 1, by omega, rfl, rfl, ?_, ?_⟩
        · have hr0 : Row wr w.heap.size 3 (fun i => .int .u32 (vk P k i : Int)) := HR.out
          refine ((hr0.set L _).alloc (by omega) _).congr fun i _ => ?_
          rw [HVK.out i]
          unfold up1
          split <;> rfl
        · exact (HJ.out.set (a := ⟨w.heap.size, L, none⟩) (Nat.le_refl _) _).alloc _
    · have hkn : k = n := by omega
      subst hkn
      have r0 := (hR 0 (by omega)).1
      have r1 := (hR 1 (by omega)).1
      have r2 := (hR 2 (by omega)).1
      dsimp only at r0 r1 r2
      rw [HV.out 0 (by omega)] at r0
      rw [HV.out 1 (by omega)] at r1
      rw [HV.out 2 (by omega)] at r2
      obtain ⟨cp, fp, cg, fg⟩ := HCP.out
      have cp' := hJ.cell cp
      have cg' := hJ.cell cg
      have fp' : wr.frozen? ⟨bp, 0, none⟩ = false := (World.frozen?_of_block (hJ.block _ (World.block_lt_of_cell? _ _ cp))).trans fp
      have fg' : wr.frozen? ⟨bg, 0, none⟩ = false := (World.frozen?_of_block (hJ.block _ (World.block_lt_of_cell? _ _ cg))).trans fg
      obtain ⟨c, hc⟩ : ∃ c, c = q 0 * 16 + q 1 * 4 + q 2 := ⟨_, rfl⟩
      have hci : (q 0 : Int) * 16 + (q 1 : Int) * 4 + (q 2 : Int) = (c : Int) := by omega
      have hcl : c < 64 := by omega
      have cw := hJ.cell (HW.out c hcl).1
      rw [show W c = true by rw [hc]; exact HWW.out] at cw
      have hpc : ¬ ((c : Int) ≤ p) := by have := HPc.out; omega
      have HC : Hid _ := hc
      have HJ : Hid _ := hJ
      clear cp cg fp fg hJ hR hc HV HWW
      generalize q 0 = x0 at r0 q0 hci
      generalize q 1 = x1 at r1 q1 hci
      generalize q 2 = x2 at r2 q2 hci
      have w0 : IntKind.i64.wrap (x0 : Int) = (x0 : Int) := by rw [IntKind.wrap_i64]; omega
      have w1 : IntKind.i64.wrap (x1 : Int) = (x1 : Int) := by rw [IntKind.wrap_i64]; omega
      have w2 : IntKind.i64.wrap (x2 : Int) = (x2 : Int) := by rw [IntKind.wrap_i64]; omega
      have w3 : IntKind.i64.wrap ((x0 : Int) * 16) = (x0 : Int) * 16 := by rw [IntKind.wrap_i64]; omega
      have w4 : IntKind.i64.wrap ((x1 : Int) * 4) = (x1 : Int) * 4 := by rw [IntKind.wrap_i64]; omega
      have w5 : IntKind.i64.wrap ((x0 : Int) * 16 + (x1 : Int) * 4) = (x0 : Int) * 16 + (x1 : Int) * 4 := by rw [IntKind.wrap_i64]; omega
      have w6 : IntKind.i64.wrap ((x0 : Int) * 16 + (x1 : Int) * 4 + (x2 : Int)) = (c : Int) := by rw [IntKind.wrap_i64]; omega
      have w7 : IntKind.i64.wrap ((g : Int) + 1) = (g : Int) + 1 := by rw [IntKind.wrap_i64]; omega
      have w8 : IntKind.i64.wrap (c : Int) = (c : Int) := by rw [IntKind.wrap_i64]; omega
      have hcl2 : ((c : Nat) : Int) < 64 := by omega
      have hne' := hne.symm
      go_wp2
      go_ret
      refine ⟨rfl, ?_⟩
      rw [← HC.out]
      refine ⟨(((HJ.out.chg _).set (a := ⟨bp, 0, none⟩) (.inr (.inl rfl)) _).set (a := ⟨bg, 0, none⟩) (.inr (.inr rfl)) _), ?_, ?_, ?_, ?_⟩
      · rw [World.cell?_of_block (Below.heap_setCell _ _ _ _ hne), World.cell?_setCell_same _ _ _ cp']
      · rw [World.frozen?_setCell, World.frozen?_setCell]; exact fp'
      · have cg2 : (wr.setCell ⟨bp, 0, none⟩ (.int .i64 (c : Int))).cell? ⟨bg, 0, none⟩ = some (.int .i64 (g : Int)) := by rw [World.cell?_of_block (Below.heap_setCell _ _ _ _ hne')]; exact cg'
        rw [World.cell?_setCell_same _ _ _ cg2]
      · rw [World.frozen?_setCell, World.frozen?_setCell]; exact fg'
end Go.Proofs.Ybulkakra

/-
  make of seat b1820a, for edges of which some lead to Empty.
-/
import Derived.Test.YbulkakraDel
namespace Go.Proofs.Ybulkakra
open Go.RowKit
set_option linter.unusedSimpArgs false
set_option linter.unusedVariables false

/-- What make leaves. -/
def MkZ (tg : Nat → Nat) (w w' : World) (d : Nat) (N : List Nd) (S0 E : List Ed) (l : Nat) (r : Nat) : Prop :=
  ∃ tg' C' N' Z, Made N l (nz E) N' r ∧ StC tg' w' d C' N' (S0 ++ (nz E ++ Z)) ∧ (nz E ++ Z).length = E.length ∧ Fr (fun r => 1 ≤ r) tg w tg' w'
set_option maxRecDepth 100000 in
set_option maxHeartbeats 400000 in
theorem make_z (tg : Nat → Nat) (w : World) (d : Nat) (C : Nat → Value) (N : List Nd) (S0 E : List Ed) (l sb cap c : Nat) (fs : Nat → Value) (hS : StC tg w d C N (S0 ++ E)) (hk : Stk tg w C (S0 ++ E) sb cap fs) (hw : Wf N) (hl : l ≤ 2) (hH : ∀ e ∈ E, e.1 < 4 ∧ e.2 < N.length) (h4 : (nz E).length ≤ 4) (h8 : E.length ≤ 8) (hc : E.length ≤ c) (hs : esum N + 4 ≤ 65536) (hNl : N.length < 65536) :
    Calls Yba.prog 33 #[.pointer (some ⟨d, 0, none⟩), .int .u32 (l : Int), .slice (some ⟨sb, S0.length * 2, none⟩) E.length c] w fun e w' => ∃ r, e = .returned (.int .u32 ((r : Nat) : Int)) ∧ MkZ tg w w' d N S0 E l r := by
  have hle := hk.le
  simp at hle
  have HD : Hid _ := delete_any w sb (cap * 2) (S0.length * 2) c (laid fs 0 (S0 ++ E)) E (hk.row.congr fun i _ => laid_tail i) (by omega) (by omega) hc
  have hb : sb ≠ d := by
    intro e
    have h1 := hk.t
    rw [e, hS.t] at h1
    omega
  have HX : Hid (∀ w1, DelP w w1 sb (cap * 2) (S0.length * 2) (laid fs 0 (S0 ++ E)) E → ∃ Z, StC tg w1 d C N (S0 ++ (nz E ++ Z)) ∧ (nz E ++ Z).length = E.length ∧ EdAt w1 sb (S0.length * 2) (nz E) ∧ Fr (fun r => 1 ≤ r) tg w tg w1) := by
    rintro w1 ⟨Z, z1, z2, z3⟩
    have hrow : Row w1 sb (cap * 2) (laid fs 0 (S0 ++ (nz E ++ Z))) := z2.congr fun i _ => laid_app z1 i
    refine ⟨Z, hS.restack hk z3 hrow (by simp at z1 ⊢; omega), z1, ?_, z3.fr fun x _ e => by rw [e, hk.t]; omega⟩
    have hh := edAt_laid z2 (by rw [z1]; omega)
    intro j hj
    have := hh j (by simp; omega)
    have e1 : vE (nz E ++ Z) j = vE (nz E) j ∧ tE (nz E ++ Z) j = tE (nz E) j := by
      unfold vE tE
      simp [List.getElem?_append_left hj]
    rw [e1.1, e1.2] at this
    exact this
  have hHn : ∀ e ∈ nz E, e.1 < 4294967296 ∧ 0 < e.2 ∧ e.2 < N.length := by
    intro e he
    unfold nz at he
    rw [List.mem_filter] at he
    have := hH e he.1
    have h2 := he.2
    simp at h2
    exact ⟨by omega, by omega, this.2⟩
  have HMk : Hid (∀ w' r tg' C' N' Z, Made N l (nz E) N' r → StC tg' w' d C' N' (S0 ++ (nz E ++ Z)) → (nz E ++ Z).length = E.length → Fr (fun r => 1 ≤ r) tg w tg' w' → MkZ tg w w' d N S0 E l r) := fun w' r tg' C' N' Z a1 a2 a3 a4 => ⟨tg', C', N', Z, a1, a2, a3, a4⟩
  obtain ⟨D, hD⟩ : ∃ D, D = nz E := ⟨_, rfl⟩
  rw [← hD] at HD HX h4 hHn HMk
  have HWk : Hid _ := hw.wk
  have HH : Hid _ := hHn
  generalize E.length = n at *
  generalize S0.length * 2 = o at *
  clear hS hk hw hH hle hc h8 hHn hD
  go_enter Yba.func33, Yba.ntmps33
  go_wp2_with fail
  refine Calls.mono HD.out ?_
  rintro e w1 ⟨rfl, hP⟩
  dsimp only
  obtain ⟨Z, hC, hZ, hEA, hF⟩ := HX.out w1 hP
  have HZ : Hid _ := hZ
  have HF : Hid _ := hF
  clear hP HX HD hZ hF
  rcases D with _ | ⟨e0, D'⟩
  · have HC : Hid _ := hC
    have e0 : (((([] : List Ed).length : Nat) : Int) == 0) = true := rfl
    clear hC hEA
    go_wp2
    go_ret
    exact ⟨0, rfl, HMk.out _ _ _ _ _ _ (.inl ⟨rfl, rfl, rfl⟩) HC.out HZ.out HF.out⟩
  · obtain ⟨v0, t0⟩ := e0
    obtain ⟨x1, x2⟩ := hEA 0 (by simp)
    simp only [vE, tE, List.getD_cons_zero, Nat.zero_mul, Nat.add_zero, Nat.zero_add] at x1 x2
    by_cases hsp : v0 = 0 ∧ D' = []
    · obtain ⟨rfl, rfl⟩ := hsp
      have HC : Hid _ := hC
      clear hC hEA
      have hlen : ([(0, t0)] : List Ed).length = 1 := rfl
      rw [hlen]
      clear hlen h4
      go_wp2
      go_ret
      exact ⟨t0, rfl, HMk.out _ _ _ _ _ _ (.inr (.inl ⟨t0, rfl, rfl, rfl⟩)) HC.out HZ.out HF.out⟩
    · have hno : ∀ t, (v0, t0) :: D' ≠ [(0, t)] := by
        intro t e
        simp at e
        exact hsp ⟨e.1.1, e.2⟩
      obtain ⟨D, hD⟩ : ∃ D, D = (v0, t0) :: D' := ⟨_, rfl⟩
      have h0 : D ≠ [] := by rw [hD]; simp
      have hlen0 : 0 < D.length := List.length_pos_iff.2 h0
      rw [← hD] at h4 hC HZ HH HMk hEA hno ⊢
      have e0 : ((D.length : Int) == 0) = false := by simp; omega
      have hv0 : D.length = 1 → ((v0 : Int) == 0) = false := by
        intro h1
        rw [hD] at h1
        simp at h1
        simp
        intro e
        exact hsp ⟨e, h1⟩
      obtain ⟨xw, hxw⟩ := hC.work
      have c1 : w1.cell? ⟨d, 1034, none⟩ = some (.int .u64 xw) := by rw [(hC.row 1034 (by omega)).1, hxw]
      have c2 : w1.cell? ⟨d, 1033, none⟩ = some (.chan none) := by rw [(hC.row 1033 (by omega)).1, hC.stop]
      have c3 : w1.frozen? ⟨d, 1034, none⟩ = false := (hC.row 1034 (by omega)).2
      have HL : Hid _ := look_any w1 d xw c1 c3 c2
      have HG : Hid _ := fun (x : Int) => get_weak tg (w1.setCell ⟨d, 1034, none⟩ (.int .u64 x)) d (up1 C 1034 (.int .u64 x)) N _ l sb o c D (hC.looked x) HWk.out h0 h4 (by omega) (fun e he => ⟨(HH.out e he).1, (HH.out e he).2.2⟩) (fun j hj => by
        obtain ⟨a1, a2⟩ := hEA j hj
        exact ⟨by rw [World.cell?_of_block (Below.heap_setCell _ _ _ _ hb)]; exact a1, by rw [World.cell?_of_block (Below.heap_setCell _ _ _ _ hb)]; exact a2⟩) hb (by omega) hNl
      have HK : Hid (∀ w2 x r, GetP tg (w1.setCell ⟨d, 1034, none⟩ (.int .u64 x)) w2 d (up1 C 1034 (.int .u64 x)) N (S0 ++ (D ++ Z)) l D r → MkZ tg w w2 d N S0 E l r) := by
        intro w2 x r ⟨tg', C', N', g1, g2, g3, g4⟩
        refine HMk.out _ _ _ _ _ _ (.inr (.inr ⟨h0, hno, g1⟩)) g2 HZ.out ?_
        have f1 : Fr (fun r => 1 ≤ r) tg w1 tg (w1.setCell ⟨d, 1034, none⟩ (.int .u64 x)) := (Fr.refl _ tg w1).set (a := ⟨d, 1034, none⟩) (.inr (by have := hC.t; show 1 ≤ tg d; omega)) _
        exact (HF.out.trans f1).trans (g4.mono fun r h => by omega)
      clear hC hEA c1 c2 c3 hsp hno hxw HMk HZ HF
      have HDD : Hid _ := hD
      clear hD
      by_cases h1 : D.length = 1
      · have hv := hv0 h1
        have e1 : ((D.length : Int) == 1) = true := by simp [h1]
        clear hv0 h1
        go_wp2_with fail
        refine Calls.mono HL.out ?_
        rintro e w2 ⟨rfl, rfl⟩
        dsimp only
        generalize IntKind.u64.wrap (xw + 1) = yw at *
        have HG1 : Hid _ := HG.out yw
        go_wp2_with fail
        refine Calls.mono HG1.out ?_
        rintro e w3 ⟨r, rfl, hG⟩
        dsimp only
        have HGP : Hid _ := HK.out _ _ _ hG
        clear hG
        go_wp2
        go_ret
        exact ⟨r, rfl, HGP.out⟩
      · have e1 : ((D.length : Int) == 1) = false := by simp; omega
        clear hv0 h1
        go_wp2_with fail
        refine Calls.mono HL.out ?_
        rintro e w2 ⟨rfl, rfl⟩
        dsimp only
        generalize IntKind.u64.wrap (xw + 1) = yw at *
        have HG1 : Hid _ := HG.out yw
        go_wp2_with fail
        refine Calls.mono HG1.out ?_
        rintro e w3 ⟨r, rfl, hG⟩
        dsimp only
        have HGP : Hid _ := HK.out _ _ _ hG
        clear hG
        go_wp2
        go_ret
        exact ⟨r, rfl, HGP.out⟩
end Go.Proofs.Ybulkakra

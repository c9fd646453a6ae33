/-
  THE WALK of LawS1827CForest (5) over a slice of 1 to 1024 numbers.
-/
import Derived.Test.YbulkakuuForestWalks
import Derived.OpenShut
namespace Go.Proofs.Ybulkakuu.Forest
open Go.RowKit

theorem info3 : (Yba.prog.info? 3).map (fun i => (i.zero, i.size, i.bytes)) = some (some (.int .i64 0), 1, 8) := by kernel_rfl

/-- The parents that the law lays. -/
def laid (zs : List Int) (j : Nat) : Nat := (zs[j]?.getD 0 % ((j : Int) + 1)).toNat
theorem laid_down (zs : List Int) (n : Nat) : Down n (laid zs) := by
  intro i _
  unfold laid
  have h1 := Int.emod_lt_of_pos (zs[i]?.getD 0) (by omega : (0 : Int) < (i : Int) + 1)
  omega
theorem laid_eq (zs : List Int) (j : Nat) : ((laid zs j : Nat) : Int) = zs[j]?.getD 0 % ((j : Int) + 1) := by
  unfold laid
  have h1 := Int.emod_nonneg (zs[j]?.getD 0) (by omega : ((j : Int) + 1) ≠ 0)
  omega

/-- A row that is filled up to k. -/
def Upto (w : World) (b n : Nat) (f : Nat → Nat) (k : Nat) : Prop := w.rowIs b 3 n (fun i => if i < k then .int .i64 ((f i : Nat) : Int) else .int .i64 0)
theorem upto_zero {w : World} {b n : Nat} {f : Nat → Nat} (h : w.rowIs b 3 n (fun _ => .int .i64 0)) : Upto w b n f 0 := World.rowIs.congr h fun i _ => by simp
theorem upto_full {w : World} {b n : Nat} {f : Nat → Nat} (h : Upto w b n f n) : Par w b n f := World.rowIs.congr h fun i hi => by simp [hi]
theorem upto_step {w : World} {b n : Nat} {f : Nat → Nat} {k : Nat} (h : Upto w b n f k) {x : Int} (hx : x = ((f k : Nat) : Int)) : Upto (w.setCell ⟨b, k, none⟩ (.int .i64 x)) b n f (k + 1) := by
  refine World.rowIs.congr (World.rowIs.set h k _) fun i _ => ?_
  subst hx
  by_cases e : i = k
  · subst e; simp
  · have : (i < k + 1) ↔ (i < k) := by omega
    simp [e, this]

set_option maxHeartbeats 1000000 in
set_option maxRecDepth 100000 in
theorem law_main (b off n cap : Nat) (zs : List Int) (a1 : Int) (w : World) (hb : b < w.heap.size) (hn0 : 0 < n) (hn : n ≤ 1024) (hcap : n ≤ cap) (hl : zs.length = cap)
    (hc : ∀ j, j < zs.length → w.cell? ⟨b, off + j, none⟩ = some (.int .u16 (zs.getD j 0))) (hw : ∀ m ∈ zs, (Lit.int .u16 m).wf = true) (w1 : (Lit.int .u16 a1).wf = true) :
    Calls Yba.prog 5 #[.slice (some ⟨b, off, none⟩) n cap, .int .u16 a1] w fun e w' => e = .returned (.bool true) ∧ Below w.heap.size w w' := by
  have hq := run_make_row' (P := Yba.prog) 62 3 (.int .i64 0) 8 Yba.underlying62 info3 rfl .i64 .i64 n (by omega) (by omega)
  have hb4 := run_make_row' (P := Yba.prog) 29 3 (.int .i64 0) 8 Yba.underlying29 info3 rfl .i64 .i64 n (by omega) (by omega)
  obtain ⟨ha0, ha1⟩ := bounds_u16 w1
  have e0 : ((n : Int) == 0) = false := beq_eq_false_iff_ne.2 (by omega)
  have e1 : decide ((1024 : Int) < (n : Int)) = false := by simp; omega
  have HC : Hid (∀ j, j < n → w.cell? ⟨b, off + j, none⟩ = some (.int .u16 (zs[j]?.getD 0))) := fun j hj => by
    have := hc j (by omega)
    simpa using this
  clear hc hl
  go_enter Yba.func5, Yba.ntmps5
  go_wp2
  go_loopw [8] (fun t wr => ∃ k : Nat, k ≤ n ∧ t = .int .i64 k ∧ Upto wr w.heap.size n (laid zs) k ∧ Upto wr (w.heap.size + 1) n (laid zs) k ∧ Below w.heap.size w wr) (fun t _ => n - (intOf t).toNat)
  case atStart =>
    refine ⟨0, Nat.zero_le _, rfl, upto_zero ((World.rowIs_made w (.int .i64 0) n 3).alloc _), upto_zero ?_, ((Below.refl _ _).alloc (Nat.le_refl _) _).alloc (by simp) _⟩
    have h := World.rowIs_made (w.alloc (.cells (madeCells #[.int .i64 0] n) 3)) (.int .i64 0) n 3
    rw [World.size_alloc] at h
    exact h
  case round =>
    obtain ⟨k, hk, rfl, u1, u2, hbel⟩ := hrel
    by_cases hlt : k < n
    · have hcx : wr.cell? ⟨b, off + k, none⟩ = some (.int .u16 (zs[k]?.getD 0)) := (hbel.cell (by exact hb)).trans (HC.out k hlt)
      have hr := range_u16 hw k
      have hx := laid_eq zs k
      have HX : Hid (zs[k]?.getD 0 % ((k : Int) + 1) = ((laid zs k : Nat) : Int)) := hx.symm
      have hxl : ((laid zs k : Nat) : Int) ≤ k := by have := laid_down zs n k hlt; omega
      clear hx
      have c1 := World.rowIs.cell u1 hlt
      have f1 := World.rowIs.frozen u1 k
      have c2 := World.rowIs.cell u2 hlt
      have f2 := World.rowIs.frozen u2 k
      go_wp2
      go_roundw
      case rel =>
        refine ⟨k + 1, by omega, by go_num, ?_, ?_, ?_⟩
        · exact World.rowIs.setOther (upto_step u1 HX.out) (by simp) _
        · exact upto_step (World.rowIs.setOther u2 (by simp) _) HX.out
        · exact (hbel.setCell (by simp) _).setCell (by simp) _
      case measure => simp [intOf]; omega
    · have hkn : k = n := by omega
      subst hkn
      have p1 := upto_full u1
      have p2 := upto_full u2
      clear u1 u2 hlt
      have hm0 := Int.emod_nonneg a1 (by omega : (k : Int) ≠ 0)
      have hm1 := Int.emod_lt_of_pos a1 (by omega : (0 : Int) < (k : Int))
      have hd := laid_down zs k
      have HD : Hid (Down k (laid zs)) := hd
      clear hd
      go_wp2_with fail
      obtain ⟨m, hm⟩ : ∃ m : Nat, a1 % (k : Int) = (m : Int) := ⟨(a1 % (k : Int)).toNat, by omega⟩
      rw [hm] at hm0 hm1 ⊢
      have hmk : m < k := by omega
      clear hm hm0 hm1
      refine (root_any (w.heap.size + 1) k (laid zs) m _ hn hmk HD.out p2).mono ?_
      rintro e w2 ⟨rfl, rfl⟩
      go_wp2_with fail
      refine (find_any w.heap.size k (laid zs) m _ hn hmk HD.out p1).mono ?_
      rintro e w3 ⟨rfl, hon, g, hg, hgd, hgr⟩
      have p3 : Par w3 (w.heap.size + 1) k (laid zs) := World.rowIs.of_block p2 (hon.block _ (by omega))
      have hbel3 : Below w.heap.size w w3 := hbel.trans (hon.below (Nat.le_refl _))
      have HGD : Hid (Down k g) := hgd
      have HGR : Hid (∀ i, i < k → root g i = root (laid zs) i) := hgr
      clear hgd hgr hon p1 p2 hbel
      go_wp2
      go_loop [12] (fun t => ∃ i : Nat, i ≤ k ∧ t = .int .i64 i) (fun t => k - (intOf t).toNat)
      case atStart => exact ⟨0, Nat.zero_le _, rfl⟩
      case round =>
        obtain ⟨i, hi, rfl⟩ := hrel
        by_cases hik : i < k
        · go_wp2_with fail
          refine (root_any w.heap.size k g i _ hn hik HGD.out hg).mono ?_
          rintro e w2 ⟨rfl, rfl⟩
          go_wp2_with fail
          refine (root_any (w.heap.size + 1) k (laid zs) i _ hn hik HD.out p3).mono ?_
          rintro e w2 ⟨rfl, rfl⟩
          rw [HGR.out i hik]
          go_wp2
          go_round
          case rel => exact ⟨i + 1, by omega, by go_num⟩
          case measure => simp [intOf]; omega
        · go_wp2
          go_ret
          exact ⟨rfl, hbel3⟩
end Go.Proofs.Ybulkakuu.Forest

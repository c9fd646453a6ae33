/-
  hashEdges, slices.Equal of seat b1820a; worlds that only grew.
-/
import Derived.Test.YbulkakraSmall
import Derived.Test.YbulkakraGet
import Derived.Test.YbulkakraMath
import Derived.Test.YbulkakraWeak
import Derived.Test.YbulkakraTab
namespace Go.Proofs.Ybulkakra
open Go.RowKit
set_option linter.unusedSimpArgs false
set_option linter.unusedVariables false

/-- The world grew, nothing else. -/
structure Jk (w w' : World) : Prop where
  os : w'.os = w.os
  output : w'.output = w.output
  size : w.heap.size ≤ w'.heap.size
  block : ∀ b, b < w.heap.size → w'.heap[b]? = w.heap[b]?
theorem Jk.refl (w : World) : Jk w w := ⟨rfl, rfl, Nat.le_refl _, fun _ _ => rfl⟩
theorem Jk.trans {a b c : World} (h : Jk a b) (k : Jk b c) : Jk a c := ⟨k.os.trans h.os, k.output.trans h.output, Nat.le_trans h.size k.size, fun b hb => (k.block b (Nat.lt_of_lt_of_le hb h.size)).trans (h.block b hb)⟩
theorem Jk.alloc {a b : World} (h : Jk a b) (o : Obj) : Jk a (b.alloc o) := ⟨h.os, h.output, by rw [World.size_alloc]; exact Nat.le_succ_of_le h.size, fun x hx => (Below.heap_alloc _ _ _ (Nat.lt_of_lt_of_le hx h.size)).trans (h.block x hx)⟩
theorem Jk.drewN {a b : World} (h : Jk a b) (n : Nat) : Jk a (b.drewN n) := ⟨h.os, h.output, h.size, h.block⟩
theorem Jk.drew {a b : World} (h : Jk a b) : Jk a b.drew := ⟨h.os, h.output, h.size, h.block⟩
theorem Jk.set {w w' : World} (h : Jk w w') {a : Addr} (ha : w.heap.size ≤ a.block) (v : Value) : Jk w (w'.setCell a v) :=
  ⟨h.os, h.output, by rw [World.size_setCell]; exact h.size, fun b hb => (Below.heap_setCell _ _ _ _ (by rintro rfl; omega)).trans (h.block b hb)⟩
theorem Jk.fr {w w' : World} (h : Jk w w') (R : Nat → Prop) (tg : Nat → Nat) : Fr R tg w tg w' := ⟨h.os, h.output, h.size, fun _ _ => rfl, fun b hb _ => h.block b hb⟩
theorem Jk.cell {w w' : World} (h : Jk w w') {a : Addr} {v : Value} (hv : w.cell? a = some v) : w'.cell? a = some v := (World.cell?_of_block (h.block _ (World.block_lt_of_cell? _ _ hv))).trans hv
theorem Jk.row {w w' : World} (h : Jk w w') {b n : Nat} {f : Nat → Value} (hr : Row w b n f) : Row w' b n f := fun i hi => ⟨h.cell (hr i hi).1, (World.frozen?_of_block (h.block _ (World.block_lt_of_cell? _ _ (hr i hi).1))).trans (hr i hi).2⟩

def vE (E : List Ed) (j : Nat) : Nat := (E.getD j (0, 0)).1
def tE (E : List Ed) (j : Nat) : Nat := (E.getD j (0, 0)).2
/-- The edges E lie from cell o of block b on. -/
def EdAt (w : World) (b o : Nat) (E : List Ed) : Prop := ∀ j, j < E.length → w.cell? ⟨b, o + j * 2, none⟩ = some (.int .u32 (vE E j : Int)) ∧ w.cell? ⟨b, o + j * 2 + 1, none⟩ = some (.int .u32 (tE E j : Int))
theorem Jk.edAt {w w' : World} (h : Jk w w') {b o : Nat} {E : List Ed} (he : EdAt w b o E) : EdAt w' b o E := fun j hj => ⟨h.cell (he j hj).1, h.cell (he j hj).2⟩

def hstep (h : Int) (v t : Nat) : Int := mixF (bits .xor .u64 (bits .xor .u64 h ((v : Int) * 4294967296)) (t : Int))
def hcur (l : Nat) (E : List Ed) : Nat → Int
  | 0 => mixF (l : Int)
  | k + 1 => hstep (hcur l E k) (vE E k) (tE E k)
def hashI (l : Nat) (E : List Ed) : Int := IntKind.u32.wrap (hcur l E E.length / 4294967296)
def hashN (l : Nat) (E : List Ed) : Nat := (hashI l E).toNat
theorem hashI_eq (l : Nat) (E : List Ed) : hashI l E = (hashN l E : Int) := by
  unfold hashN hashI
  rw [IntKind.wrap_u32]
  omega
theorem hashN_lt (l : Nat) (E : List Ed) : hashN l E < 4294967296 := by
  unfold hashN hashI
  rw [IntKind.wrap_u32]
  omega
theorem hash_any (w : World) (l b o c : Nat) (E : List Ed) (hl : l < 4294967296) (hE : EdAt w b o E) (hlen : E.length ≤ 100) (hv : ∀ e ∈ E, e.1 < 4294967296 ∧ e.2 < 4294967296) :
    Calls Yba.prog 60 #[.int .u32 (l : Int), .slice (some ⟨b, o, none⟩) E.length c] w fun e w' => e = .returned (.int .u32 (hashN l E : Int)) ∧ Jk w w' := by
  have hw0 : IntKind.u64.wrap (l : Int) = (l : Int) := by rw [IntKind.wrap_u64]; omega
  obtain ⟨n, hn⟩ : ∃ n, n = E.length := ⟨_, rfl⟩
  rw [← hn] at hlen ⊢
  have HE : Hid _ := hE
  have HN : Hid _ := hn
  have HV : Hid _ := hv
  clear hE hn hv
  go_enter Yba.func60, Yba.ntmps60
  go_wp2_with fail
  refine (mix_any _ _).mono ?_
  rintro e w1 ⟨rfl, rfl⟩
  dsimp only
  go_wp2_with fail
  go_loopg [13, 5] n (fun g t h wr => ∃ k : Nat, k ≤ n ∧ g = n - k ∧ t = .int .i64 (k : Int) ∧ h = .int .u64 (hcur l E k) ∧ Jk w wr)
  case atStart => exact ⟨0, by omega, rfl, rfl, rfl, Jk.refl _⟩
  case round =>
    obtain ⟨k, hk, hgk, rfl, rfl, hJ⟩ := hrel
    by_cases hlt : k < n
    · obtain ⟨x1, x2⟩ := hJ.edAt HE.out k (by rw [← HN.out]; exact hlt)
      have hdec : decide ((k : Int) < (n : Int)) = true := by simp; omega
      have hi : k < n := hlt
      have hkw : IntKind.i64.wrap ((k : Int) + 1) = ((k + 1 : Nat) : Int) := by rw [IntKind.wrap_i64]; omega
      obtain ⟨hv1, hv2⟩ : vE E k < 4294967296 ∧ tE E k < 4294967296 := by
        unfold vE tE
        rw [List.getD_eq_getElem?_getD, List.getElem?_eq_getElem (by rw [← HN.out]; exact hlt)]
        exact HV.out _ (List.getElem_mem _)
      have HC : Hid (hcur l E (k + 1) = hstep (hcur l E k) (vE E k) (tE E k)) := rfl
      generalize hcur l E k = h0 at *
      generalize vE E k = v0 at *
      generalize tE E k = t0 at *
      have hw1 : IntKind.u64.wrap (v0 : Int) = (v0 : Int) := by rw [IntKind.wrap_u64]; omega
      have hw2 : IntKind.u64.wrap (t0 : Int) = (t0 : Int) := by rw [IntKind.wrap_u64]; omega
      have HJ : Hid _ := hJ
      clear hJ
      go_wp2_with fail
      refine (mix_any _ _).mono ?_
      rintro e w1 ⟨rfl, rfl⟩
      dsimp only
      go_wp2
      go_roundg (n - (k + 1))
      case measure => omega
      case rel => exact ⟨k + 1, by omega, rfl, rfl, by rw [HC.out]; rfl, HJ.out.alloc _⟩
    · have hdec : decide ((k : Int) < (n : Int)) = false := by simp; omega
      have hkn : k = n := by omega
      have HJ : Hid _ := hJ
      clear hJ
      subst hkn
      go_wp2
      go_ret
      refine ⟨?_, HJ.out⟩
      have h1 := hashI_eq l E
      unfold hashI at h1
      rw [← HN.out] at h1
      rw [← h1]
      rfl

theorem eq_any (w : World) (b o c b2 o2 c2 : Nat) (E F : List Ed) (hE : EdAt w b o E) (hF : EdAt w b2 o2 F) (hlen : E.length ≤ 1000) (hlen2 : F.length ≤ 1000) :
    Calls Yba.prog 64 #[.slice (some ⟨b, o, none⟩) E.length c, .slice (some ⟨b2, o2, none⟩) F.length c2] w fun e w' => e = .returned (.bool (decide (E = F))) ∧ Jk w w' := by
  by_cases hl : E.length = F.length
  · obtain ⟨n, hn⟩ : ∃ n, n = E.length := ⟨_, rfl⟩
    rw [← hn] at hl hlen
    rw [← hl, ← hn]
    have HE : Hid _ := hE
    have HF : Hid _ := hF
    have HN : Hid _ := hn
    have HL : Hid _ := hl
    clear hE hn hF hl hlen2
    have hself : decide ((n : Int) = (n : Int)) = true := by simp
    go_enter Yba.func64, Yba.ntmps64
    go_wp2_with fail
    go_loopg [13] n (fun g t wr => ∃ k : Nat, k ≤ n ∧ g = n - k ∧ t = .int .i64 (k : Int) ∧ (∀ j, j < k → vE E j = vE F j ∧ tE E j = tE F j) ∧ Jk w wr)
    case atStart => exact ⟨0, by omega, rfl, rfl, fun j hj => by omega, Jk.refl _⟩
    case round =>
      obtain ⟨k, hk, hgk, rfl, hq, hJ⟩ := hrel
      by_cases hlt : k < n
      · obtain ⟨x1, x2⟩ := hJ.edAt HE.out k (by rw [← HN.out]; exact hlt)
        obtain ⟨y1, y2⟩ := hJ.edAt HF.out k (by rw [← HL.out]; exact hlt)
        have hdec : decide ((k : Int) < (n : Int)) = true := by simp; omega
        have hi : k < n := hlt
        have hkw : IntKind.i64.wrap ((k : Int) + 1) = ((k + 1 : Nat) : Int) := by rw [IntKind.wrap_i64]; omega
        have HQ : Hid _ := hq
        have HJ : Hid _ := hJ
        clear hJ hq
        have p1 : ∀ N, (wr.drewN N).cell? ⟨b, o + k * 2, none⟩ = some (.int .u32 (vE E k : Int)) := fun N => x1
        have p2 : ∀ N, (wr.drewN N).cell? ⟨b, o + k * 2 + 1, none⟩ = some (.int .u32 (tE E k : Int)) := fun N => x2
        have p3 : ∀ N, (wr.drewN N).cell? ⟨b2, o2 + k * 2, none⟩ = some (.int .u32 (vE F k : Int)) := fun N => y1
        have p4 : ∀ N, (wr.drewN N).cell? ⟨b2, o2 + k * 2 + 1, none⟩ = some (.int .u32 (tE F k : Int)) := fun N => y2
        by_cases hsame : vE E k = vE F k ∧ tE E k = tE F k
        · rw [← hsame.1] at y1 p3
          rw [← hsame.2] at y2 p4
          have HS : Hid _ := hsame
          clear hsame
          go_upto_region 6 with fail
          go_quiet (fail)
          go_wp2
          go_roundg (n - (k + 1))
          case measure => omega
          case rel =>
            refine ⟨k + 1, by omega, rfl, rfl, fun j hj => ?_, HJ.out.drewN _⟩
            rcases Nat.lt_or_ge j k with h0 | h0
            · exact HQ.out j h0
            · have : j = k := by omega
              subst this
              exact HS.out
        · have hne : E ≠ F := by rintro rfl; exact hsame ⟨rfl, rfl⟩
          have hdF : decide (E = F) = false := by simpa using hne
          by_cases hv : vE E k = vE F k
          · have ht : ((tE E k : Int) == (tE F k : Int)) = false := by
              simp only [beq_eq_false_iff_ne, ne_eq]
              intro h
              exact hsame ⟨hv, by omega⟩
            have ht' : decide ((tE E k : Int) = (tE F k : Int)) = false := by
              simp only [decide_eq_false_iff_not]
              intro h
              exact hsame ⟨hv, by omega⟩
            rw [← hv] at y1 p3
            have HD : Hid _ := hdF
            clear hsame hne hdF hv
            generalize vE E k = v0 at *
            generalize tE E k = t0 at *
            generalize tE F k = t1 at *
            go_upto_region 6 with fail
            go_quiet (fail)
            go_wp2
            go_ret
            exact ⟨by rw [HD.out]; rfl, HJ.out.drewN _⟩
          · have ht : ((vE E k : Int) == (vE F k : Int)) = false := by
              simp only [beq_eq_false_iff_ne, ne_eq]
              intro h
              exact hv (by omega)
            have ht' : decide ((vE E k : Int) = (vE F k : Int)) = false := by
              simp only [decide_eq_false_iff_not]
              intro h
              exact hv (by omega)
            have HD : Hid _ := hdF
            clear hsame hne hdF hv
            generalize vE E k = v0 at *
            generalize vE F k = v1 at *
            generalize tE E k = t0 at *
            generalize tE F k = t1 at *
            go_upto_region 6 with fail
            go_quiet (fail)
            go_wp2
            go_ret
            exact ⟨by rw [HD.out]; rfl, HJ.out.drewN _⟩
      · have hdec : decide ((k : Int) < (n : Int)) = false := by simp; omega
        have hkn : k = n := by omega
        have hEF : E = F := by
          refine List.ext_getElem (by rw [← HN.out, HL.out]) fun i h1 h2 => ?_
          have := hq i (by rw [hkn, HN.out]; exact h1)
          unfold vE tE at this
          rw [List.getD_eq_getElem?_getD, List.getElem?_eq_getElem h1, List.getD_eq_getElem?_getD, List.getElem?_eq_getElem h2] at this
          exact Prod.ext this.1 this.2
        have HJ : Hid _ := hJ
        have hdF : decide (E = F) = true := by simpa using hEF
        have HD : Hid _ := hdF
        clear hJ hq hEF hdF
        go_wp2
        go_ret
        exact ⟨by rw [HD.out]; rfl, HJ.out⟩
  · have hne : E ≠ F := by rintro rfl; exact hl rfl
    have hdF : decide (E = F) = false := by simpa using hne
    rw [hdF]
    have h1 : ((E.length : Int) == (F.length : Int)) = false := by
      simp only [beq_eq_false_iff_ne, ne_eq]
      omega
    have h1' : decide ((E.length : Int) = (F.length : Int)) = false := by
      simp only [decide_eq_false_iff_not]
      omega
    clear hE hF hne hdF hl
    generalize E.length = n at *
    generalize F.length = m at *
    go_enter Yba.func64, Yba.ntmps64
    go_wp2
    go_ret
    exact ⟨rfl, Jk.refl _⟩
end Go.Proofs.Ybulkakra

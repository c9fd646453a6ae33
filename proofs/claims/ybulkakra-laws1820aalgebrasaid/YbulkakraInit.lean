/-
  table.init, nodes.init, New of seat b1820a.
-/
import Derived.Test.YbulkakraRel
import Derived.Test.YbulkakraUnion
namespace Go.Proofs.Ybulkakra
open Go.RowKit
set_option linter.unusedSimpArgs false
set_option linter.unusedVariables false

/-- The table's first k parts are laid. -/
structure TI (tg : Nat → Nat) (w : World) (d o : Nat) (C : Nat → Value) (rf : Nat → Nat) (k : Nat) (tg' : Nat → Nat) (w' : World) (C' : Nat → Value) : Prop where
  row : Row w' d 1035 C'
  out : ∀ i, (i < o ∨ o + 512 ≤ i) → C' i = C i
  parts : ∀ j, j < k → ∃ sb, C' (o + j * 2) = .slice (some ⟨sb, 0, none⟩) 4 4 ∧ C' (o + j * 2 + 1) = .int .i64 0 ∧ Row w' sb 8 (slF (fun _ => (0, 0))) ∧ tg' sb = rf j ∧ sb ≠ d
  fr : Fr (· = tg d) tg w tg' w'
theorem TI.step {tg tg' : Nat → Nat} {w wr : World} {d o k : Nat} {C C' : Nat → Value} {rf : Nat → Nat} {cs : Array Value} (h : TI tg w d o C rf k tg' wr C') (hk : k < 256) (ho : o + 512 ≤ 1035) (hcs : ∀ i, i < 8 → cs[i]? = some (.int .u32 0)) (hd : d < w.heap.size) :
    TI tg w d o C rf (k + 1) (tagAt tg' wr.heap.size (rf k)) ((((wr.alloc (.cells cs 139)).setCell ⟨d, o + k * 2, none⟩ (.slice (some ⟨wr.heap.size, 0, none⟩) 4 4)).setCell ⟨d, o + k * 2 + 1, none⟩ (.int .i64 0)).drew) (up1 (up1 C' (o + k * 2) (.slice (some ⟨wr.heap.size, 0, none⟩) 4 4)) (o + k * 2 + 1) (.int .i64 0)) := by
  have hdr := h.row.lt (by omega)
  have hnew : Row (wr.alloc (.cells cs 139)) wr.heap.size 8 (slF (fun _ => (0, 0))) := Row.new wr cs 139 8 _ (fun i hi => by rw [hcs i hi]; unfold slF; simp)
  refine ⟨Row.drew (((h.row.alloc (by omega) _).set (o + k * 2) _).set (o + k * 2 + 1) _), fun i hi => ?_, fun j hj => ?_, ?_⟩
  · rw [up1_other _ _ (by omega), up1_other _ _ (by omega)]
    exact h.out i hi
  · rcases Nat.lt_or_ge j k with h0 | h0
    · obtain ⟨sb, e1, e2, e3, e4, e5⟩ := h.parts j h0
      have hsl := e3.lt (by omega)
      refine ⟨sb, ?_, ?_, ?_, ?_, e5⟩
      · rw [up1_other _ _ (by omega), up1_other _ _ (by omega)]; exact e1
      · rw [up1_other _ _ (by omega), up1_other _ _ (by omega)]; exact e2
      · exact Row.drew (((e3.alloc (by omega) _).setOther (a := ⟨d, o + k * 2, none⟩) e5 _).setOther (a := ⟨d, o + k * 2 + 1, none⟩) e5 _)
      · rw [tagAt_other _ (by omega)]; exact e4
    · have : j = k := by omega
      subst this
      refine ⟨wr.heap.size, ?_, up1_same .., ?_, tagAt_same .., by omega⟩
      · rw [up1_other _ _ (by omega), up1_same]
      · exact Row.drew ((hnew.setOther (a := ⟨d, o + j * 2, none⟩) (by show wr.heap.size ≠ d; omega) _).setOther (a := ⟨d, o + j * 2 + 1, none⟩) (by show wr.heap.size ≠ d; omega) _)
  · exact (((h.fr.alloc _ _).set (a := ⟨d, o + k * 2, none⟩) (.inr rfl) _).set (a := ⟨d, o + k * 2 + 1, none⟩) (.inr rfl) _).drew
set_option maxRecDepth 100000 in
set_option maxHeartbeats 400000 in
theorem table_init (tg : Nat → Nat) (w : World) (d o : Nat) (C : Nat → Value) (rf : Nat → Nat) (hd : Row w d 1035 C) (ho : o + 512 ≤ 1035) :
    Calls Yba.prog 16 #[.pointer (some ⟨d, o, none⟩)] w fun e w' => e = .returned (.tuple #[]) ∧ ∃ tg' C', TI tg w d o C rf 256 tg' w' C' := by
  obtain ⟨cs, hcs, hcf, hmk⟩ := mk_zero zero49 (by omega) 4 4 (by omega) (by omega)
  have hmk' : ∀ w : World, Sem.run Yba.prog (Instr.makeSlice 49 (.int .i64 4) (.int .i64 4)) w = .ok (.slice (some ⟨w.heap.size, 0, none⟩) 4 4) (w.alloc (.cells cs 139)) := hmk
  have HD : Hid _ := hd
  have HCF : Hid _ := hcf
  have hdl := hd.lt (by omega)
  clear hd hcf hmk
  go_enter Yba.func16, Yba.ntmps16
  go_wp2_with fail
  go_loopg [3] 256 (fun g t wr => ∃ k tg' C', k ≤ 256 ∧ g = 256 - k ∧ t = .int .i64 (k : Int) ∧ TI tg w d o C rf k tg' wr C')
  case atStart => exact ⟨0, tg, C, by omega, rfl, rfl, HD.out, fun _ _ => rfl, fun j hj => by omega, Fr.refl _ _ _⟩
  case round =>
    obtain ⟨k, tg', C', hk, hgk, rfl, hT⟩ := hrel
    have HT : Hid _ := hT
    by_cases hlt : k < 256
    · have h1 := (hT.row (o + k * 2) (by omega))
      have h2 := (hT.row (o + k * 2 + 1) (by omega))
      obtain ⟨x1, y1⟩ := h1
      obtain ⟨x2, y2⟩ := h2
      have hlt2 : ((k : Nat) : Int) < 256 := by omega
      have hkw : IntKind.i64.wrap ((k : Int) + 1) = ((k + 1 : Nat) : Int) := by rw [IntKind.wrap_i64]; omega
      clear hT
      have a1 : ∀ O, (wr.alloc O).cell? ⟨d, o + k * 2, none⟩ = some (C' (o + k * 2)) := fun O => cellA x1 O
      have a2 : ∀ O, (wr.alloc O).cell? ⟨d, o + k * 2 + 1, none⟩ = some (C' (o + k * 2 + 1)) := fun O => cellA x2 O
      have a3 : ∀ O, (wr.alloc O).frozen? ⟨d, o + k * 2, none⟩ = false := fun O => frozA (World.block_lt_of_cell? _ _ x1) y1 O
      have a4 : ∀ O, (wr.alloc O).frozen? ⟨d, o + k * 2 + 1, none⟩ = false := fun O => frozA (World.block_lt_of_cell? _ _ x2) y2 O
      go_upto_region 3 with fail
      go_region
      all_goals (
        go_wp2
        go_roundg (256 - (k + 1))
        case measure => omega
        case rel => exact ⟨k + 1, _, _, by omega, rfl, rfl, HT.out.step hlt ho HCF.out hdl⟩)
    · have hlt2 : ¬ ((k : Nat) : Int) < 256 := by omega
      have hk2 : k = 256 := by omega
      clear hT
      go_wp2
      go_end0
      rw [hk2] at HT
      exact ⟨rfl, tg', C', HT.out⟩
end Go.Proofs.Ybulkakra

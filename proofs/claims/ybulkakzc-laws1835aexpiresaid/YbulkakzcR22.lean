/-
  THE LAW OF ABANDONING (seat b1835a): the key of a step: the statement that draws its order.
-/
import Derived.Test.YbulkakzcCore
namespace Go.Proofs.Ybulkakzc
open Go.RowKit
set_option linter.unusedSimpArgs false

theorem same_setRow {w w' : World} (h : Same w w') {b : Nat} (hb : w.heap.size ≤ b) (c : Array Value) : Same w (w'.setRow b c) :=
  ⟨h.os, h.output, by rw [setRow_size]; exact h.size, fun k hk => (setRow_other _ _ _ _ (by omega)).trans (h.block k hk)⟩

set_option maxRecDepth 100000 in
set_option maxHeartbeats 2000000 in
theorem region22 (ps : String) (w1 : World) (sb : Nat) (id s d : Int) (Q : Exit → Act → World → Prop) (v0 v1 v2 v3 v4 v5 v6 v7 v8 v9 v10 v11 v12 v13 v14 v15 v17 v18 v19 v20 v21 v22 v23 v24 v25 v26 v27 v28 v29 v30 v31 v32 v33 v34 v35 v36 v37 v38 v39 v40 v41 v42 v43 v44 v45 v46 v47 v48 v49 v50 v51 v52 v53 v54 v55 v56 v57 v58 v59 v60 v61 v62 v63 v64 v65 v66 v67 v68 v69 v70 v71 v72 v73 v74 v75 v76 v77 v78 v79 v80 v81 v82 v83 v84 v85 : Value) (r : List Value)
    (HG : ∀ w', Same w1 w' → Same w1 w' ∧ w'.cell? ⟨sb, 0, none⟩ = some (.int .u32 id) ∧ w'.cell? ⟨sb, 1, none⟩ = some (.int .u16 s) ∧ w'.cell? ⟨sb, 2, none⟩ = some (.int .u16 d))
    (hK : ∀ (kb : Nat) (w' : World) (u75 u76 u77 u78 u79 u80 u81 u82 u83 u84 u85 : Value), Same w1 w' → w1.heap.size ≤ kb → w'.heap[kb]? = some (.cells (kc ⟨s, d, id⟩).toArray 60 (0, 0)) → Q .normal ⟨(v0 :: v1 :: v2 :: v3 :: v4 :: v5 :: v6 :: v7 :: v8 :: v9 :: v10 :: v11 :: v12 :: v13 :: v14 :: v15 :: .pointer (some ⟨sb, 0, none⟩) :: .pointer (some ⟨kb, 0, none⟩) :: v18 :: v19 :: v20 :: v21 :: v22 :: v23 :: v24 :: v25 :: v26 :: v27 :: v28 :: v29 :: v30 :: v31 :: v32 :: v33 :: v34 :: v35 :: v36 :: v37 :: v38 :: v39 :: v40 :: v41 :: v42 :: v43 :: v44 :: v45 :: v46 :: v47 :: v48 :: v49 :: v50 :: v51 :: v52 :: v53 :: v54 :: v55 :: v56 :: v57 :: v58 :: v59 :: v60 :: v61 :: v62 :: v63 :: v64 :: v65 :: v66 :: v67 :: v68 :: v69 :: v70 :: v71 :: v72 :: v73 :: v74 :: u75 :: u76 :: u77 :: u78 :: u79 :: u80 :: u81 :: u82 :: u83 :: u84 :: u85 :: r).toArray, []⟩ w') :
    Code.wp Yba.prog (.region 22 #[⟨some 75, .build 56 #[], 56, ps, #[], none⟩, ⟨some 76, .fieldAddr 99 (.tmp 16) 1, 0, ps, #[], none⟩, ⟨some 77, .load 22 (.tmp 76), 22, ps, #[⟨1, .data⟩], none⟩, ⟨some 78, .call { callee := .value (.func 13), args := #[.tmp 75, .tmp 77], argTypes := #[56, 22] }, 58, ps, #[⟨0, .data⟩, ⟨2, .data⟩], none⟩, ⟨some 79, .build 56 #[], 56, ps, #[], none⟩, ⟨some 80, .fieldAddr 99 (.tmp 16) 2, 0, ps, #[], none⟩, ⟨some 81, .load 22 (.tmp 80), 22, ps, #[⟨5, .data⟩], none⟩, ⟨some 82, .call { callee := .value (.func 13), args := #[.tmp 79, .tmp 81], argTypes := #[56, 22] }, 58, ps, #[⟨4, .data⟩, ⟨6, .data⟩, ⟨3, .chain⟩], none⟩, ⟨some 83, .fieldAddr 99 (.tmp 16) 0, 0, ps, #[], none⟩, ⟨some 84, .load 49 (.tmp 83), 49, ps, #[⟨8, .data⟩], none⟩, ⟨some 85, .build 60 #[(0, .tmp 78), (1, .tmp 82), (2, .tmp 84)], 60, ps, #[⟨3, .data⟩, ⟨7, .data⟩, ⟨9, .data⟩], none⟩, ⟨some 17, .alloc 60, 0, ps, #[], none⟩, ⟨none, .store 60 (.tmp 17) (.tmp 85), 0, ps, #[⟨11, .data⟩, ⟨10, .data⟩, ⟨7, .chain⟩, ⟨0, .phase⟩, ⟨1, .phase⟩, ⟨2, .phase⟩, ⟨3, .phase⟩, ⟨4, .phase⟩, ⟨5, .phase⟩, ⟨6, .phase⟩, ⟨7, .phase⟩, ⟨8, .phase⟩, ⟨9, .phase⟩, ⟨10, .phase⟩, ⟨11, .phase⟩], none⟩] true) Q ⟨(v0 :: v1 :: v2 :: v3 :: v4 :: v5 :: v6 :: v7 :: v8 :: v9 :: v10 :: v11 :: v12 :: v13 :: v14 :: v15 :: .pointer (some ⟨sb, 0, none⟩) :: v17 :: v18 :: v19 :: v20 :: v21 :: v22 :: v23 :: v24 :: v25 :: v26 :: v27 :: v28 :: v29 :: v30 :: v31 :: v32 :: v33 :: v34 :: v35 :: v36 :: v37 :: v38 :: v39 :: v40 :: v41 :: v42 :: v43 :: v44 :: v45 :: v46 :: v47 :: v48 :: v49 :: v50 :: v51 :: v52 :: v53 :: v54 :: v55 :: v56 :: v57 :: v58 :: v59 :: v60 :: v61 :: v62 :: v63 :: v64 :: v65 :: v66 :: v67 :: v68 :: v69 :: v70 :: v71 :: v72 :: v73 :: v74 :: v75 :: v76 :: v77 :: v78 :: v79 :: v80 :: v81 :: v82 :: v83 :: v84 :: v85 :: r).toArray, []⟩ w1 := by
  have HGd := HG _ (Same.refl w1).drew
  refine wp_region_noPanic ?_
  refine wp_region_held_drew (S := fun w' => Same w1 w' ∧ w'.cell? ⟨sb, 0, none⟩ = some (.int .u32 id) ∧ w'.cell? ⟨sb, 1, none⟩ = some (.int .u16 s) ∧ w'.cell? ⟨sb, 2, none⟩ = some (.int .u16 d)) (by kernel_rfl) HGd (fun hHeld => ?_)
  clear HGd
  refine wpAnyH_take (i := 0) (oi := ⟨some 75, .build 56 #[], 56, ps, #[], none⟩) (v := .agg #[.int .u64 0, .int .u64 0, .pointer none]) rfl (by kernel_rfl) (by kernel_rfl) (by kernel_rfl) (fun _ _ _ h => h) (Or.inl ⟨by rfl, ?_⟩) hHeld ?_
  · (intro w hSw; (try dsimp only at hSw); go_simp)
  simp only [Act.put, List.setIfInBounds_toArray, List.set_cons_zero, List.set_cons_succ]
  refine wpAnyH_take (i := 1) (oi := ⟨some 76, .fieldAddr 99 (.tmp 16) 1, 0, ps, #[], none⟩) (v := .pointer (some ⟨sb, 1, none⟩)) rfl (by kernel_rfl) (by kernel_rfl) (by kernel_rfl) (fun _ _ _ h => h) (Or.inl ⟨by rfl, ?_⟩) hHeld ?_
  · (intro w hSw; (try dsimp only at hSw); go_simp)
  simp only [Act.put, List.setIfInBounds_toArray, List.set_cons_zero, List.set_cons_succ]
  refine wpAnyH_take (i := 2) (oi := ⟨some 77, .load 22 (.tmp 76), 22, ps, #[⟨1, .data⟩], none⟩) (v := .int .u16 s) rfl (by kernel_rfl) (by kernel_rfl) (by kernel_rfl) (fun _ _ _ h => h) (Or.inl ⟨by rfl, ?_⟩) hHeld ?_
  · (intro w hSw; (try dsimp only at hSw); go_simp)
  simp only [Act.put, List.setIfInBounds_toArray, List.set_cons_zero, List.set_cons_succ]
  refine wpAnyH_take (i := 4) (oi := ⟨some 79, .build 56 #[], 56, ps, #[], none⟩) (v := .agg #[.int .u64 0, .int .u64 0, .pointer none]) rfl (by kernel_rfl) (by kernel_rfl) (by kernel_rfl) (fun _ _ _ h => h) (Or.inl ⟨by rfl, ?_⟩) hHeld ?_
  · (intro w hSw; (try dsimp only at hSw); go_simp)
  simp only [Act.put, List.setIfInBounds_toArray, List.set_cons_zero, List.set_cons_succ]
  refine wpAnyH_take (i := 5) (oi := ⟨some 80, .fieldAddr 99 (.tmp 16) 2, 0, ps, #[], none⟩) (v := .pointer (some ⟨sb, 2, none⟩)) rfl (by kernel_rfl) (by kernel_rfl) (by kernel_rfl) (fun _ _ _ h => h) (Or.inl ⟨by rfl, ?_⟩) hHeld ?_
  · (intro w hSw; (try dsimp only at hSw); go_simp)
  simp only [Act.put, List.setIfInBounds_toArray, List.set_cons_zero, List.set_cons_succ]
  refine wpAnyH_take (i := 6) (oi := ⟨some 81, .load 22 (.tmp 80), 22, ps, #[⟨5, .data⟩], none⟩) (v := .int .u16 d) rfl (by kernel_rfl) (by kernel_rfl) (by kernel_rfl) (fun _ _ _ h => h) (Or.inl ⟨by rfl, ?_⟩) hHeld ?_
  · (intro w hSw; (try dsimp only at hSw); go_simp)
  simp only [Act.put, List.setIfInBounds_toArray, List.set_cons_zero, List.set_cons_succ]
  refine wpAnyH_take (i := 8) (oi := ⟨some 83, .fieldAddr 99 (.tmp 16) 0, 0, ps, #[], none⟩) (v := .pointer (some ⟨sb, 0, none⟩)) rfl (by kernel_rfl) (by kernel_rfl) (by kernel_rfl) (fun _ _ _ h => h) (Or.inl ⟨by rfl, ?_⟩) hHeld ?_
  · (intro w hSw; (try dsimp only at hSw); go_simp)
  simp only [Act.put, List.setIfInBounds_toArray, List.set_cons_zero, List.set_cons_succ]
  refine wpAnyH_take (i := 9) (oi := ⟨some 84, .load 49 (.tmp 83), 49, ps, #[⟨8, .data⟩], none⟩) (v := .int .u32 id) rfl (by kernel_rfl) (by kernel_rfl) (by kernel_rfl) (fun _ _ _ h => h) (Or.inl ⟨by rfl, ?_⟩) hHeld ?_
  · (intro w hSw; (try dsimp only at hSw); go_simp)
  simp only [Act.put, List.setIfInBounds_toArray, List.set_cons_zero, List.set_cons_succ]
  refine wpAnyH_ready (rs := [3, 11]) (by kernel_rfl) (by simp) ?_
  refine AllReadyH.cons (i := 3) (rs := [11]) (o := ⟨some 78, .call { callee := .value (.func 13), args := #[.tmp 75, .tmp 77], argTypes := #[56, 22] }, 58, ps, #[⟨0, .data⟩, ⟨2, .data⟩], none⟩) (by kernel_rfl) (fun K4 hK4 => ?_) ?_
  · rw [if_pos (by rfl)]
    go_simp
    refine (apf_any _ s).mono ?_
    rintro e w5 ⟨rfl, o5, o6, rfl⟩
    have hS4 : Same w1 ((w1.drew.alloc o5).alloc o6) := ((Same.refl w1).drew.alloc _).alloc _
    have hO4 : ∀ j o, w1.drew.heap[j]? = some o → ((w1.drew.alloc o5).alloc o6).heap[j]? = some o := fun j o h => by
      have hl := lt_of_block h
      exact (Below.heap_alloc _ _ _ (by rw [World.size_alloc]; omega)).trans ((Below.heap_alloc _ _ _ hl).trans h)
    generalize hw4 : (w1.drew.alloc o5).alloc o6 = x4 at hS4 hO4 ⊢
    clear hw4
    refine hK4.out _ _ (HG _ hS4) (fun hHeld => ?_)
    clear hK4 K4
    simp only [apv, apc]
    refine wpAnyH_ready (rs := [7, 11]) (by kernel_rfl) (by simp) ?_
    refine AllReadyH.cons (i := 7) (rs := [11]) (o := ⟨some 82, .call { callee := .value (.func 13), args := #[.tmp 79, .tmp 81], argTypes := #[56, 22] }, 58, ps, #[⟨4, .data⟩, ⟨6, .data⟩, ⟨3, .chain⟩], none⟩) (by kernel_rfl) (fun K7 hK7 => ?_) ?_
    · rw [if_pos (by rfl)]
      go_simp
      refine (apf_any _ d).mono ?_
      rintro e w5 ⟨rfl, o5, o6, rfl⟩
      have hS7 : Same w1 ((x4.alloc o5).alloc o6) := (hS4.alloc _).alloc _
      have hO7 : ∀ j o, x4.heap[j]? = some o → ((x4.alloc o5).alloc o6).heap[j]? = some o := fun j o h => by
        have hl := lt_of_block h
        exact (Below.heap_alloc _ _ _ (by rw [World.size_alloc]; omega)).trans ((Below.heap_alloc _ _ _ hl).trans h)
      generalize hw7 : (x4.alloc o5).alloc o6 = x7 at hS7 hO7 ⊢
      clear hw7
      refine hK7.out _ _ (HG _ hS7) (fun hHeld => ?_)
      clear hK7 K7
      simp only [apv, apc]
      refine wpAnyH_take (i := 10) (oi := ⟨some 85, .build 60 #[(0, .tmp 78), (1, .tmp 82), (2, .tmp 84)], 60, ps, #[⟨3, .data⟩, ⟨7, .data⟩, ⟨9, .data⟩], none⟩) (v := kv ⟨s, d, id⟩) rfl (by kernel_rfl) (by kernel_rfl) (by kernel_rfl) (fun _ _ _ h => h) (Or.inl ⟨by rfl, fun w _ => by kernel_rfl⟩) hHeld ?_
      simp only [Act.put, List.setIfInBounds_toArray, List.set_cons_zero, List.set_cons_succ]
      refine wpAnyH_ready (rs := [11]) (by kernel_rfl) (by simp) ?_
      refine AllReadyH.cons (i := 11) (rs := []) (o := ⟨some 17, .alloc 60, 0, ps, #[], none⟩) (by kernel_rfl) (fun K8 hK8 => ?_) ?_
      · rw [if_pos (by rfl)]
        refine wp_of_run (v := .pointer (some ⟨x7.heap.size, 0, none⟩)) (w' := x7.alloc (.cells (kc ⟨0, 0, 0⟩).toArray 60)) (by kernel_rfl) ?_
        have hS8 : Same w1 (x7.alloc (.cells (kc ⟨0, 0, 0⟩).toArray 60)) := hS7.alloc _
        have hN8 := heap_alloc_new x7 (.cells (kc ⟨0, 0, 0⟩).toArray 60)
        have hL8 : w1.heap.size ≤ x7.heap.size := hS7.size
        generalize hy8 : x7.heap.size = kb at hN8 hL8 ⊢
        generalize hw8 : x7.alloc (.cells (kc ⟨0, 0, 0⟩).toArray 60) = x8 at hS8 hN8 ⊢
        clear hw8 hy8
        refine hK8.out _ _ (HG _ hS8) (fun hHeld => ?_)
        clear hK8 K8
        simp only [Act.put, List.setIfInBounds_toArray, List.set_cons_zero, List.set_cons_succ]
        have hS9 : Same w1 (x8.setRow kb (kc ⟨s, d, id⟩).toArray) := same_setRow hS8 hL8 _
        refine wpAnyH_last (i := 12) (o := ⟨none, .store 60 (.tmp 17) (.tmp 85), 0, ps, #[⟨11, .data⟩, ⟨10, .data⟩, ⟨7, .chain⟩, ⟨0, .phase⟩, ⟨1, .phase⟩, ⟨2, .phase⟩, ⟨3, .phase⟩, ⟨4, .phase⟩, ⟨5, .phase⟩, ⟨6, .phase⟩, ⟨7, .phase⟩, ⟨8, .phase⟩, ⟨9, .phase⟩, ⟨10, .phase⟩, ⟨11, .phase⟩], none⟩) (w' := x8.setRow kb (kc ⟨s, d, id⟩).toArray) (by kernel_rfl) (by kernel_rfl) (by kernel_rfl) (by kernel_rfl) (HG _ hS9) (fun Kn h => ?_) ?_
        · exact wp_store_row 60 (.tmp 17) (.tmp 85) rfl kb (kc ⟨s, d, id⟩).toArray (by rfl) (by rfl) 60 (kc ⟨0, 0, 0⟩).toArray hN8 (by kernel_rfl) rfl (by simp [kc, Value.oneCell']) h
        · exact NoPanic.normal (hK kb _ _ _ _ _ _ _ _ _ _ _ _ hS9 hL8 (setRow_heap _ _ _ _ _ _ hN8))
      · exact AllReadyH.nil
    · refine AllReadyH.cons (i := 11) (rs := []) (o := ⟨some 17, .alloc 60, 0, ps, #[], none⟩) (by kernel_rfl) (fun K5 hK5 => ?_) ?_
      · rw [if_pos (by rfl)]
        refine wp_of_run (v := .pointer (some ⟨x4.heap.size, 0, none⟩)) (w' := x4.alloc (.cells (kc ⟨0, 0, 0⟩).toArray 60)) (by kernel_rfl) ?_
        have hS5 : Same w1 (x4.alloc (.cells (kc ⟨0, 0, 0⟩).toArray 60)) := hS4.alloc _
        have hN5 := heap_alloc_new x4 (.cells (kc ⟨0, 0, 0⟩).toArray 60)
        have hL5 : w1.heap.size ≤ x4.heap.size := hS4.size
        generalize hy5 : x4.heap.size = kb at hN5 hL5 ⊢
        generalize hw5 : x4.alloc (.cells (kc ⟨0, 0, 0⟩).toArray 60) = x5 at hS5 hN5 ⊢
        clear hw5 hy5
        refine hK5.out _ _ (HG _ hS5) (fun hHeld => ?_)
        clear hK5 K5
        simp only [Act.put, List.setIfInBounds_toArray, List.set_cons_zero, List.set_cons_succ]
        refine wpAnyH_ready (rs := [7]) (by kernel_rfl) (by simp) ?_
        refine AllReadyH.cons (i := 7) (rs := []) (o := ⟨some 82, .call { callee := .value (.func 13), args := #[.tmp 79, .tmp 81], argTypes := #[56, 22] }, 58, ps, #[⟨4, .data⟩, ⟨6, .data⟩, ⟨3, .chain⟩], none⟩) (by kernel_rfl) (fun K6 hK6 => ?_) ?_
        · rw [if_pos (by rfl)]
          go_simp
          refine (apf_any _ d).mono ?_
          rintro e w5 ⟨rfl, o5, o6, rfl⟩
          have hS6 : Same w1 ((x5.alloc o5).alloc o6) := (hS5.alloc _).alloc _
          have hO6 : ∀ j o, x5.heap[j]? = some o → ((x5.alloc o5).alloc o6).heap[j]? = some o := fun j o h => by
            have hl := lt_of_block h
            exact (Below.heap_alloc _ _ _ (by rw [World.size_alloc]; omega)).trans ((Below.heap_alloc _ _ _ hl).trans h)
          generalize hw6 : (x5.alloc o5).alloc o6 = x6 at hS6 hO6 ⊢
          clear hw6
          refine hK6.out _ _ (HG _ hS6) (fun hHeld => ?_)
          clear hK6 K6
          simp only [apv, apc]
          have hN9 := hO6 kb _ hN5
          refine wpAnyH_take (i := 10) (oi := ⟨some 85, .build 60 #[(0, .tmp 78), (1, .tmp 82), (2, .tmp 84)], 60, ps, #[⟨3, .data⟩, ⟨7, .data⟩, ⟨9, .data⟩], none⟩) (v := kv ⟨s, d, id⟩) rfl (by kernel_rfl) (by kernel_rfl) (by kernel_rfl) (fun _ _ _ h => h) (Or.inl ⟨by rfl, fun w _ => by kernel_rfl⟩) hHeld ?_
          simp only [Act.put, List.setIfInBounds_toArray, List.set_cons_zero, List.set_cons_succ]
          have hS9 : Same w1 (x6.setRow kb (kc ⟨s, d, id⟩).toArray) := same_setRow hS6 hL5 _
          refine wpAnyH_last (i := 12) (o := ⟨none, .store 60 (.tmp 17) (.tmp 85), 0, ps, #[⟨11, .data⟩, ⟨10, .data⟩, ⟨7, .chain⟩, ⟨0, .phase⟩, ⟨1, .phase⟩, ⟨2, .phase⟩, ⟨3, .phase⟩, ⟨4, .phase⟩, ⟨5, .phase⟩, ⟨6, .phase⟩, ⟨7, .phase⟩, ⟨8, .phase⟩, ⟨9, .phase⟩, ⟨10, .phase⟩, ⟨11, .phase⟩], none⟩) (w' := x6.setRow kb (kc ⟨s, d, id⟩).toArray) (by kernel_rfl) (by kernel_rfl) (by kernel_rfl) (by kernel_rfl) (HG _ hS9) (fun Kn h => ?_) ?_
          · exact wp_store_row 60 (.tmp 17) (.tmp 85) rfl kb (kc ⟨s, d, id⟩).toArray (by rfl) (by rfl) 60 (kc ⟨0, 0, 0⟩).toArray hN9 (by kernel_rfl) rfl (by simp [kc, Value.oneCell']) h
          · exact NoPanic.normal (hK kb _ _ _ _ _ _ _ _ _ _ _ _ hS9 hL5 (setRow_heap _ _ _ _ _ _ hN9))
        · exact AllReadyH.nil
      · exact AllReadyH.nil
  · refine AllReadyH.cons (i := 11) (rs := []) (o := ⟨some 17, .alloc 60, 0, ps, #[], none⟩) (by kernel_rfl) (fun K1 hK1 => ?_) ?_
    · rw [if_pos (by rfl)]
      refine wp_of_run (v := .pointer (some ⟨w1.drew.heap.size, 0, none⟩)) (w' := w1.drew.alloc (.cells (kc ⟨0, 0, 0⟩).toArray 60)) (by kernel_rfl) ?_
      have hS1 : Same w1 (w1.drew.alloc (.cells (kc ⟨0, 0, 0⟩).toArray 60)) := (Same.refl w1).drew.alloc _
      have hN1 := heap_alloc_new w1.drew (.cells (kc ⟨0, 0, 0⟩).toArray 60)
      have hL1 : w1.heap.size ≤ w1.drew.heap.size := (Same.refl w1).drew.size
      generalize hy1 : w1.drew.heap.size = kb at hN1 hL1 ⊢
      generalize hw1 : w1.drew.alloc (.cells (kc ⟨0, 0, 0⟩).toArray 60) = x1 at hS1 hN1 ⊢
      clear hw1 hy1
      refine hK1.out _ _ (HG _ hS1) (fun hHeld => ?_)
      clear hK1 K1
      simp only [Act.put, List.setIfInBounds_toArray, List.set_cons_zero, List.set_cons_succ]
      refine wpAnyH_ready (rs := [3]) (by kernel_rfl) (by simp) ?_
      refine AllReadyH.cons (i := 3) (rs := []) (o := ⟨some 78, .call { callee := .value (.func 13), args := #[.tmp 75, .tmp 77], argTypes := #[56, 22] }, 58, ps, #[⟨0, .data⟩, ⟨2, .data⟩], none⟩) (by kernel_rfl) (fun K2 hK2 => ?_) ?_
      · rw [if_pos (by rfl)]
        go_simp
        refine (apf_any _ s).mono ?_
        rintro e w5 ⟨rfl, o5, o6, rfl⟩
        have hS2 : Same w1 ((x1.alloc o5).alloc o6) := (hS1.alloc _).alloc _
        have hO2 : ∀ j o, x1.heap[j]? = some o → ((x1.alloc o5).alloc o6).heap[j]? = some o := fun j o h => by
          have hl := lt_of_block h
          exact (Below.heap_alloc _ _ _ (by rw [World.size_alloc]; omega)).trans ((Below.heap_alloc _ _ _ hl).trans h)
        generalize hw2 : (x1.alloc o5).alloc o6 = x2 at hS2 hO2 ⊢
        clear hw2
        refine hK2.out _ _ (HG _ hS2) (fun hHeld => ?_)
        clear hK2 K2
        simp only [apv, apc]
        refine wpAnyH_ready (rs := [7]) (by kernel_rfl) (by simp) ?_
        refine AllReadyH.cons (i := 7) (rs := []) (o := ⟨some 82, .call { callee := .value (.func 13), args := #[.tmp 79, .tmp 81], argTypes := #[56, 22] }, 58, ps, #[⟨4, .data⟩, ⟨6, .data⟩, ⟨3, .chain⟩], none⟩) (by kernel_rfl) (fun K3 hK3 => ?_) ?_
        · rw [if_pos (by rfl)]
          go_simp
          refine (apf_any _ d).mono ?_
          rintro e w5 ⟨rfl, o5, o6, rfl⟩
          have hS3 : Same w1 ((x2.alloc o5).alloc o6) := (hS2.alloc _).alloc _
          have hO3 : ∀ j o, x2.heap[j]? = some o → ((x2.alloc o5).alloc o6).heap[j]? = some o := fun j o h => by
            have hl := lt_of_block h
            exact (Below.heap_alloc _ _ _ (by rw [World.size_alloc]; omega)).trans ((Below.heap_alloc _ _ _ hl).trans h)
          generalize hw3 : (x2.alloc o5).alloc o6 = x3 at hS3 hO3 ⊢
          clear hw3
          refine hK3.out _ _ (HG _ hS3) (fun hHeld => ?_)
          clear hK3 K3
          simp only [apv, apc]
          have hN9 := hO3 kb _ (hO2 kb _ hN1)
          refine wpAnyH_take (i := 10) (oi := ⟨some 85, .build 60 #[(0, .tmp 78), (1, .tmp 82), (2, .tmp 84)], 60, ps, #[⟨3, .data⟩, ⟨7, .data⟩, ⟨9, .data⟩], none⟩) (v := kv ⟨s, d, id⟩) rfl (by kernel_rfl) (by kernel_rfl) (by kernel_rfl) (fun _ _ _ h => h) (Or.inl ⟨by rfl, fun w _ => by kernel_rfl⟩) hHeld ?_
          simp only [Act.put, List.setIfInBounds_toArray, List.set_cons_zero, List.set_cons_succ]
          have hS9 : Same w1 (x3.setRow kb (kc ⟨s, d, id⟩).toArray) := same_setRow hS3 hL1 _
          refine wpAnyH_last (i := 12) (o := ⟨none, .store 60 (.tmp 17) (.tmp 85), 0, ps, #[⟨11, .data⟩, ⟨10, .data⟩, ⟨7, .chain⟩, ⟨0, .phase⟩, ⟨1, .phase⟩, ⟨2, .phase⟩, ⟨3, .phase⟩, ⟨4, .phase⟩, ⟨5, .phase⟩, ⟨6, .phase⟩, ⟨7, .phase⟩, ⟨8, .phase⟩, ⟨9, .phase⟩, ⟨10, .phase⟩, ⟨11, .phase⟩], none⟩) (w' := x3.setRow kb (kc ⟨s, d, id⟩).toArray) (by kernel_rfl) (by kernel_rfl) (by kernel_rfl) (by kernel_rfl) (HG _ hS9) (fun Kn h => ?_) ?_
          · exact wp_store_row 60 (.tmp 17) (.tmp 85) rfl kb (kc ⟨s, d, id⟩).toArray (by rfl) (by rfl) 60 (kc ⟨0, 0, 0⟩).toArray hN9 (by kernel_rfl) rfl (by simp [kc, Value.oneCell']) h
          · exact NoPanic.normal (hK kb _ _ _ _ _ _ _ _ _ _ _ _ hS9 hL1 (setRow_heap _ _ _ _ _ _ hN9))
        · exact AllReadyH.nil
      · exact AllReadyH.nil
    · exact AllReadyH.nil
end Go.Proofs.Ybulkakzc

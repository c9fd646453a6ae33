/-
  '==' and '!=' between two pointers, over the worlds of this seat's two laws (two or three new blocks on top of 'w').
-/
import Derived.Test.YbulkakscRows
import Derived.LaidEqlPtr
namespace Go.Proofs.Ybulkaksc

theorem neq_of_eql {P : Program} {t : TypeId} {a b : Option Addr} {w : World} {r : Bool} (h' : (Op.equal t (.pointer a) (.pointer b)).run P w = .ok r w) :
    (binOp .neq t (.pointer a) (.pointer b)).run P w = .ok (.bool (!r)) w := by
  simp only [binOp]
  simp [h']

theorem equal_ptr_same {P : Program} (w : World) {tp te : TypeId} {j : TypeInfo} (a : Addr) (hp : P.underlying tp = some (.pointer te)) (hte : P.info? te = some j) :
    (Op.equal tp (.pointer (some a)) (.pointer (some a))).run P w = .ok true w := by
  have h : ∀ d : Nat, (Op.equalIn (d + 1) tp (.pointer (some a)) (.pointer (some a))).run P w = .ok true w := fun d => by
    simp [Op.equalIn, run_underlying hp, sizeOf, typeInfo, hte, run_sameAddr_same]
  simp [Op.equal, Op.maxDepth, h 9999]

theorem equal_ptr_other {P : Program} (w : World) {tp te : TypeId} {j : TypeInfo} {a b : Addr} {ca cb : Array Value} {ta tb : TypeId} (hp : P.underlying tp = some (.pointer te)) (hte : P.info? te = some j) (hsz : j.size ≠ 0)
    (hne : a ≠ b) (ha : w.heap[a.block]? = some (.cells ca ta (0, 0))) (hb : w.heap[b.block]? = some (.cells cb tb (0, 0))) :
    (Op.equal tp (.pointer (some a)) (.pointer (some b))).run P w = .ok false w := by
  have h : ∀ d : Nat, (Op.equalIn (d + 1) tp (.pointer (some a)) (.pointer (some b))).run P w = .ok false w := fun d => by
    simp [Op.equalIn, run_underlying hp, sizeOf, typeInfo, hte, hsz, run_sameAddr_other w hne ha hb]
  simp [Op.equal, Op.maxDepth, h 9999]

theorem neq_ptr_same {P : Program} (w : World) {tp te : TypeId} {j : TypeInfo} (a : Addr) (hp : P.underlying tp = some (.pointer te)) (hte : P.info? te = some j) :
    (binOp .neq tp (.pointer (some a)) (.pointer (some a))).run P w = .ok (.bool false) w :=
  neq_of_eql (equal_ptr_same w a hp hte)

theorem neq_ptr_other {P : Program} (w : World) {tp te : TypeId} {j : TypeInfo} {a b : Addr} {ca cb : Array Value} {ta tb : TypeId} (hp : P.underlying tp = some (.pointer te)) (hte : P.info? te = some j) (hsz : j.size ≠ 0)
    (hne : a ≠ b) (ha : w.heap[a.block]? = some (.cells ca ta (0, 0))) (hb : w.heap[b.block]? = some (.cells cb tb (0, 0))) :
    (binOp .neq tp (.pointer (some a)) (.pointer (some b))).run P w = .ok (.bool true) w :=
  neq_of_eql (equal_ptr_other w hp hte hsz hne ha hb)

/-- the type that a gauge's pointer leads to takes room -/
theorem gauge_size : ∃ te j, Yba.prog.underlying 26 = some (.pointer te) ∧ Yba.prog.info? te = some j ∧ j.size ≠ 0 := by
  have h : (Yba.prog.info? 43).map (fun j => j.size != 0) = some true := by kernel_rfl
  cases hj : Yba.prog.info? 43 with
  | none => rw [hj] at h; simp at h
  | some j => rw [hj] at h; exact ⟨43, j, Yba.underlying26, hj, by simpa using h⟩
theorem model_info : ∃ te j, Yba.prog.underlying 23 = some (.pointer te) ∧ Yba.prog.info? te = some j := by
  have h : (Yba.prog.info? 80).isSome = true := by kernel_rfl
  obtain ⟨j, hj⟩ := Option.isSome_iff_exists.1 h
  exact ⟨80, j, Yba.underlying23, hj⟩

theorem push0 {o p : Obj} (a : Array Obj) : ((a.push o).push p)[a.size]? = some o := by simp [Array.getElem?_push]
theorem push1 {o p : Obj} (a : Array Obj) : ((a.push o).push p)[a.size + 1]? = some p := by simp only [Array.getElem?_push, Array.size_push]; simp
theorem push30 {o p q : Obj} (a : Array Obj) : (((a.push o).push p).push q)[a.size]? = some o := by simp [Array.getElem?_push]; omega
theorem push31 {o p q : Obj} (a : Array Obj) : (((a.push o).push p).push q)[a.size + 1]? = some p := by simp only [Array.getElem?_push, Array.size_push]; simp
theorem push32 {o p q : Obj} (a : Array Obj) : (((a.push o).push p).push q)[a.size + 1 + 1]? = some q := by simp only [Array.getElem?_push, Array.size_push]; simp

theorem gauge_same (w : World) (a : Addr) : (binOp .eql 26 (.pointer (some a)) (.pointer (some a))).run Yba.prog w = .ok (.bool true) w := by
  obtain ⟨te, j, h1, h2, _⟩ := gauge_size
  exact run_eql_ptr_same w a h1 h2
theorem model_neq_same (w : World) (a : Addr) : (binOp .neq 23 (.pointer (some a)) (.pointer (some a))).run Yba.prog w = .ok (.bool false) w := by
  obtain ⟨te, j, h1, h2⟩ := model_info
  exact neq_ptr_same w a h1 h2
theorem gauge_other3 (w : World) (c0 c1 c2 : Array Value) (t0 t1 t2 : TypeId) (i j k l : Nat) (hij : i < 3) (hjk : j < 3) (hne : i ≠ j) :
    (binOp .eql 26 (.pointer (some ⟨w.heap.size + i, k, none⟩)) (.pointer (some ⟨w.heap.size + j, l, none⟩))).run Yba.prog (((w.alloc (.cells c0 t0)).alloc (.cells c1 t1)).alloc (.cells c2 t2)) =
      .ok (.bool false) (((w.alloc (.cells c0 t0)).alloc (.cells c1 t1)).alloc (.cells c2 t2)) := by
  obtain ⟨te, j', h1, h2, h3⟩ := gauge_size
  have hb : ∀ n, n < 3 → ∃ c t, (((w.alloc (.cells c0 t0)).alloc (.cells c1 t1)).alloc (.cells c2 t2)).heap[w.heap.size + n]? = some (.cells c t (0, 0)) := by
    intro n hn
    match n, hn with
    | 0, _ => exact ⟨_, _, push30 w.heap⟩
    | 1, _ => exact ⟨_, _, push31 w.heap⟩
    | 2, _ => exact ⟨_, _, push32 w.heap⟩
  obtain ⟨_, _, ha⟩ := hb i hij
  obtain ⟨_, _, hb⟩ := hb j hjk
  exact run_eql_ptr_other _ h1 h2 h3 (by simp; omega) ha hb
theorem gauge_neq_other2 (w : World) (c0 c1 : Array Value) (t0 t1 : TypeId) (i j k l : Nat) (hij : i < 2) (hjk : j < 2) (hne : i ≠ j) :
    (binOp .neq 26 (.pointer (some ⟨w.heap.size + i, k, none⟩)) (.pointer (some ⟨w.heap.size + j, l, none⟩))).run Yba.prog ((w.alloc (.cells c0 t0)).alloc (.cells c1 t1)) =
      .ok (.bool true) ((w.alloc (.cells c0 t0)).alloc (.cells c1 t1)) := by
  obtain ⟨te, j', h1, h2, h3⟩ := gauge_size
  have hb : ∀ n, n < 2 → ∃ c t, ((w.alloc (.cells c0 t0)).alloc (.cells c1 t1)).heap[w.heap.size + n]? = some (.cells c t (0, 0)) := by
    intro n hn
    match n, hn with
    | 0, _ => exact ⟨_, _, push0 w.heap⟩
    | 1, _ => exact ⟨_, _, push1 w.heap⟩
  obtain ⟨_, _, ha⟩ := hb i hij
  obtain ⟨_, _, hb⟩ := hb j hjk
  exact neq_ptr_other _ h1 h2 h3 (by simp; omega) ha hb
end Go.Proofs.Ybulkaksc

/-
  THE KEYS of seat b1835a's maps: a message's key is two ports and a number (its addresses are the zero address): '==' on such keys, and what a map keyed by them does.
-/
import Derived.Test.YbulkakzcRows
import Derived.WalkKit
import Derived.Laws.StructEq
import Derived.MapKept
import Derived.Deep.Draws
namespace Go.Proofs.Ybulkakzc
open Go.RowKit
set_option linter.unusedSimpArgs false

structure K where
  s : Int
  d : Int
  i : Int

/-- An address and port: the zero address. -/
def apc (p : Int) : List Value := [.int .u64 0, .int .u64 0, .pointer none, .int .u16 p]
def kc (k : K) : List Value := [.int .u64 0, .int .u64 0, .pointer none, .int .u16 k.s, .int .u64 0, .int .u64 0, .pointer none, .int .u16 k.d, .int .u32 k.i]
def kv (k : K) : Value := .agg (kc k).toArray
def apv (p : Int) : Value := .agg (apc p).toArray

def K.same (a b : K) : Bool := (a.s == b.s) && (a.d == b.d) && (a.i == b.i)
theorem K.same_iff (a b : K) : a.same b = true ↔ a = b := by
  obtain ⟨a1, a2, a3⟩ := a
  obtain ⟨b1, b2, b3⟩ := b
  simp [K.same]
  constructor
  · rintro ⟨⟨h1, h2⟩, h3⟩; exact ⟨h1, h2, h3⟩
  · rintro ⟨h1, h2, h3⟩; exact ⟨⟨h1, h2⟩, h3⟩
theorem K.same_self (a : K) : a.same a = true := (K.same_iff a a).2 rfl

theorem eq58 (w : World) (d : Nat) (a b : Int) : (Op.equalIn (d + 5) 58 (apv a) (apv b)).run Yba.prog w = .ok (a == b) w := by
  have h52 := run_equalIn_pointer_nil (P := Yba.prog) w (d + 1) 52 none (by kernel_rfl)
  simp [apv, apc, go_sem, Yba.underlying58, Yba.underlying56, Yba.underlying54, Yba.underlying51, Yba.underlying31, Yba.underlying22, h52]
  by_cases h : a = b <;> simp [h]
theorem eq60 (w : World) (d : Nat) (a b : K) : (Op.equalIn (d + 6) 60 (kv a) (kv b)).run Yba.prog w = .ok (a.same b) w := by
  have h52 := fun w => run_equalIn_pointer_nil (P := Yba.prog) w (d + 1) 52 none (by kernel_rfl)
  simp [kv, kc, go_sem, Yba.underlying60, Yba.underlying58, Yba.underlying49, h52, K.same]
  by_cases h1 : a.s = b.s <;> by_cases h2 : a.d = b.d <;> by_cases h3 : a.i = b.i <;> simp [h1, h2, h3]
theorem neq58 (w : World) (a b : Int) : (binOp .neq 58 (apv a) (apv b)).run Yba.prog w = .ok (.bool (!(a == b))) w := by
  have h := eq58 w 9995 a b
  simp only [apv] at h ⊢
  rw [run_neq_struct, h]
  rfl
theorem neq60 (w : World) (a b : K) : (binOp .neq 60 (kv a) (kv b)).run Yba.prog w = .ok (.bool (!(a.same b))) w := by
  have h := eq60 w 9994 a b
  simp only [kv] at h ⊢
  rw [run_neq_struct, h]
  rfl
theorem equal60 (w : World) (a b : K) : (Op.equal 60 (kv a) (kv b)).run Yba.prog w = .ok (a.same b) w := eq60 w 9994 a b

theorem check60_at (w : World) (e : Bool) (d : Nat) (a : K) : (Instr.checkKey e (d + 6) 60 (kv a)).run Yba.prog w = .ok () w := by
  simp [Instr.checkKey, kv, kc, go_sem]
theorem check60 (w : World) (e : Bool) (a : K) : (Instr.checkKey e 10000 60 (kv a)).run Yba.prog w = .ok () w := check60_at w e 9994 a

/-! ### A map keyed so: its entries as a list -/
structure En where
  k : K
  v : Value
  born : Nat

def En.raw (e : En) : MapEntry := { key := kv e.k, val := e.v, born := e.born }
def ents (l : List En) : Array MapEntry := (l.map En.raw).toArray

/-- Where k stands, and what it leads to. -/
def fnd (k : K) : List En → Nat → Option (Nat × Value)
  | [], _ => none
  | e :: es, i => if k.same e.k then some (i, e.v) else fnd k es (i + 1)

theorem findAsking_run (w : World) (k : K) : ∀ (l : List En) (i : Nat), (Instr.findAsking 60 (kv k) (l.map En.raw) i).run Yba.prog w = .ok (fnd k l i) w
  | [], i => by simp [Instr.findAsking, fnd]
  | e :: l, i => by
    have h := equal60 w k e.k
    have ih := findAsking_run w k l (i + 1)
    simp only [List.map_cons, Instr.findAsking, Sem.run_bind, En.raw, h, Result.andThen_ok, fnd, Sem.run_ite]
    cases k.same e.k
    · simpa using ih
    · simp

theorem findKey_run (w : World) (k : K) (l : List En) : (Instr.findKey 60 (kv k) (l.map En.raw)).run Yba.prog w = .ok (fnd k l 0) w := by
  cases l with
  | nil => simp [Instr.findKey, go_sem, Instr.findNow, fnd]
  | cons e l =>
    have h := findAsking_run w k (e :: l) 0
    have hs : Instr.sameNow (TypeDesc.struct (Yba.prog.fieldsOf 60)) (kv k) (kv e.k) = none := rfl
    have hu : Yba.prog.underlying 60 = some (TypeDesc.struct (Yba.prog.fieldsOf 60)) := by kernel_rfl
    simp only [Instr.findKey, Sem.run_bind, run_underlying hu, Result.andThen_ok, List.map_cons, Instr.findNow, En.raw, hs]
    exact h

def get (k : K) : List En → Option Value
  | [] => none
  | e :: es => if k.same e.k then some e.v else get k es
def put (k : K) (v : Value) (c : Nat) : List En → List En
  | [] => [⟨k, v, c⟩]
  | e :: es => if k.same e.k then { e with v := v } :: es else e :: put k v c es
def dele (k : K) : List En → List En
  | [] => []
  | e :: es => if k.same e.k then es else e :: dele k es
def kput (k : K) : List K → List K
  | [] => [k]
  | x :: xs => if k.same x then x :: xs else x :: kput k xs
def kdel (k : K) : List K → List K
  | [] => []
  | x :: xs => if k.same x then xs else x :: kdel k xs
def khas (k : K) : List K → Bool
  | [] => false
  | x :: xs => k.same x || khas k xs
def keysOf (l : List En) : List K := l.map (·.k)

theorem keysOf_put (k : K) (v : Value) (c : Nat) : ∀ l, keysOf (put k v c l) = kput k (keysOf l)
  | [] => rfl
  | e :: es => by
    have ih := keysOf_put k v c es
    unfold keysOf at ih ⊢
    simp only [put, List.map_cons, kput]
    cases k.same e.k
    · simp [ih]
    · simp
theorem keysOf_dele (k : K) : ∀ l, keysOf (dele k l) = kdel k (keysOf l)
  | [] => rfl
  | e :: es => by
    have ih := keysOf_dele k es
    unfold keysOf at ih ⊢
    simp only [dele, List.map_cons, kdel]
    cases k.same e.k
    · simp [ih]
    · simp
theorem get_isSome (k : K) : ∀ l, (get k l).isSome = khas k (keysOf l)
  | [] => rfl
  | e :: es => by
    have ih := get_isSome k es
    unfold keysOf at ih ⊢
    simp only [get, List.map_cons, khas]
    cases k.same e.k
    · simpa using ih
    · simp
theorem get_put (k : K) (v : Value) (c : Nat) : ∀ l, get k (put k v c l) = some v
  | [] => by simp [put, get, K.same_self]
  | e :: es => by
    have ih := get_put k v c es
    simp only [put]
    cases h : k.same e.k
    · simp [get, h, ih]
    · simp [get, h]
theorem length_ents (l : List En) : (ents l).size = l.length := by simp [ents]

/-- What the place that was found is good for. -/
theorem fnd_some (k : K) (v' : Value) (c : Nat) : ∀ (l : List En) (n m : Nat) (v : Value), fnd k l n = some (m, v) →
    n ≤ m ∧ get k l = some v ∧ (put k v' c l).map En.raw = (l.map En.raw).modify (m - n) (fun e => { e with key := kv k, val := v' }) ∧ (dele k l).map En.raw = (l.map En.raw).eraseIdx (m - n) ∧ m - n < l.length ∧ ((l.map En.raw)[m - n]?).map (·.key) = some (kv k)
  | [], n, m, v, h => by cases h
  | e :: es, n, m, v, h => by
    simp only [fnd] at h
    cases hs : k.same e.k
    · rw [hs] at h
      simp only [Bool.false_eq_true, if_false] at h
      obtain ⟨h1, h2, h3, h4, h5, h6⟩ := fnd_some k v' c es (n + 1) m v h
      have e1 : m - n = (m - (n + 1)) + 1 := by omega
      refine ⟨by omega, by simp [get, hs, h2], ?_, ?_, by simp; omega, ?_⟩
      · rw [e1]; simp [put, hs, h3]
      · rw [e1]; simp [dele, hs, h4]
      · rw [e1]; simpa using h6
    · rw [hs] at h
      simp only [if_true, Option.some.injEq, Prod.mk.injEq] at h
      obtain ⟨rfl, rfl⟩ := h
      have hk : k = e.k := (K.same_iff _ _).1 hs
      refine ⟨Nat.le_refl _, by simp [get, hs], ?_, ?_, by simp, ?_⟩
      · simp [put, hs, En.raw]; rw [hk]
      · simp [dele, hs]
      · simp [En.raw, hk]
theorem fnd_none (k : K) (v' : Value) (c : Nat) : ∀ (l : List En) (n : Nat), fnd k l n = none → get k l = none ∧ put k v' c l = l ++ [⟨k, v', c⟩] ∧ dele k l = l
  | [], n, _ => ⟨rfl, rfl, rfl⟩
  | e :: es, n, h => by
    simp only [fnd] at h
    cases hs : k.same e.k
    · rw [hs] at h
      simp only [Bool.false_eq_true, if_false] at h
      obtain ⟨h1, h2, h3⟩ := fnd_none k v' c es (n + 1) h
      exact ⟨by simp [get, hs, h1], by simp [put, hs, h2], by simp [dele, hs, h3]⟩
    · rw [hs] at h; simp at h

theorem sameBits_kv (k : K) : Instr.sameBits 10000 (kv k) (kv k) = true := by
  have h : ∀ d, Instr.sameBits (d + 1) (kv k) (kv k) = true := fun d => by simp [Instr.sameBits, kv, kc]
  exact h 9999

/-- Nothing but block r has turned. -/
structure OnlyB (r : Nat) (w w' : World) : Prop where
  os : w'.os = w.os
  tape : w'.tape = w.tape
  output : w'.output = w.output
  size : w'.heap.size = w.heap.size
  block : ∀ k, k ≠ r → w'.heap[k]? = w.heap[k]?

theorem setObj_only {w : World} {r : Nat} {es : Array MapEntry} {c : Nat} (hb : w.heap[r]? = some (.map es c)) (o : Obj) :
    ∃ w', (setObj r o).run Yba.prog w = .ok () w' ∧ OnlyB r w w' ∧ w'.heap[r]? = some o ∧ ∀ n, (setObj r o).run Yba.prog (w.drewN n) = .ok () (w'.drewN n) := by
  have hlt := lt_of_block hb
  refine ⟨{ w with heap := w.heap.setIfInBounds r o }, MapKept.run_setObj_map o hb, ⟨rfl, rfl, rfl, by simp, fun k hk => ?_⟩, ?_, fun n => ?_⟩
  · show (w.heap.setIfInBounds r o)[k]? = _
    rw [Array.getElem?_setIfInBounds, if_neg (fun h => hk h.symm)]
  · show (w.heap.setIfInBounds r o)[r]? = _
    rw [Array.getElem?_setIfInBounds]
    simp [hlt]
  · exact MapKept.run_setObj_map (w := w.drewN n) o hb

/-- m[k] = v -/
theorem mapUpdate_run {w : World} (M e : TypeId) (hM : Yba.prog.underlying M = some (.map 60 e)) {r : Nat} {l : List En} {c : Nat} (hb : w.heap[r]? = some (.map (ents l) c)) (k : K) (v : Value) :
    ∃ w' c' l', (∀ n, (Instr.mapUpdate M (.map (some r)) (kv k) v).run Yba.prog (w.drewN n) = .ok () (w'.drewN n)) ∧ OnlyB r w w' ∧ w'.heap[r]? = some (.map (ents l') c') ∧ keysOf l' = kput k (keysOf l) ∧ get k l' = some v ∧ (∀ k', k'.same k = false → get k' l' = get k' l) := by
  have hoth : ∀ k' b, k'.same k = false → get k' (put k v b l) = get k' l := by
    intro k' b hk'
    clear hb
    induction l with
    | nil => simp [put, get, hk']
    | cons e l ih =>
      simp only [put]
      cases h : k.same e.k
      · simp [get, ih]
      · have he : k = e.k := (K.same_iff _ _).1 h
        have : k'.same e.k = false := by rw [← he]; exact hk'
        simp [get, this]
  cases hf : fnd k l 0 with
  | none =>
    obtain ⟨w', h0, h1, h2, h3⟩ := setObj_only hb (.map ((ents l).push { key := kv k, val := v, born := c }) (c + 1))
    obtain ⟨g1, g2, g3⟩ := fnd_none k v c l 0 hf
    refine ⟨w', c + 1, put k v c l, fun n => ?_, h1, ?_, keysOf_put k v c l, get_put k v c l, fun k' hk' => hoth k' c hk'⟩
    · have hg := MapKept.run_getObj_map (P := Yba.prog) (w := w.drewN n) hb
      have hfk := findKey_run (w.drewN n) k l
      rw [hf] at hfk
      simp only [Instr.mapUpdate, Sem.run_bind, run_underlying hM, Result.andThen_ok, hg, check60, ents, hfk]
      exact h3 n
    · rw [h2, g2]; simp [ents, En.raw]
  | some p =>
    obtain ⟨m, u⟩ := p
    obtain ⟨g1, g2, g3, g4, g5, g6⟩ := fnd_some k v c l 0 m u hf
    simp only [Nat.sub_zero] at g3 g4 g5 g6
    obtain ⟨w', h0, h1, h2, h3⟩ := setObj_only hb (.map ((ents l).modify m fun e => { e with key := kv k, val := v }) c)
    refine ⟨w', c, put k v c l, fun n => ?_, h1, ?_, keysOf_put k v c l, get_put k v c l, fun k' hk' => hoth k' c hk'⟩
    · have hg := MapKept.run_getObj_map (P := Yba.prog) (w := w.drewN n) hb
      have hfk := findKey_run (w.drewN n) k l
      rw [hf] at hfk
      have hold : (((ents l)[m]?).map (·.key)).getD (kv k) = kv k := by
        have : (ents l)[m]? = (l.map En.raw)[m]? := by simp [ents]
        rw [this, g6]; rfl
      simp only [Instr.mapUpdate, Sem.run_bind, run_underlying hM, Result.andThen_ok, hg, check60]
      have hfk' : (Instr.findKey 60 (kv k) (ents l).toList).run Yba.prog (w.drewN n) = .ok (some (m, u)) (w.drewN n) := by simpa [ents] using hfk
      rw [hfk']
      simp only [Result.andThen_ok, Sem.run_bind, hold, Instr.keyThatStays, sameBits_kv, if_true, Sem.run_pure]
      exact h3 n
    · rw [h2]
      have : ents (put k v c l) = (ents l).modify m (fun e => { e with key := kv k, val := v }) := by
        unfold ents
        rw [g3]
        simp
      rw [this]

/-- delete(m, k) -/
theorem delete_run {w : World} (M e : TypeId) (hM : Yba.prog.underlying M = some (.map 60 e)) {r : Nat} {l : List En} {c : Nat} (hb : w.heap[r]? = some (.map (ents l) c)) (k : K) :
    ∃ w', (∀ T n, (Builtin.delete_ #[M, 60] T #[.map (some r), kv k]).run Yba.prog (w.drewN n) = .ok (.tuple #[]) (w'.drewN n)) ∧ OnlyB r w w' ∧ w'.heap[r]? = some (.map (ents (dele k l)) c) := by
  cases hf : fnd k l 0 with
  | none =>
    obtain ⟨w', h0, h1, h2, h3⟩ := setObj_only hb (.map (ents l) c)
    obtain ⟨g1, g2, g3⟩ := fnd_none k (.bool true) c l 0 hf
    refine ⟨w', fun T n => ?_, h1, by rw [h2, g3]⟩
    have hg := MapKept.run_getObj_map (P := Yba.prog) (w := w.drewN n) hb
    have hfk := findKey_run (w.drewN n) k l
    rw [hf] at hfk
    have hfk' : (Instr.findKey 60 (kv k) (ents l).toList).run Yba.prog (w.drewN n) = .ok none (w.drewN n) := by simpa [ents] using hfk
    simp only [Builtin.delete_, Sem.run_bind, run_underlying hM, Result.andThen_ok, hg, check60, List.getElem?_toArray, List.getElem?_cons_zero, List.getElem?_cons_succ, hfk', h3 n, Sem.run_pure]
  | some p =>
    obtain ⟨m, u⟩ := p
    obtain ⟨g1, g2, g3, g4, g5, g6⟩ := fnd_some k (.bool true) c l 0 m u hf
    simp only [Nat.sub_zero] at g3 g4 g5 g6
    obtain ⟨w', h0, h1, h2, h3⟩ := setObj_only hb (.map ((ents l).eraseIdxIfInBounds m) c)
    refine ⟨w', fun T n => ?_, h1, ?_⟩
    · have hg := MapKept.run_getObj_map (P := Yba.prog) (w := w.drewN n) hb
      have hfk := findKey_run (w.drewN n) k l
      rw [hf] at hfk
      have hfk' : (Instr.findKey 60 (kv k) (ents l).toList).run Yba.prog (w.drewN n) = .ok (some (m, u)) (w.drewN n) := by simpa [ents] using hfk
      simp only [Builtin.delete_, Sem.run_bind, run_underlying hM, Result.andThen_ok, hg, check60, List.getElem?_toArray, List.getElem?_cons_zero, List.getElem?_cons_succ, hfk', h3 n, Sem.run_pure]
    · rw [h2]
      have : ents (dele k l) = (ents l).eraseIdxIfInBounds m := by
        unfold ents
        rw [g4]
        simp [Array.eraseIdxIfInBounds, g5]
      rw [this]

/-- v, ok := m[k]; m[k] -/
theorem lookup_run {w : World} (M e : TypeId) (hM : Yba.prog.underlying M = some (.map 60 e)) (z : Value) (hz : ∀ w, (zeroValue e).run Yba.prog w = .ok z w) {r : Nat} {l : List En} {c : Nat} (hb : w.heap[r]? = some (.map (ents l) c)) (k : K) (ok : Bool) (n : Nat) :
    (Instr.lookup M (.map (some r)) (kv k) ok).run Yba.prog (w.drewN n) = .ok (if ok then .tuple #[(get k l).getD z, .bool (get k l).isSome] else (get k l).getD z) (w.drewN n) := by
  have hg := MapKept.run_getObj_map (P := Yba.prog) (w := w.drewN n) hb
  have hfk := findKey_run (w.drewN n) k l
  have hfk' : (Instr.findKey 60 (kv k) (ents l).toList).run Yba.prog (w.drewN n) = .ok (fnd k l 0) (w.drewN n) := by simpa [ents] using hfk
  simp only [Instr.lookup, Sem.run_bind, run_underlying hM, Result.andThen_ok, hg, check60, hfk', Sem.run_pure]
  cases hf : fnd k l 0 with
  | none =>
    obtain ⟨g1, _, _⟩ := fnd_none k (.bool true) c l 0 hf
    simp only [Sem.run_bind, hz, Result.andThen_ok, Sem.run_pure, g1, Option.getD_none, Option.isSome_none]
  | some p =>
    obtain ⟨m, u⟩ := p
    obtain ⟨_, g2, _⟩ := fnd_some k (.bool true) c l 0 m u hf
    simp only [Sem.run_bind, Sem.run_pure, Result.andThen_ok, g2, Option.getD_some, Option.isSome_some]
end Go.Proofs.Ybulkakzc

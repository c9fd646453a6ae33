/-
  THE PLAIN LAW of seat b1827a's forest: parents that never exceed the child; the root by a walk; a step of path halving keeps every root. No Go in sight.
-/
namespace Go.Proofs.Ybulkakuu.Forest

/-- The root of v, k steps at most. -/
def rootF (f : Nat → Nat) : Nat → Nat → Nat
  | 0, v => v
  | k + 1, v => if f v = v then v else rootF f k (f v)

def root (f : Nat → Nat) (v : Nat) : Nat := rootF f v v

/-- No parent is above its child, below n. -/
def Down (n : Nat) (f : Nat → Nat) : Prop := ∀ i, i < n → f i ≤ i

theorem rootF_fuel {n : Nat} {f : Nat → Nat} (h : Down n f) : ∀ v, v < n → ∀ k, v ≤ k → rootF f k v = rootF f v v := by
  intro v
  induction v using Nat.strongRecOn with
  | _ v ih =>
    intro hv k hk
    have hd := h v hv
    match v, k with
    | 0, 0 => rfl
    | 0, k + 1 =>
      have : f 0 = 0 := by omega
      simp [rootF, this]
    | v + 1, k + 1 =>
      simp only [rootF]
      by_cases e : f (v + 1) = v + 1
      · simp [e]
      · rw [if_neg e, if_neg e, ih (f (v + 1)) (by omega) (by omega) k (by omega), ih (f (v + 1)) (by omega) (by omega) v (by omega)]

theorem root_self {f : Nat → Nat} {v : Nat} (e : f v = v) : root f v = v := by
  unfold root
  cases v with
  | zero => rfl
  | succ v => simp [rootF, e]

theorem root_step {n : Nat} {f : Nat → Nat} (h : Down n f) {v : Nat} (hv : v < n) : root f v = root f (f v) := by
  by_cases e : f v = v
  · rw [e]
  · have hd := h v hv
    cases v with
    | zero => omega
    | succ v =>
      show rootF f (v + 1) (v + 1) = _
      simp only [rootF]
      rw [if_neg e]
      exact rootF_fuel h (f (v + 1)) (by omega) v (by omega)

theorem root_le {n : Nat} {f : Nat → Nat} (h : Down n f) : ∀ v, v < n → root f v ≤ v := by
  intro v
  induction v using Nat.strongRecOn with
  | _ v ih =>
    intro hv
    have hd := h v hv
    by_cases e : f v = v
    · rw [root_self e]; exact Nat.le_refl _
    · rw [root_step h hv]
      have := ih (f v) (by omega) (by omega)
      omega

/-- One step of path halving. -/
def halve (f : Nat → Nat) (v : Nat) : Nat → Nat := fun i => if i = v then f (f v) else f i

theorem halve_down {n : Nat} {f : Nat → Nat} (h : Down n f) {v : Nat} (hv : v < n) : Down n (halve f v) := by
  intro i hi
  unfold halve
  have h1 := h v hv
  have h2 := h (f v) (by omega)
  have h3 := h i hi
  split
  · omega
  · exact h3

theorem halve_root {n : Nat} {f : Nat → Nat} (h : Down n f) {v : Nat} (hv : v < n) : ∀ i, i < n → root (halve f v) i = root f i := by
  intro i
  induction i using Nat.strongRecOn with
  | _ i ih =>
    intro hi
    have hd := halve_down h hv
    have h1 := h i hi
    by_cases e : i = v
    · subst e
      by_cases e1 : f i = i
      · rw [root_self e1, root_self]
        simp [halve, e1]
      · have h2 := h (f i) (by omega)
        rw [root_step hd hi]
        have eq : halve f i i = f (f i) := by simp [halve]
        rw [eq, ih _ (by omega) (by omega), root_step h hi, root_step h (by omega : f i < n)]
    · by_cases e1 : f i = i
      · rw [root_self e1, root_self]
        simp [halve, e, e1]
      · rw [root_step hd hi]
        have eq : halve f v i = f i := by simp [halve, e]
        rw [eq, ih _ (by omega) (by omega), root_step h hi]

end Go.Proofs.Ybulkakuu.Forest

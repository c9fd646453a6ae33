/-
  THE PLAIN LAW of seat b1827a's number sets: a set of numbers as 64-bit words, and what '|', '&^', '>>' do to them. No program in sight.
-/
import Derived.Laws.Bits64
namespace Go.Proofs.Ybulkakuu.Ref

theorem ofInt64 (a : Nat) (ha : a < 18446744073709551616) : (BitVec.ofInt 64 (a : Int)).toNat = a := by
  rw [BitVec.ofInt_natCast, BitVec.toNat_ofNat]; exact Nat.mod_eq_of_lt (by omega)

theorem bits_or_u64 (a b : Nat) (ha : a < 18446744073709551616) (hb : b < 18446744073709551616) : bits .or .u64 (a : Int) (b : Int) = ((a ||| b : Nat) : Int) := by
  have hx : a ||| b < 2 ^ 64 := Nat.or_lt_two_pow (by omega) (by omega)
  show IntKind.u64.wrap ((BitVec.ofInt 64 (a : Int) ||| BitVec.ofInt 64 (b : Int)).toNat : Int) = _
  rw [BitVec.toNat_or, ofInt64 a ha, ofInt64 b hb, IntKind.wrap_u64]
  omega

theorem bits_and_u64 (a b : Nat) (ha : a < 18446744073709551616) (hb : b < 18446744073709551616) : bits .and .u64 (a : Int) (b : Int) = ((a &&& b : Nat) : Int) := by
  have hx : a &&& b < 2 ^ 64 := Nat.and_lt_two_pow _ (by omega)
  show IntKind.u64.wrap ((BitVec.ofInt 64 (a : Int) &&& BitVec.ofInt 64 (b : Int)).toNat : Int) = _
  rw [BitVec.toNat_and, ofInt64 a ha, ofInt64 b hb, IntKind.wrap_u64]
  omega

theorem bits_andNot_u64 (a b : Nat) (ha : a < 18446744073709551616) (hb : b < 18446744073709551616) : bits .andNot .u64 (a : Int) (b : Int) = ((a &&& (18446744073709551615 - b) : Nat) : Int) := by
  have hx : a &&& (18446744073709551615 - b) < 2 ^ 64 := Nat.and_lt_two_pow _ (by omega)
  show IntKind.u64.wrap ((BitVec.ofInt 64 (a : Int) &&& ~~~ BitVec.ofInt 64 (b : Int)).toNat : Int) = _
  rw [BitVec.toNat_and, BitVec.toNat_not, ofInt64 a ha, ofInt64 b hb, IntKind.wrap_u64]
  have e : 2 ^ 64 - 1 - b = 18446744073709551615 - b := by omega
  rw [e]
  omega

theorem and_pow_ne (x k : Nat) : (((x &&& 2 ^ k : Nat) : Int) != 0) = x.testBit k := by
  have hp := Nat.testBit_two_pow (n := k) (m := k)
  cases h : x.testBit k
  · have : x &&& 2 ^ k = 0 := by
      refine Nat.eq_of_testBit_eq fun b => ?_
      rw [Nat.testBit_and, Nat.testBit_two_pow]
      by_cases e : k = b
      · subst e; simp [h]
      · simp [e]
    rw [this]; rfl
  · rw [bne_iff_ne]
    intro h0
    have h1 : x &&& 2 ^ k = 0 := by omega
    have h2 : (x &&& 2 ^ k).testBit k = true := by rw [Nat.testBit_and, h, Nat.testBit_two_pow]; simp
    rw [h1] at h2
    simp at h2

/-- The first n bits of word j of the set S. -/
def wdN (S : Nat → Bool) (j : Nat) : Nat → Nat
  | 0 => 0
  | b + 1 => (if S (64 * j + b) then 2 ^ b else 0) + wdN S j b

/-- Word j of the set S. -/
def wd (S : Nat → Bool) (j : Nat) : Nat := wdN S j 64

theorem wdN_lt (S : Nat → Bool) (j : Nat) : ∀ n, wdN S j n < 2 ^ n
  | 0 => by simp [wdN]
  | n + 1 => by
    have := wdN_lt S j n
    simp only [wdN]
    rw [Nat.pow_succ]
    split <;> omega

theorem wdN_bit (S : Nat → Bool) (j : Nat) : ∀ n b, (wdN S j n).testBit b = (decide (b < n) && S (64 * j + b))
  | 0, b => by simp [wdN]
  | n + 1, b => by
    have hl := wdN_lt S j n
    have ih := wdN_bit S j n b
    simp only [wdN]
    by_cases e : S (64 * j + n) = true
    · rw [if_pos e]
      rcases Nat.lt_trichotomy b n with h | h | h
      · rw [Nat.testBit_two_pow_add_gt h, ih]
        have : b < n + 1 := by omega
        simp [h, this]
      · subst h
        rw [Nat.testBit_two_pow_add_eq, ih]
        simp [e]
      · have h2 : 2 ^ n + wdN S j n < 2 ^ b := by
          have : 2 ^ (n + 1) ≤ 2 ^ b := Nat.pow_le_pow_right (by decide) h
          rw [Nat.pow_succ] at this
          omega
        rw [Nat.testBit_lt_two_pow h2]
        have : ¬ b < n + 1 := by omega
        simp [this]
    · rw [if_neg e, Nat.zero_add, ih]
      by_cases h : b = n
      · subst h
        simp [e]
      · have : (b < n + 1) ↔ (b < n) := by omega
        simp [this]

theorem wd_lt (S : Nat → Bool) (j : Nat) : wd S j < 18446744073709551616 := wdN_lt S j 64
theorem wd_bit (S : Nat → Bool) (j b : Nat) : (wd S j).testBit b = (decide (b < 64) && S (64 * j + b)) := wdN_bit S j 64 b

theorem wd_congr {S T : Nat → Bool} {j : Nat} (h : ∀ b, b < 64 → S (64 * j + b) = T (64 * j + b)) : wd S j = wd T j := by
  refine Nat.eq_of_testBit_eq fun b => ?_
  rw [wd_bit, wd_bit]
  by_cases hb : b < 64
  · rw [h b hb]
  · simp [hb]

/-- Put i into S; take it out. -/
def ins (S : Nat → Bool) (i : Nat) : Nat → Bool := fun x => if x = i then true else S x
def del (S : Nat → Bool) (i : Nat) : Nat → Bool := fun x => if x = i then false else S x

theorem wd_ins_other (S : Nat → Bool) {i j : Nat} (h : j ≠ i / 64) : wd (ins S i) j = wd S j :=
  wd_congr fun b hb => by unfold ins; rw [if_neg (by omega)]
theorem wd_del_other (S : Nat → Bool) {i j : Nat} (h : j ≠ i / 64) : wd (del S i) j = wd S j :=
  wd_congr fun b hb => by unfold del; rw [if_neg (by omega)]

theorem wd_ins (S : Nat → Bool) (i : Nat) : wd (ins S i) (i / 64) = wd S (i / 64) ||| 2 ^ (i % 64) := by
  refine Nat.eq_of_testBit_eq fun b => ?_
  rw [Nat.testBit_or, wd_bit, wd_bit, Nat.testBit_two_pow]
  unfold ins
  by_cases hb : b < 64
  · by_cases e : i % 64 = b
    · have : 64 * (i / 64) + b = i := by omega
      simp [hb, e, this]
    · have : ¬ 64 * (i / 64) + b = i := by omega
      simp [hb, e, this]
  · have : ¬ i % 64 = b := by omega
    simp [hb, this]

theorem wd_del (S : Nat → Bool) (i : Nat) : wd (del S i) (i / 64) = wd S (i / 64) &&& (18446744073709551615 - 2 ^ (i % 64)) := by
  refine Nat.eq_of_testBit_eq fun b => ?_
  have hp : 2 ^ (i % 64) < 2 ^ 64 := Nat.pow_lt_pow_right (by decide) (by omega)
  have e0 : 18446744073709551615 - 2 ^ (i % 64) = 2 ^ 64 - (2 ^ (i % 64) + 1) := by omega
  rw [Nat.testBit_and, wd_bit, wd_bit, e0, Nat.testBit_two_pow_sub_succ hp, Nat.testBit_two_pow]
  unfold del
  by_cases hb : b < 64
  · by_cases e : i % 64 = b
    · have : 64 * (i / 64) + b = i := by omega
      simp [hb, e, this]
    · have : ¬ 64 * (i / 64) + b = i := by omega
      simp [hb, e, this]
  · simp [hb]

theorem pow_lt64 (i : Nat) : 2 ^ (i % 64) < 18446744073709551616 := Nat.pow_lt_pow_right (n := 64) (a := 2) (by decide) (by omega)
theorem wrap_pow (i : Nat) : IntKind.u64.wrap ((2 : Int) ^ (i % 64)) = ((2 ^ (i % 64) : Nat) : Int) := by
  have h := pow_lt64 i
  have e : ((2 : Int) ^ (i % 64)) = ((2 ^ (i % 64) : Nat) : Int) := by simp
  rw [e, IntKind.wrap_u64]
  generalize 2 ^ (i % 64) = q at h
  omega

/-! What the words come to, as the walk writes it -/
theorem or_word (S : Nat → Bool) (i : Nat) : bits .or .u64 ((wd S (i / 64) : Nat) : Int) (IntKind.u64.wrap ((2 : Int) ^ (i % 64))) = ((wd (ins S i) (i / 64) : Nat) : Int) := by
  rw [wrap_pow, bits_or_u64 _ _ (wd_lt _ _) (pow_lt64 i), wd_ins]
theorem andNot_word (S : Nat → Bool) (i : Nat) : bits .andNot .u64 ((wd S (i / 64) : Nat) : Int) (IntKind.u64.wrap ((2 : Int) ^ (i % 64))) = ((wd (del S i) (i / 64) : Nat) : Int) := by
  rw [wrap_pow, bits_andNot_u64 _ _ (wd_lt _ _) (pow_lt64 i), wd_del]
theorem and_word (S : Nat → Bool) (i : Nat) : (bits .and .u64 ((wd S (i / 64) : Nat) : Int) (IntKind.u64.wrap ((2 : Int) ^ (i % 64))) != 0) = S i := by
  rw [wrap_pow, bits_and_u64 _ _ (wd_lt _ _) (pow_lt64 i)]
  have hb : (wd S (i / 64)).testBit (i % 64) = S i := by
    rw [wd_bit]
    have h1 : i % 64 < 64 := by omega
    have h2 : 64 * (i / 64) + i % 64 = i := by omega
    simp [h1, h2]
  rw [and_pow_ne, hb]
theorem shr_word (S : Nat → Bool) (i : Nat) : (bits .and .u64 (((wd S (i / 64) : Nat) : Int) / 2 ^ (i % 64)) 1 == 1) = S i := by
  have e : (((wd S (i / 64) : Nat) : Int) / 2 ^ (i % 64)) = ((wd S (i / 64) / 2 ^ (i % 64) : Nat) : Int) := by simp
  rw [e]
  have hl : wd S (i / 64) / 2 ^ (i % 64) < 18446744073709551616 := Nat.lt_of_le_of_lt (Nat.div_le_self _ _) (wd_lt _ _)
  have hb : (wd S (i / 64)).testBit (i % 64) = S i := by
    rw [wd_bit]
    have h1 : i % 64 < 64 := by omega
    have h2 : 64 * (i / 64) + i % 64 = i := by omega
    simp [h1, h2]
  have h1 : bits .and .u64 ((wd S (i / 64) / 2 ^ (i % 64) : Nat) : Int) 1 = ((wd S (i / 64) / 2 ^ (i % 64) &&& 1 : Nat) : Int) := bits_and_u64 _ 1 hl (by decide)
  rw [h1, ← hb, Nat.testBit_eq_decide_div_mod_eq, Nat.and_one_is_mod]
  rw [Bool.eq_iff_iff]
  simp
  omega

/-- A word is not 0 exactly if the set holds one of its numbers. -/
theorem wd_ne_zero (S : Nat → Bool) (j : Nat) : wd S j ≠ 0 ↔ ∃ b, b < 64 ∧ S (64 * j + b) = true := by
  constructor
  · intro h
    obtain ⟨b, hb⟩ := Nat.exists_testBit_of_ne_zero h
    rw [wd_bit] at hb
    simp at hb
    exact ⟨b, hb.1, hb.2⟩
  · rintro ⟨b, hb, h⟩ e
    have := wd_bit S j b
    rw [e] at this
    simp [hb, h] at this

/-- The level above: which words of the level below are not 0. -/
def up (S : Nat → Bool) : Nat → Bool := fun j => wd S j != 0

theorem up_ins (S : Nat → Bool) (i : Nat) : up (ins S i) = ins (up S) (i / 64) := by
  funext j
  unfold ins up
  by_cases e : j = i / 64
  · subst e
    have := wd_ins S i
    unfold ins at this
    rw [if_pos rfl, this, bne_iff_ne]
    intro h0
    have hb : (wd S (i / 64) ||| 2 ^ (i % 64)).testBit (i % 64) = true := by rw [Nat.testBit_or, Nat.testBit_two_pow]; simp
    rw [h0] at hb
    simp at hb
  · have := wd_ins_other S e
    unfold ins at this
    rw [if_neg e, this]
theorem up_ins_known (S : Nat → Bool) (i : Nat) (h : wd S (i / 64) ≠ 0) : up (ins S i) = up S := by
  rw [up_ins]
  funext j
  unfold ins
  split
  · subst j; unfold up; rw [eq_comm, bne_iff_ne]; exact h
  · rfl
theorem up_del_zero (S : Nat → Bool) (i : Nat) (h : wd (del S i) (i / 64) = 0) : up (del S i) = del (up S) (i / 64) := by
  funext j
  by_cases e : j = i / 64
  · subst e
    unfold up
    rw [h]
    simp [del]
  · have := wd_del_other S e
    unfold up
    rw [this]
    simp [del, e]
theorem up_del_left (S : Nat → Bool) (i : Nat) (h : wd (del S i) (i / 64) ≠ 0) : up (del S i) = up S := by
  funext j
  by_cases e : j = i / 64
  · subst e
    have h2 : wd S (i / 64) ≠ 0 := by
      obtain ⟨b, hb, hs⟩ := (wd_ne_zero _ _).1 h
      refine (wd_ne_zero _ _).2 ⟨b, hb, ?_⟩
      unfold del at hs
      split at hs
      · simp at hs
      · exact hs
    unfold up
    rw [Bool.eq_iff_iff, bne_iff_ne, bne_iff_ne]
    exact ⟨fun _ => h2, fun _ => h⟩
  · unfold up
    rw [wd_del_other S e]

/-! the flags of a byte -/
theorem flag_and (F k : Nat) (hF : F < 256) (hk : k < 8) : (bits .and .u8 (F : Int) ((2 ^ k : Nat) : Int) != 0) = F.testBit k := by
  have hk2 : 2 ^ k < 2 ^ 8 := Nat.pow_lt_pow_right (by decide) hk
  have h1 : (BitVec.ofInt 8 (F : Int)).toNat = F := by rw [BitVec.ofInt_natCast, BitVec.toNat_ofNat]; exact Nat.mod_eq_of_lt (by omega)
  have h2 : (BitVec.ofInt 8 ((2 ^ k : Nat) : Int)).toNat = 2 ^ k := by rw [BitVec.ofInt_natCast, BitVec.toNat_ofNat]; exact Nat.mod_eq_of_lt (by omega)
  have hx : F &&& 2 ^ k < 2 ^ 8 := Nat.and_lt_two_pow _ hk2
  have e : bits .and .u8 (F : Int) ((2 ^ k : Nat) : Int) = ((F &&& 2 ^ k : Nat) : Int) := by
    show IntKind.u8.wrap ((BitVec.ofInt 8 (F : Int) &&& BitVec.ofInt 8 ((2 ^ k : Nat) : Int)).toNat : Int) = _
    rw [BitVec.toNat_and, h1, h2]
    simp [IntKind.wrap, IntKind.bits, IntKind.signed]
    omega
  rw [e, and_pow_ne]
end Go.Proofs.Ybulkakuu.Ref

/-
  Bits of 64-bit words: plain.
-/
import Derived.Laws.BitsAllLaws
import Derived.Test.Qxb6000752aOpen
namespace Go.Proofs.Qxb6000752a

/-- A word: a number of 64 bits. -/
def Word (x : Int) : Prop := 0 ≤ x ∧ x < 18446744073709551616
theorem word_nat {x : Int} (h : Word x) : ∃ a : Nat, x = (a : Int) ∧ a < 18446744073709551616 := by
  obtain ⟨h0, h1⟩ := h
  exact ⟨x.toNat, by omega, by omega⟩
theorem word_of (a : Nat) (h : a < 18446744073709551616) : Word (a : Int) := by unfold Word; omega
theorem word_zero : Word 0 := by unfold Word; omega

theorem pow_lt (d : Nat) : 2 ^ (d % 64) < 18446744073709551616 := by
  have h : d % 64 < 64 := Nat.mod_lt _ (by decide)
  have : 2 ^ (d % 64) < 2 ^ 64 := Nat.pow_lt_pow_right (by decide) h
  simpa using this
theorem bitOf_nat (d : Nat) : bitOf d = ((2 ^ (d % 64) : Nat) : Int) := by
  unfold bitOf
  have h := pow_lt d
  rw [IntKind.wrap_u64]
  have e : ((2 : Int) ^ (d % 64)) = ((2 ^ (d % 64) : Nat) : Int) := by simp
  rw [e]
  generalize 2 ^ (d % 64) = p at h ⊢
  omega
theorem not_bit (b i : Nat) (hb : b < 18446744073709551616) : (18446744073709551615 - b).testBit i = (decide (i < 64) && !b.testBit i) := by
  have := Nat.testBit_two_pow_sub_succ (n := 64) (x := b) (by simpa using hb) i
  rw [← this]
  have e : 18446744073709551615 - b = 2 ^ 64 - (b + 1) := by
    have h2 : (2 : Nat) ^ 64 = 18446744073709551616 := by decide
    rw [h2]; omega
  rw [e]
theorem andNot_nat (a b : Nat) (ha : a < 18446744073709551616) (hb : b < 18446744073709551616) : bits .andNot .u64 (a : Int) (b : Int) = ((a &&& (18446744073709551615 - b) : Nat) : Int) := u64_andNot_nat a b ha hb
theorem and_lt (a b : Nat) (ha : a < 18446744073709551616) : a &&& b < 18446744073709551616 := Nat.lt_of_le_of_lt Nat.and_le_left ha
theorem or_lt (a b : Nat) (ha : a < 18446744073709551616) (hb : b < 18446744073709551616) : a ||| b < 18446744073709551616 := by
  have : a ||| b < 2 ^ 64 := Nat.or_lt_two_pow (by simpa using ha) (by simpa using hb)
  simpa using this
theorem big_bit (a i : Nat) (ha : a < 18446744073709551616) (hi : 64 ≤ i) : a.testBit i = false :=
  Nat.testBit_lt_two_pow (Nat.lt_of_lt_of_le ha (by have : 2 ^ 64 ≤ 2 ^ i := Nat.pow_le_pow_right (by decide) hi; simpa using this))

/-- The bit d of a word. -/
def tb (x : Int) (j : Nat) : Bool := x.toNat.testBit j

theorem setb_spec (x : Int) (d : Nat) (o : Bool) (hx : Word x) : Word (setb x (bitOf d) o) ∧ ∀ i, tb (setb x (bitOf d) o) i = if i = d % 64 then o else tb x i := by
  obtain ⟨a, rfl, ha⟩ := word_nat hx
  have hp := pow_lt d
  have h64 : d % 64 < 64 := Nat.mod_lt _ (by decide)
  have hA := and_lt a (18446744073709551615 - 2 ^ (d % 64)) ha
  unfold setb
  rw [bitOf_nat, andNot_nat a _ ha hp]
  cases o
  · simp only [Bool.false_eq_true, if_false]
    refine ⟨word_of _ hA, fun i => ?_⟩
    simp only [tb, Int.toNat_natCast, Nat.testBit_and, not_bit _ _ hp, Nat.testBit_two_pow]
    by_cases e : i = d % 64
    · subst e; simp
    · by_cases hi : i < 64
      · simp [e, hi, Ne.symm e]
      · rw [big_bit a i ha (by omega)]; simp [e]
  · simp only [if_true]
    rw [u64_or_nat _ _ hA hp]
    refine ⟨word_of _ (or_lt _ _ hA hp), fun i => ?_⟩
    simp only [tb, Int.toNat_natCast, Nat.testBit_or, Nat.testBit_and, not_bit _ _ hp, Nat.testBit_two_pow]
    by_cases e : i = d % 64
    · subst e; simp
    · by_cases hi : i < 64
      · simp [e, hi, Ne.symm e]
      · rw [big_bit a i ha (by omega)]; simp [e, Ne.symm e]

theorem get_bit (x : Int) (j : Nat) (hx : Word x) : (bits .and .u64 (x / 2 ^ j) 1 == 1) = tb x j := by
  obtain ⟨a, rfl, ha⟩ := word_nat hx
  have e : ((a : Int) / 2 ^ j) = ((a / 2 ^ j : Nat) : Int) := by simp
  have hd : a / 2 ^ j < 18446744073709551616 := Nat.lt_of_le_of_lt (Nat.div_le_self _ _) ha
  have h1 : bits .and .u64 ((a / 2 ^ j : Nat) : Int) ((1 : Nat) : Int) = ((a / 2 ^ j &&& 1 : Nat) : Int) := u64_and_nat _ 1 hd (by decide)
  rw [e]
  have h2 : (1 : Int) = ((1 : Nat) : Int) := rfl
  rw [h2, h1, nat_mask1]
  simp only [tb, Int.toNat_natCast, Nat.testBit_eq_decide_div_mod_eq]
  rw [Bool.eq_iff_iff]
  simp
  omega

/-- Only the bit that was set may have turned. -/
theorem only_bit (x : Int) (d : Nat) (o : Bool) (hx : Word x) : bits .andNot .u64 (bits .xor .u64 (setb x (bitOf d) o) x) (bitOf d) = 0 := by
  obtain ⟨hw, hb⟩ := setb_spec x d o hx
  obtain ⟨y, hy⟩ : ∃ y, y = setb x (bitOf d) o := ⟨_, rfl⟩
  rw [← hy] at hw hb ⊢
  obtain ⟨a, rfl, ha⟩ := word_nat hx
  obtain ⟨c, rfl, hc⟩ := word_nat hw
  have hp := pow_lt d
  have hX : c ^^^ a < 18446744073709551616 := by
    have : c ^^^ a < 2 ^ 64 := Nat.xor_lt_two_pow (by simpa using hc) (by simpa using ha)
    simpa using this
  rw [u64_xor_nat c a hc ha, bitOf_nat, andNot_nat _ _ hX hp]
  have : (c ^^^ a) &&& (18446744073709551615 - 2 ^ (d % 64)) = 0 := by
    apply Nat.eq_of_testBit_eq
    intro i
    have hbi := hb i
    simp only [tb, Int.toNat_natCast] at hbi
    rw [Nat.testBit_and, Nat.testBit_xor, not_bit _ _ hp, Nat.testBit_two_pow, hbi]
    by_cases e : i = d % 64
    · subst e; simp
    · simp [e]
  rw [this]; rfl
theorem same_word (x : Int) (hx : Word x) (m : Int) (hm : Word m) : bits .andNot .u64 (bits .xor .u64 x x) m = 0 := by
  obtain ⟨a, rfl, ha⟩ := word_nat hx
  obtain ⟨b, rfl, hb⟩ := word_nat hm
  rw [u64_xor_nat a a ha ha, Nat.xor_self]
  have := andNot_nat 0 b (by decide) hb
  rw [Nat.zero_and] at this
  exact this
theorem word_bit (d : Nat) : Word (bitOf d) := by rw [bitOf_nat]; exact word_of _ (pow_lt d)

end Go.Proofs.Qxb6000752a

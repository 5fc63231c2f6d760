/-
Bits of 64-bit numbers as the walk writes them, as plain numbers.
-/
import Derived.Test.YtpkhmjfbldoegaaFw
import Derived.Laws.Bits64
namespace Go.Proofs.Ytpkhmjfbldoegaa.Fl
open Go

theorem ofInt_nat {a : Nat} (ha : a < 2 * G) : (BitVec.ofInt 64 (a : Int)).toNat = a := by
  rw [BitVec.ofInt_natCast, BitVec.toNat_ofNat]; exact Nat.mod_eq_of_lt (by rw [← two_G]; exact ha)

theorem wrap_nat {a : Nat} (ha : a < 2 * G) : IntKind.u64.wrap (a : Int) = a := by
  rw [IntKind.wrap_u64]
  have : (2 * G : Nat) = 18446744073709551616 := by decide
  omega

theorem and_u64 {a b : Nat} (ha : a < 2 * G) (hb : b < 2 * G) : bits .and .u64 (a : Int) (b : Int) = ((a &&& b : Nat) : Int) := by
  show IntKind.u64.wrap ((BitVec.ofInt 64 (a : Int) &&& BitVec.ofInt 64 (b : Int)).toNat : Int) = _
  rw [BitVec.toNat_and, ofInt_nat ha, ofInt_nat hb]
  exact wrap_nat (Nat.lt_of_le_of_lt Nat.and_le_left ha)

theorem or_u64 {a b : Nat} (ha : a < 2 * G) (hb : b < 2 * G) : bits .or .u64 (a : Int) (b : Int) = ((a ||| b : Nat) : Int) := by
  show IntKind.u64.wrap ((BitVec.ofInt 64 (a : Int) ||| BitVec.ofInt 64 (b : Int)).toNat : Int) = _
  rw [BitVec.toNat_or, ofInt_nat ha, ofInt_nat hb]
  exact wrap_nat (by rw [two_G] at *; exact Nat.or_lt_two_pow ha hb)

theorem G_pow : G = 2 ^ 63 := by decide

theorem and_G (a : Nat) (ha : a < 2 * G) : a &&& G = if G ≤ a then G else 0 := by
  rw [G_pow] at *
  apply Nat.eq_of_testBit_eq
  intro i
  rw [Nat.testBit_and, Nat.testBit_two_pow]
  by_cases hi : i = 63
  · subst hi
    by_cases h : 2 ^ 63 ≤ a
    · rw [if_pos h]
      obtain ⟨k, rfl⟩ := Nat.exists_eq_add_of_le h
      rw [Nat.testBit_two_pow_add_eq, Nat.testBit_lt_two_pow (by omega), Nat.testBit_two_pow]; rfl
    · rw [if_neg h, Nat.testBit_lt_two_pow (by omega)]; simp
  · have h63 : ¬ 63 = i := fun h => hi h.symm
    rw [decide_eq_false h63, Bool.and_false]
    split
    · rw [Nat.testBit_two_pow, decide_eq_false h63]
    · simp

/-- Clearing low bits. -/
theorem andNot_low (a k : Nat) (ha : a < 2 * G) (hk : k ≤ 63) : bits .andNot .u64 (a : Int) (((2 ^ k - 1 : Nat)) : Int) = ((a / 2 ^ k * 2 ^ k : Nat) : Int) := by
  have hp : 2 ^ k ≤ 2 ^ 63 := Nat.pow_le_pow_right (by omega) hk
  have hb : 2 ^ k - 1 < 2 * G := by rw [G_pow]; omega
  show IntKind.u64.wrap ((BitVec.ofInt 64 (a : Int) &&& ~~~ BitVec.ofInt 64 ((2 ^ k - 1 : Nat) : Int)).toNat : Int) = _
  have key : (BitVec.ofInt 64 (a : Int) &&& ~~~ BitVec.ofInt 64 ((2 ^ k - 1 : Nat) : Int)).toNat = a / 2 ^ k * 2 ^ k := by
    apply Nat.eq_of_testBit_eq
    intro i
    rw [BitVec.testBit_toNat, BitVec.getLsbD_and, BitVec.getLsbD_not, ← BitVec.testBit_toNat, ← BitVec.testBit_toNat, ofInt_nat ha, ofInt_nat hb, Nat.testBit_two_pow_sub_one, Nat.mul_comm, Nat.testBit_two_pow_mul, Nat.testBit_div_two_pow]
    by_cases h64 : i < 64
    · by_cases hik : i < k
      · have h3 : decide (i ≥ k) = false := by simp; omega
        simp only [h3, hik, decide_true, Bool.not_true, Bool.and_false, Bool.false_and]
      · have h2 : i - k + k = i := by omega
        simp [h64, hik, h2]; omega
    · have : a < 2 ^ i := Nat.lt_of_lt_of_le (by rw [two_G] at ha; exact ha) (Nat.pow_le_pow_right (by omega) (by omega))
      have h2 : i - k + k = i := by omega
      simp [h64, Nat.testBit_lt_two_pow this, h2]
  rw [key]
  exact wrap_nat (Nat.lt_of_le_of_lt (Nat.div_mul_le_self _ _) ha)

/-- Clearing the sign. -/
theorem andNot_sign (a : Nat) (ha : a < 2 * G) : bits .andNot .u64 (a : Int) 9223372036854775808 = ((a % G : Nat) : Int) := by
  have hb : (9223372036854775808 : Int) = ((G : Nat) : Int) := by decide
  have hG : G < 2 * G := by decide
  rw [hb]
  show IntKind.u64.wrap ((BitVec.ofInt 64 (a : Int) &&& ~~~ BitVec.ofInt 64 (G : Int)).toNat : Int) = _
  have key : (BitVec.ofInt 64 (a : Int) &&& ~~~ BitVec.ofInt 64 (G : Int)).toNat = a % G := by
    apply Nat.eq_of_testBit_eq
    intro i
    rw [BitVec.testBit_toNat, BitVec.getLsbD_and, BitVec.getLsbD_not, ← BitVec.testBit_toNat, ← BitVec.testBit_toNat, ofInt_nat ha, ofInt_nat hG, G_pow, Nat.testBit_two_pow, Nat.testBit_mod_two_pow]
    rw [two_G] at ha
    by_cases h64 : i < 64
    · by_cases hi : i = 63
      · subst hi; simp
      · have h63 : ¬ 63 = i := fun h => hi h.symm
        have h3 : i < 63 := by omega
        simp [h64, h63, h3]
    · have : a < 2 ^ i := Nat.lt_of_lt_of_le ha (Nat.pow_le_pow_right (by omega) (by omega))
      simp [h64, Nat.testBit_lt_two_pow this]
  rw [key]
  exact wrap_nat (Nat.lt_of_le_of_lt (Nat.mod_le _ _) ha)

/-- The size of a word. -/
def mg (x : Nat) : Nat := x % G
theorem mg_lt (x : Nat) : mg x < G := Nat.mod_lt _ (by decide)
theorem mg_W (s : Bool) {r : Nat} (h : r < G) : mg (W s r) = r := by
  unfold mg W; cases s
  · exact Nat.mod_eq_of_lt h
  · show (G + r) % G = r
    rw [Nat.add_mod_left]; exact Nat.mod_eq_of_lt h

/-- The sign of a word. -/
def sgB (x : Nat) : Bool := decide (G ≤ x)

/-- The size of one word with the sign of another. -/
theorem copy_bits (x y : Nat) (hx : x < 2 * G) (hy : y < 2 * G) :
    bits .or .u64 (bits .andNot .u64 (x : Int) 9223372036854775808) (bits .and .u64 (y : Int) 9223372036854775808) = ((W (sgB y) (x % G) : Nat) : Int) := by
  have hb : (9223372036854775808 : Int) = ((G : Nat) : Int) := by decide
  have hG : G < 2 * G := by decide
  have hxg : x % G < G := Nat.mod_lt _ (by decide)
  rw [andNot_sign x hx, hb, and_u64 hy hG, and_G y hy, or_u64 (by omega) (by split <;> omega)]
  congr 1
  unfold sgB W
  by_cases h : G ≤ y
  · simp only [h, if_true, decide_true]
    rw [Nat.or_comm]
    rw [G_pow] at *
    exact (Nat.two_pow_add_eq_or_of_lt hxg 1).symm ▸ by simp
  · simp [h]

/-- 1 or 0 with the sign of a float. -/
def infOne (x : Nat) : Nat := W (sgB x) (if infB x then 4607182418800017408 else 0)

end Go.Proofs.Ytpkhmjfbldoegaa.Fl

/-
The whole part and the fraction of a float, as rungs.
-/
import Derived.Test.YtpkhmjfbldoegaaFb
namespace Go.Proofs.Ytpkhmjfbldoegaa.Fl
open Ieee

/-- The rung of 1. -/
def one : Nat := 4607182418800017408
theorem one_eq : one = 1023 * B := by decide
theorem one_lt : one < I := by decide
/-- 1 in units of the least number. -/
@[irreducible] def U : Nat := 2 ^ 1074
theorem U_pow {k : Nat} (h : k = 1074) : U = 2 ^ k := by unfold U; rw [h]
theorem U_pos : 0 < U := by
  obtain ⟨k, hk⟩ : ∃ k, k = 1074 := ⟨_, rfl⟩
  rw [U_pow hk]; exact Nat.two_pow_pos k
theorem U_split {a b : Nat} (h : a + b = 1074) : U = 2 ^ a * 2 ^ b := by
  rw [U_pow h, Nat.pow_add]
theorem val_one : val one = U := by
  have h : one = 1022 * B + B := by decide
  rw [h, val_of (by have := B_pos; omega) (Or.inr (Nat.le_refl _)), U_split (a := 52) (b := 1022) rfl, ← B_pow]

/-- The rung of the whole part. -/
def ti (r : Nat) : Nat := if r < one then 0 else if r < 1075 * B then r / 2 ^ (1075 - r / B) * 2 ^ (1075 - r / B) else r
/-- The rung of the fraction. -/
def fr (r : Nat) : Nat := nr (val r - val (ti r)) (-1074)
/-- The rung of the next whole number in size. -/
def up (r : Nat) : Nat := if fr r = 0 then ti r else nr (val (ti r) + U) (-1074)

theorem ti_le (r : Nat) : ti r ≤ r := by
  unfold ti
  split
  · omega
  · split
    · exact Nat.div_mul_le_self _ _
    · exact Nat.le_refl _

/-- A number of so many digits has a rung. -/
theorem rung_of (s : Nat) : ∀ m, m < 2 * B → ∃ t, val t = m * 2 ^ s := by
  induction s with
  | zero => intro m hm; exact ⟨m, by rw [val_of_lt hm]; simp⟩
  | succ s ih =>
    intro m hm
    by_cases h : B ≤ m
    · exact ⟨_, val_of hm (Or.inr h)⟩
    · obtain ⟨t, ht⟩ := ih (2 * m) (by omega)
      exact ⟨t, by rw [ht, Nat.pow_succ, Nat.mul_comm 2 m, Nat.mul_assoc, Nat.mul_comm 2]⟩

theorem parts_mid {r : Nat} (h1 : one ≤ r) (h2 : r < 1075 * B) : ∃ k, 1075 - r / B = k ∧ 1 ≤ k ∧ k ≤ 52 ∧ sh r + k = 1074 ∧ mant r = B + r % B ∧ r = r / B * B + r % B := by
  have hB := B_pos
  have hq1 : 1023 ≤ r / B := (Nat.le_div_iff_mul_le hB).2 (by rw [one_eq] at h1; exact h1)
  have hq2 : r / B < 1075 := (Nat.div_lt_iff_lt_mul hB).2 h2
  refine ⟨_, rfl, by omega, by omega, ?_, ?_, ?_⟩
  · unfold sh; omega
  · unfold mant; rw [if_neg]
    rw [one_eq] at h1; omega
  · have := Nat.div_add_mod r B; rw [Nat.mul_comm] at this; exact this.symm

theorem val_big {r : Nat} (hs : 1074 ≤ sh r) : val r = mant r * 2 ^ (sh r - 1074) * U := by
  obtain ⟨j, hj⟩ := Nat.exists_eq_add_of_le hs
  obtain ⟨k, hk⟩ : ∃ k, k = 1074 := ⟨_, rfl⟩
  rw [← hk] at hj ⊢
  unfold val
  rw [U_pow hk, hj, Nat.add_sub_cancel_left, Nat.mul_assoc, ← Nat.pow_add, Nat.add_comm j]

theorem val_1075 : val (1075 * B) = B * U := by
  obtain ⟨k, hk⟩ : ∃ k, k = 1074 := ⟨_, rfl⟩
  rw [U_pow hk, show 1075 * B = k * B + B by rw [← Nat.succ_mul, hk], val_of (by have := B_pos; omega) (Or.inr (Nat.le_refl _))]

theorem val_ti (r : Nat) : val (ti r) = val r / U * U := by
  have hB := B_pos
  unfold ti
  split
  · rename_i h
    have : val r < U := by rw [← val_one]; exact val_lt h
    rw [Nat.div_eq_of_lt this, val_zero]; simp
  · rename_i h1
    split
    · rename_i h2
      obtain ⟨k, hk, k1, k2, hs, hm, hr⟩ := parts_mid (by omega) h2
      rw [hk]
      have hp : 0 < 2 ^ k := Nat.two_pow_pos k
      have hsp : 0 < 2 ^ sh r := Nat.two_pow_pos _
      have hU : U = 2 ^ k * 2 ^ sh r := U_split (by omega)
      have hBk : B = 2 ^ (52 - k) * 2 ^ k := by rw [B_pow, ← Nat.pow_add]; congr 1; omega
      -- what is cut leaves the binade as it was
      have hdm := Nat.div_add_mod (r % B) (2 ^ k)
      have hml := Nat.mod_lt (r % B) hp
      have hlt := Nat.mod_lt r hB
      have hcut : r / 2 ^ k * 2 ^ k = sh r * B + (B + r % B / 2 ^ k * 2 ^ k) := by
        have e1 : r = r % B + r / B * 2 ^ (52 - k) * 2 ^ k := by
          rw [Nat.mul_assoc, ← hBk]; omega
        have e2 : r / 2 ^ k = r % B / 2 ^ k + r / B * 2 ^ (52 - k) := by
          conv => lhs; rw [e1]
          rw [Nat.add_mul_div_right _ _ hp]
        have e3 : (sh r + 1) = r / B := by unfold sh; have : 1 ≤ r / B := (Nat.le_div_iff_mul_le hB).2 (by rw [one_eq] at h1; omega); omega
        rw [e2, Nat.add_mul, Nat.mul_assoc, ← hBk, ← e3, Nat.succ_mul]; omega
      rw [hcut, val_of (by have := Nat.div_mul_le_self (r % B) (2 ^ k); omega) (Or.inr (by omega))]
      have hv : val r = mant r * 2 ^ sh r := rfl
      have hq : val r / U = mant r / 2 ^ k := by
        rw [hv, hU, Nat.mul_div_mul_right _ _ hsp]
      rw [hq, hU, hm, ← Nat.mul_assoc]
      congr 1
      have e4 : B + r % B = r % B + 2 ^ (52 - k) * 2 ^ k := by rw [← hBk]; omega
      rw [e4, Nat.add_mul_div_right _ _ hp, Nat.add_mul, ← hBk]; omega
    · rename_i h2
      -- a whole number already
      have hq : 1075 ≤ r / B := (Nat.le_div_iff_mul_le hB).2 (by omega)
      have hs : 1074 ≤ sh r := by unfold sh; omega
      have hv : val r = mant r * 2 ^ (sh r - 1074) * U := by
        exact val_big hs
      rw [hv, Nat.mul_div_cancel _ U_pos]

theorem fr_exists (r : Nat) : ∃ t, val t = val r % U ∧ t ≤ r := by
  have hB := B_pos
  have key : ∃ t, val t = val r % U := by
    have hv : val r = mant r * 2 ^ sh r := rfl
    by_cases hs : sh r < 1074
    · -- what is left has the places of the number
      have hU : U = 2 ^ (1074 - sh r) * 2 ^ sh r := U_split (by omega)
      rw [hv, hU, Nat.mul_mod_mul_right]
      exact rung_of _ _ (Nat.lt_of_le_of_lt (Nat.mod_le _ _) (mant_lt r))
    · have h : val r = mant r * 2 ^ (sh r - 1074) * U := by
        exact val_big (by omega)
      exact ⟨0, by rw [h, Nat.mul_mod_left, val_zero]⟩
  obtain ⟨t, ht⟩ := key
  exact ⟨t, ht, val_le_iff.1 (by rw [ht]; exact Nat.mod_le _ _)⟩

theorem sub_ti (r : Nat) : val r - val (ti r) = val r % U := by
  rw [val_ti]
  have := Nat.div_add_mod (val r) U
  rw [Nat.mul_comm] at this
  omega

theorem val_fr {r : Nat} (h : r ≤ I) : val (fr r) = val r % U := by
  obtain ⟨t, ht, hle⟩ := fr_exists r
  unfold fr
  rw [sub_ti, ← ht, nr_val0 (by omega)]

theorem fr_le {r : Nat} (h : r ≤ I) : fr r ≤ r := val_le_iff.1 (by rw [val_fr h]; exact Nat.mod_le _ _)

theorem fr_eq_zero {r : Nat} (h : r ≤ I) : fr r = 0 ↔ val r % U = 0 := by
  rw [← val_eq_zero, val_fr h]

/-- A number with a fraction is less than 2 to the power of 52. -/
theorem lt_of_fr {r : Nat} (hf : fr r ≠ 0) : val r < B * U := by
  by_cases h2 : r < 1075 * B
  · rw [← val_1075]; exact val_lt h2
  · exfalso
    apply hf
    have h3 : ti r = r := by
      unfold ti
      have : ¬ r < one := by
        rw [one_eq]; have := B_pos; omega
      rw [if_neg this, if_neg h2]
    unfold fr
    rw [h3, Nat.sub_self, nr_zero]

theorem up_spec {r : Nat} (h : r < I) : up r < I ∧ val (up r) = if val r % U = 0 then val r else (val r / U + 1) * U := by
  unfold up
  have hfz := fr_eq_zero (r := r) (by omega)
  by_cases hf : fr r = 0
  · rw [if_pos hf, if_pos (hfz.1 hf)]
    refine ⟨Nat.lt_of_le_of_lt (ti_le r) h, ?_⟩
    rw [val_ti]
    have := Nat.div_add_mod (val r) U
    rw [Nat.mul_comm, hfz.1 hf] at this
    omega
  · rw [if_neg hf, if_neg (fun h => hf (hfz.2 h))]
    have hl := lt_of_fr (r := r) hf
    have hq : val r / U < B := (Nat.div_lt_iff_lt_mul U_pos).2 hl
    have e : val (ti r) + U = (val r / U + 1) * U := by rw [val_ti, Nat.succ_mul]
    obtain ⟨k, hk⟩ : ∃ k, k = 1074 := ⟨_, rfl⟩
    obtain ⟨t, ht'⟩ := rung_of k (val r / U + 1) (by have := B_pos; omega)
    rw [← U_pow hk] at ht'
    have hlt : t < I := by
      apply val_lt_iff.1
      rw [ht']
      have h1 : (val r / U + 1) * U ≤ B * U := Nat.mul_le_mul_right _ hq
      have h2 : val (1075 * B) < val I := val_lt (by decide)
      rw [val_1075] at h2
      exact Nat.lt_of_le_of_lt h1 h2
    rw [e, ← ht', nr_val0 (by omega)]
    exact ⟨hlt, rfl⟩

end Go.Proofs.Ytpkhmjfbldoegaa.Fl

/-
The reference's whole parts: what they are in numbers.
-/
import Derived.Test.YtpkhmjfbldoegaaNv
import Derived.Test.YtpkhmjfbldoegaaFd
namespace Go.Proofs.Ytpkhmjfbldoegaa
open Go.RowKit Fl

theorem szM_W (s : Bool) {r : Nat} (h : r < G) : szM (W s r) = mant r := by
  unfold szM mant
  rw [ex_W s h, fx_W s]
  by_cases hB : r < B
  · rw [if_pos (Nat.div_eq_of_lt hB), if_pos hB, Nat.mod_eq_of_lt hB]
  · have : r / B ≠ 0 := by
      have := (Nat.le_div_iff_mul_le B_pos (x := 1) (y := r)).2 (by omega)
      omega
    rw [if_neg this, if_neg hB]
theorem szE_W (s : Bool) {r : Nat} (h : r < G) : szE (W s r) = (sh r : Int) - 1074 := by
  unfold szE sh
  rw [ex_W s h]
  generalize r / B = q
  by_cases h0 : q = 0
  · rw [if_pos h0, h0]; decide
  · rw [if_neg h0]; omega

theorem cut_val {r k : Nat} (hk : sh r + k = 1074) : val r / U = mant r / 2 ^ k ∧ val r % U = mant r % 2 ^ k * 2 ^ sh r := by
  have hU : U = 2 ^ k * 2 ^ sh r := U_split (by omega)
  have hp : 0 < 2 ^ sh r := Nat.two_pow_pos _
  rw [hU]
  unfold val
  exact ⟨Nat.mul_div_mul_right _ _ hp, Nat.mul_mod_mul_right _ _ _⟩

/-- There is a fraction. -/
@[irreducible] def hf (r : Nat) : Bool := decide (fr r ≠ 0)
theorem hf_true {r : Nat} : hf r = true ↔ fr r ≠ 0 := by unfold hf; exact decide_eq_true_iff
theorem hf_false {r : Nat} : hf r = false ↔ fr r = 0 := by
  unfold hf
  rw [decide_eq_false_iff_not]
  exact Classical.not_not

theorem big_ti {r : Nat} (h : r < I) (hs : 1074 ≤ sh r) : ti r = r ∧ hf r = false := by
  have e := val_big hs
  have e1 : val r / U * U = val r := by rw [e, Nat.mul_div_cancel _ U_pos]
  have e2 : val r % U = 0 := by rw [e, Nat.mul_mod_left]
  exact ⟨val_inj (by rw [val_ti, e1]), hf_false.2 ((fr_eq_zero (by omega)).2 e2)⟩

theorem mant_53 (r : Nat) : mant r < 2 ^ 53 := mant_lt r

theorem ti_parts {r k : Nat} (hk : sh r + k = 1074) : val (ti r) = mant r / 2 ^ k * 2 ^ (1074 - 0) := by
  rw [val_ti, (cut_val hk).1, U_pow (k := 1074 - 0) rfl]
theorem fr_parts {r k : Nat} (h : r < I) (hk : sh r + k = 1074) : val (fr r) = mant r % 2 ^ k * 2 ^ (1074 - k) := by
  rw [val_fr (by omega), (cut_val hk).2]
  have : 1074 - k = sh r := by omega
  rw [this]
theorem hf_parts {r k : Nat} (h : r < I) (hk : sh r + k = 1074) : (((mant r % 2 ^ k : Nat) : Int) != 0) = hf r := by
  have e := (cut_val hk).2
  by_cases h0 : mant r % 2 ^ k = 0
  · rw [h0] at e
    rw [hf_false.2 ((fr_eq_zero (by omega)).2 (by rw [e, Nat.zero_mul])), h0]; rfl
  · have h1 : fr r ≠ 0 := by
      intro hc
      have h2 := (fr_eq_zero (by omega)).1 hc
      rw [e] at h2
      have hp : 0 < 2 ^ sh r := Nat.two_pow_pos _
      rcases Nat.mul_eq_zero.1 h2 with h3 | h3
      · exact h0 h3
      · omega
    rw [hf_true.2 h1]
    simp only [bne_iff_ne, ne_eq]; omega
theorem up_parts {r k : Nat} (h : r < I) (hk : sh r + k = 1074) (hh : hf r = true) : val (up r) = (mant r / 2 ^ k + 1) * 2 ^ (1074 - 0) := by
  have h1 : val r % U ≠ 0 := fun hc => (hf_true.1 hh) ((fr_eq_zero (by omega)).2 hc)
  rw [(up_spec h).2, if_neg h1, (cut_val hk).1, U_pow (k := 1074 - 0) rfl]

theorem ti_lt {r : Nat} (h : r < I) : ti r < I := Nat.lt_of_le_of_lt (ti_le r) h
theorem fr_lt {r : Nat} (h : r < I) : fr r < I := Nat.lt_of_le_of_lt (fr_le (by omega)) h
theorem n_small {m k : Nat} (hm : m < 2 ^ 53) (hk : 0 < k) : m / 2 ^ k + 1 < 2 ^ 53 := by
  have h1 : (2 : Nat) ^ 1 ≤ 2 ^ k := Nat.pow_le_pow_right (by decide) hk
  have h2 : m / 2 ^ k ≤ m / 2 := Nat.div_le_div_left h1 (by decide)
  have h3 : (2 : Nat) ^ 53 = 9007199254740992 := by decide
  rw [h3] at *
  omega

end Go.Proofs.Ytpkhmjfbldoegaa

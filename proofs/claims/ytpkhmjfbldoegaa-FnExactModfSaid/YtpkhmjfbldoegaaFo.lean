/-
Order and whole parts as whole numbers.
-/
import Derived.Test.YtpkhmjfbldoegaaFd
namespace Go.Proofs.Ytpkhmjfbldoegaa
open Go.RowKit Fl

theorem order_le {s t : Bool} {r u : Nat} (hr : r ≤ I) (hu : u ≤ I) : Ieee.double.order (W s r) (W t u) = some (compare (sv s r) (sv t u)) := by
  rcases Nat.lt_or_ge r I with h1 | h1
  · rcases Nat.lt_or_ge u I with h2 | h2
    · exact order_fin h1 h2
    · obtain rfl : u = I := by omega
      have hv := val_lt h1
      unfold Ieee.Format.order
      rw [read_fin h1, read_inf]
      simp only [Ieee.Datum.order]
      congr 1
      cases t
      · symm; apply Int.compare_eq_lt.2; unfold sv; cases s <;> simp <;> omega
      · symm; apply Int.compare_eq_gt.2; unfold sv; cases s <;> simp <;> omega
  · obtain rfl : r = I := by omega
    rcases Nat.lt_or_ge u I with h2 | h2
    · have hv := val_lt h2
      unfold Ieee.Format.order
      rw [read_fin h2, read_inf]
      simp only [Ieee.Datum.order]
      congr 1
      cases s
      · symm; apply Int.compare_eq_gt.2; unfold sv; cases t <;> simp <;> omega
      · symm; apply Int.compare_eq_lt.2; unfold sv; cases t <;> simp <;> omega
    · obtain rfl : u = I := by omega
      have hv : 0 < val I := by rw [← val_zero]; exact val_lt (by decide)
      unfold Ieee.Format.order
      rw [read_inf, read_inf]
      simp only [Ieee.Datum.order]
      congr 1
      cases s <;> cases t
      · symm; rw [Int.compare_eq_eq.2 rfl]; rfl
      · symm; rw [Int.compare_eq_gt.2 (by unfold sv; simp; omega)]; rfl
      · symm; rw [Int.compare_eq_lt.2 (by unfold sv; simp; omega)]; rfl
      · symm; rw [Int.compare_eq_eq.2 rfl]; rfl

theorem lt_le {s t : Bool} {r u : Nat} (hr : r ≤ I) (hu : u ≤ I) : (FloatKind.f64.format.order (W s r) (W t u) == some .lt) = decide (sv s r < sv t u) := by
  show (Ieee.double.order (W s r) (W t u) == some .lt) = _
  rw [order_le hr hu]
  rcases Int.lt_trichotomy (sv s r) (sv t u) with h | h | h
  · rw [Int.compare_eq_lt.2 h, decide_eq_true h]; rfl
  · rw [Int.compare_eq_eq.2 h, decide_eq_false (by omega)]; rfl
  · rw [Int.compare_eq_gt.2 h, decide_eq_false (by omega)]; rfl

theorem eq_le {s t : Bool} {r u : Nat} (hr : r ≤ I) (hu : u ≤ I) : (FloatKind.f64.format.order (W s r) (W t u) == some .eq) = decide (sv s r = sv t u) := by
  show (Ieee.double.order (W s r) (W t u) == some .eq) = _
  rw [order_le hr hu]
  rcases Int.lt_trichotomy (sv s r) (sv t u) with h | h | h
  · rw [Int.compare_eq_lt.2 h, decide_eq_false (by omega)]; rfl
  · rw [Int.compare_eq_eq.2 h, decide_eq_true h]; rfl
  · rw [Int.compare_eq_gt.2 h, decide_eq_false (by omega)]; rfl

theorem gt_le {s t : Bool} {r u : Nat} (hr : r ≤ I) (hu : u ≤ I) : (FloatKind.f64.format.order (W s r) (W t u) == some .gt) = decide (sv t u < sv s r) := by
  show (Ieee.double.order (W s r) (W t u) == some .gt) = _
  rw [order_le hr hu]
  rcases Int.lt_trichotomy (sv s r) (sv t u) with h | h | h
  · rw [Int.compare_eq_lt.2 h, decide_eq_false (by omega)]; rfl
  · rw [Int.compare_eq_eq.2 h, decide_eq_false (by omega)]; rfl
  · rw [Int.compare_eq_gt.2 h, decide_eq_true h]; rfl

/-- Of a NaN nothing is less, equal or greater. -/
theorem order_nan_left {x y : Nat} (h : nanB x = true) : Ieee.double.order x y = none := by
  unfold nanB at h; unfold Ieee.Format.order
  cases hx : Ieee.double.read x <;> rw [hx] at h <;> simp [Ieee.Datum.isNaN] at h
  rfl
theorem order_nan_right {x y : Nat} (h : nanB y = true) : Ieee.double.order x y = none := by
  unfold nanB at h; unfold Ieee.Format.order
  cases hy : Ieee.double.read y <;> rw [hy] at h <;> simp [Ieee.Datum.isNaN] at h
  cases Ieee.double.read x <;> rfl

/-- What is no NaN is a sign and a rung up to infinity's. -/
theorem num_of {x : Nat} (hx : x < 2 * G) (h : nanB x = false) : ∃ s r, r ≤ I ∧ x = W s r := by
  cases kind hx with
  | fin s r h e => exact ⟨s, r, by omega, e⟩
  | inf s e => exact ⟨s, I, Nat.le_refl _, e⟩
  | nan s f _ _ e hr => exfalso; unfold nanB at h; rw [hr] at h; simp [Ieee.Datum.isNaN] at h

theorem opp_num (s : Bool) {r : Nat} (h : r ≤ I) : opp (W s r) = W (!s) r := opp_W s (by rw [G_eq]; have := B_pos; omega)
theorem sv_not (s : Bool) (r : Nat) : sv (!s) r = -sv s r := by
  unfold sv; cases s <;> simp
theorem opp_opp (x : Nat) : opp (opp x) = x := by
  unfold opp; rw [Nat.xor_assoc, Nat.xor_self, Nat.xor_zero]

theorem fl_lt (s : Bool) {r : Nat} (h : r < I) : fl s r < I := by
  cases s
  · rw [fl_false]; exact Nat.lt_of_le_of_lt (ti_le r) h
  · rw [fl_true]; exact (up_spec h).1

/-- The greatest whole number that is not greater, in units of the least number. -/
theorem sv_fl (s : Bool) {r : Nat} (h : r < I) : sv s (fl s r) = sv s r / (U : Int) * (U : Int) := by
  have hU := U_pos
  cases s
  · rw [fl_false]
    unfold sv
    simp only [Bool.false_eq_true, if_false]
    rw [val_ti, Int.natCast_mul, Int.natCast_ediv]
  · rw [fl_true]
    unfold sv
    simp only [if_true]
    rw [(up_spec h).2]
    have hd := Nat.div_add_mod (val r) U
    generalize hq : val r / U = q at *
    generalize hm : val r % U = m at *
    have hlt : m < U := by rw [← hm]; exact Nat.mod_lt _ hU
    by_cases hz : m = 0
    · rw [if_pos hz]
      have e : (val r : Int) = (U : Int) * (q : Int) := by rw [← hd, hz]; simp
      rw [e]
      have : -((U : Int) * (q : Int)) = (U : Int) * (-(q : Int)) := by rw [Int.mul_neg]
      rw [this, Int.mul_ediv_cancel_left _ (by omega), Int.mul_comm]
    · rw [if_neg hz]
      have e : -(val r : Int) = ((U : Int) - (m : Int)) + (-((q : Int) + 1)) * (U : Int) := by
        have h1 : (val r : Int) = (U : Int) * (q : Int) + (m : Int) := by rw [← hd]; simp
        rw [h1, Int.neg_mul, Int.add_mul, Int.mul_comm (U : Int)]; omega
      rw [e, Int.add_mul_ediv_right _ _ (by omega), Int.ediv_eq_zero_of_lt (by omega) (by omega)]
      rw [Int.natCast_mul, Int.natCast_add, Int.zero_add, Int.neg_mul]; rfl

/-- 1/2. -/
theorem half_facts : flW 4602678819172646912 = 0 ∧ opp (flW (opp 4602678819172646912)) = 4607182418800017408 := by
  have hr : 4602678819172646912 < I := by decide
  have hlt : val 4602678819172646912 < U := by rw [← val_one]; exact val_lt (by decide)
  have hne : val 4602678819172646912 ≠ 0 := fun h => by have := val_eq_zero.1 h; omega
  constructor
  · show flW (W false 4602678819172646912) = 0
    rw [flW_fin false hr, fl_false]
    unfold ti; rw [if_pos (by decide)]; rfl
  · show opp (flW (opp (W false 4602678819172646912))) = W false one
    have hup : up 4602678819172646912 = one := by
      apply val_inj
      rw [(up_spec hr).2, Nat.mod_eq_of_lt hlt, if_neg hne, Nat.div_eq_of_lt hlt, val_one]; simp
    rw [opp_fin false hr, Bool.not_false, flW_fin true hr, fl_true, hup, opp_fin true one_lt, Bool.not_true]

end Go.Proofs.Ytpkhmjfbldoegaa

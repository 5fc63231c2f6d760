/-
The functions that cut a float to a whole number, each by what it hands back.
-/
import Derived.Test.YtpkhmjfbldoegaaFc
import Derived.Test.YtpkhmjfbldoegaaFm
namespace Go.Proofs.Ytpkhmjfbldoegaa
open Go.RowKit Fl

set_option maxHeartbeats 400000 in
theorem modf_cut (x t f : Nat) (e : Nat) (he : e < 52) (w : World) (h1 : (FloatKind.f64.format.order x 4607182418800017408 == some .lt) = false)
    (h2 : IntKind.u64.wrap (bits BinOp.and IntKind.u64 (↑x / 4503599627370496) 2047 - 1023) = (e : Int))
    (h3 : (bits BinOp.andNot IntKind.u64 (↑x) (IntKind.u64.wrap (IntKind.u64.wrap (2 ^ (52 - e)) - 1))).toNat = t)
    (hs : ∀ T, (binOp .sub T (.float .f64 x) (.float .f64 t)).run Try.prog w = .ok (.float .f64 f) w) :
    Calls Try.prog 56 #[.float .f64 x] w fun e w' => e = .returned (.tuple #[.float .f64 t, .float .f64 f]) ∧ w = w' := by
  go_enter Try.func56, Try.ntmps56
  go_wp2_with (first | (go_at_call 68; refine (bits_any _ _).mono ?_; rintro e w' ⟨rfl, rfl⟩) | (go_at_call 67; refine (frombits_any _ _).mono ?_; rintro e w' ⟨rfl, rfl⟩))
  go_ret2
  exact ⟨rfl, rfl⟩

set_option maxHeartbeats 400000 in
theorem modf_whole (x f : Nat) (e : Nat) (he : 52 ≤ e) (w : World) (h1 : (FloatKind.f64.format.order x 4607182418800017408 == some .lt) = false)
    (h2 : IntKind.u64.wrap (bits BinOp.and IntKind.u64 (↑x / 4503599627370496) 2047 - 1023) = (e : Int))
    (hs : ∀ T, (binOp .sub T (.float .f64 x) (.float .f64 x)).run Try.prog w = .ok (.float .f64 f) w) :
    Calls Try.prog 56 #[.float .f64 x] w fun e w' => e = .returned (.tuple #[.float .f64 x, .float .f64 f]) ∧ w = w' := by
  go_enter Try.func56, Try.ntmps56
  go_wp2_with (first | (go_at_call 68; refine (bits_any _ _).mono ?_; rintro e w' ⟨rfl, rfl⟩) | (go_at_call 67; refine (frombits_any _ _).mono ?_; rintro e w' ⟨rfl, rfl⟩))
  go_ret2
  exact ⟨rfl, rfl⟩

set_option maxHeartbeats 400000 in
theorem modf_zero (x : Nat) (w : World) (h1 : (FloatKind.f64.format.order x 4607182418800017408 == some .lt) = true) (h2 : (FloatKind.f64.format.order x 0 == some .lt) = false) (h3 : (FloatKind.f64.format.order x 0 == some .eq) = true) :
    Calls Try.prog 56 #[.float .f64 x] w fun e w' => e = .returned (.tuple #[.float .f64 x, .float .f64 x]) ∧ w = w' := by
  go_enter Try.func56, Try.ntmps56
  go_wp2_with fail
  go_ret2
  exact ⟨rfl, rfl⟩

set_option maxHeartbeats 400000 in
theorem modf_small (x : Nat) (w : World) (h1 : (FloatKind.f64.format.order x 4607182418800017408 == some .lt) = true) (h2 : (FloatKind.f64.format.order x 0 == some .lt) = false) (h3 : (FloatKind.f64.format.order x 0 == some .eq) = false) :
    Calls Try.prog 56 #[.float .f64 x] w fun e w' => e = .returned (.tuple #[.float .f64 0, .float .f64 x]) ∧ w = w' := by
  go_enter Try.func56, Try.ntmps56
  go_wp2_with fail
  go_ret2
  exact ⟨rfl, rfl⟩

set_option maxHeartbeats 400000 in
theorem modf_neg (x a b : Nat) (w : World) (h1 : (FloatKind.f64.format.order x 4607182418800017408 == some .lt) = true) (h2 : (FloatKind.f64.format.order x 0 == some .lt) = true)
    (H : Calls Try.prog 56 #[.float .f64 (opp x)] w fun e w' => e = .returned (.tuple #[.float .f64 a, .float .f64 b]) ∧ w = w') :
    Calls Try.prog 56 #[.float .f64 x] w fun e w' => e = .returned (.tuple #[.float .f64 (opp a), .float .f64 (opp b)]) ∧ w = w' := by
  have H' := hid H
  clear H
  go_enter Try.func56, Try.ntmps56
  go_wp2_with (go_at_call 56; refine H'.out.mono ?_; rintro e w' ⟨rfl, rfl⟩)
  go_ret2
  exact ⟨rfl, rfl⟩

/-! ### Of finite floats -/

theorem lt_pos {r u : Nat} (hr : r < I) (hu : u < I) : (FloatKind.f64.format.order (W false r) (W false u) == some .lt) = decide (r < u) := by
  show (Ieee.double.order (W false r) (W false u) == some .lt) = _
  rw [order_fin hr hu]
  have e : (sv false r < sv false u) ↔ r < u := by
    unfold sv; simp only [Bool.false_eq_true, if_false]
    rw [← val_lt_iff (r := r)]; omega
  by_cases h : r < u
  · rw [Int.compare_eq_lt.2 (e.2 h), decide_eq_true h]; rfl
  · rw [decide_eq_false h]
    cases hc : compare (sv false r) (sv false u) with
    | lt => exact absurd (e.1 (Int.compare_eq_lt.1 hc)) h
    | eq => rfl
    | gt => rfl

theorem exp_bits {r : Nat} (h1 : one ≤ r) (h2 : r < I) : IntKind.u64.wrap (bits BinOp.and IntKind.u64 (↑(W false r) / 4503599627370496) 2047 - 1023) = ((r / B - 1023 : Nat) : Int) := by
  have hB := B_pos
  have hq1 : 1023 ≤ r / B := (Nat.le_div_iff_mul_le hB).2 (by rw [one_eq] at h1; exact h1)
  have hq2 : r / B < 2047 := (Nat.div_lt_iff_lt_mul hB).2 (by rw [← I_eq]; exact h2)
  have e1 : ((W false r : Nat) : Int) / 4503599627370496 = ((r / B : Nat) : Int) := by
    show ((r : Nat) : Int) / ((B : Nat) : Int) = _
    exact (Int.natCast_ediv r B).symm
  have e2 : (2047 : Int) = ((2047 : Nat) : Int) := rfl
  have hG : 2047 < 2 * G := by decide
  rw [e1, e2, and_u64 (by omega) hG]
  have e3 : r / B &&& 2047 = r / B := by
    have : (2047 : Nat) = 2 ^ 11 - 1 := by decide
    rw [this, Nat.and_two_pow_sub_one_eq_mod]; exact Nat.mod_eq_of_lt (by omega)
  rw [e3, show ((r / B : Nat) : Int) - 1023 = ((r / B - 1023 : Nat) : Int) by omega]
  exact wrap_nat (by omega)

theorem cut_bits {r e : Nat} (he : e < 52) (h2 : r < 2 * G) : (bits BinOp.andNot IntKind.u64 ↑(W false r) (IntKind.u64.wrap (IntKind.u64.wrap (2 ^ (52 - e)) - 1))).toNat = r / 2 ^ (52 - e) * 2 ^ (52 - e) := by
  have hp : 2 ^ (52 - e) ≤ 2 ^ 52 := Nat.pow_le_pow_right (by omega) (by omega)
  have hp0 : 0 < 2 ^ (52 - e) := Nat.two_pow_pos _
  have hG : 2 ^ 52 < G := by decide
  have e1 : (2 : Int) ^ (52 - e) = ((2 ^ (52 - e) : Nat) : Int) := by simp
  rw [e1, wrap_nat (by omega), show ((2 ^ (52 - e) : Nat) : Int) - 1 = ((2 ^ (52 - e) - 1 : Nat) : Int) by omega, wrap_nat (by omega)]
  show (bits BinOp.andNot IntKind.u64 (r : Int) _).toNat = _
  rw [andNot_low r _ h2 (by omega)]; rfl

theorem run_sub_fin {s t : Bool} {r u : Nat} (hr : r < I) (hu : u < I) (T : TypeId) (w : World) :
    (binOp .sub T (.float .f64 (W s r)) (.float .f64 (W t u))).run Try.prog w = .ok (.float .f64 (W (if sv s r + sv (!t) u = 0 then s && !t else decide (sv s r + sv (!t) u < 0)) (nr (sv s r + sv (!t) u).natAbs (-1074)))) w :=
  run_float_arith w .sub T .f64 _ _ _ (by show Ieee.double.sub _ _ = _; rw [sub_fin hr hu, add_fin hr hu])

theorem run_add_fin {s t : Bool} {r u : Nat} (hr : r < I) (hu : u < I) (T : TypeId) (w : World) :
    (binOp .add T (.float .f64 (W s r)) (.float .f64 (W t u))).run Try.prog w = .ok (.float .f64 (W (if sv s r + sv t u = 0 then s && t else decide (sv s r + sv t u < 0)) (nr (sv s r + sv t u).natAbs (-1074)))) w :=
  run_float_arith w .add T .f64 _ _ _ (by show Ieee.double.add _ _ = _; rw [add_fin hr hu])

theorem run_fr {r : Nat} (hr : r < I) (T : TypeId) (w : World) : (binOp .sub T (.float .f64 (W false r)) (.float .f64 (W false (ti r)))).run Try.prog w = .ok (.float .f64 (W false (fr r))) w := by
  have ht : ti r < I := Nat.lt_of_le_of_lt (ti_le r) hr
  rw [run_sub_fin hr ht]
  have hle := val_le (ti_le r)
  have e : sv false r + sv (!false) (ti r) = ((val r - val (ti r) : Nat) : Int) := by
    unfold sv; simp only [Bool.false_eq_true, if_false, Bool.not_false, if_true]; omega
  rw [e]
  have e2 : (if ((val r - val (ti r) : Nat) : Int) = 0 then false && !false else decide (((val r - val (ti r) : Nat) : Int) < 0)) = false := by
    split
    · rfl
    · simp
  rw [e2]; rfl

/-- The parts of a finite float that is not negative. -/
theorem modf_pos (r : Nat) (hr : r < I) (w : World) : Calls Try.prog 56 #[.float .f64 (W false r)] w fun e w' => e = .returned (.tuple #[.float .f64 (W false (ti r)), .float .f64 (W false (fr r))]) ∧ w = w' := by
  have h10 : (FloatKind.f64.format.order (W false r) 4607182418800017408 == some .lt) = decide (r < one) := lt_pos hr one_lt
  have h00 : (FloatKind.f64.format.order (W false r) 0 == some .lt) = false := by
    have := lt_pos (u := 0) hr (by decide)
    rw [show W false 0 = 0 from rfl] at this
    rw [this]; simp
  by_cases h1 : r < one
  · have ht : ti r = 0 := by unfold ti; rw [if_pos h1]
    have hf : fr r = r := by unfold fr; rw [ht, val_zero, Nat.sub_zero, nr_val0 (by omega)]
    rw [ht, hf]
    rw [decide_eq_true h1] at h10
    by_cases hz : r = 0
    · subst hz
      exact modf_zero _ w h10 h00 (by decide)
    · refine modf_small _ w h10 h00 ?_
      show (Ieee.double.order (W false r) (W false 0) == some .eq) = false
      rw [order_fin hr (by decide)]
      have : compare (sv false r) (sv false 0) ≠ .eq := fun h => hz (by
        have := Int.compare_eq_eq.1 h
        unfold sv at this
        simp only [Bool.false_eq_true, if_false] at this
        exact val_inj (by omega))
      cases hc : compare (sv false r) (sv false 0) <;> simp_all
  · rw [decide_eq_false h1] at h10
    have hB := B_pos
    have he := exp_bits (r := r) (by omega) hr
    have hs := fun T => run_fr hr T w
    by_cases h2 : r < 1075 * B
    · obtain ⟨k, hk, k1, k2, _, _, _⟩ := parts_mid (r := r) (by omega) h2
      have hq : r / B - 1023 < 52 := by omega
      have ek : 52 - (r / B - 1023) = k := by omega
      have hc := cut_bits (r := r) hq (by have := G_eq; omega)
      refine modf_cut _ _ _ _ hq w h10 he ?_ hs
      rw [hc, ek]
      show _ = W false (ti r)
      unfold ti
      rw [if_neg h1, if_pos h2, hk]; rfl
    · have hq : 52 ≤ r / B - 1023 := by
        have : 1075 ≤ r / B := (Nat.le_div_iff_mul_le hB).2 (by omega)
        omega
      have ht : ti r = r := by unfold ti; rw [if_neg h1, if_neg h2]
      rw [ht] at hs ⊢
      exact modf_whole _ _ _ hq w h10 he hs

theorem lt_fin {s t : Bool} {r u : Nat} (hr : r < I) (hu : u < I) : (FloatKind.f64.format.order (W s r) (W t u) == some .lt) = decide (sv s r < sv t u) := by
  show (Ieee.double.order (W s r) (W t u) == some .lt) = _
  rw [order_fin hr hu]
  by_cases h : sv s r < sv t u
  · rw [Int.compare_eq_lt.2 h, decide_eq_true h]; rfl
  · rw [decide_eq_false h]
    cases hc : compare (sv s r) (sv t u) with
    | lt => exact absurd (Int.compare_eq_lt.1 hc) h
    | eq => rfl
    | gt => rfl

theorem eq_fin {s t : Bool} {r u : Nat} (hr : r < I) (hu : u < I) : (FloatKind.f64.format.order (W s r) (W t u) == some .eq) = decide (sv s r = sv t u) := by
  show (Ieee.double.order (W s r) (W t u) == some .eq) = _
  rw [order_fin hr hu]
  by_cases h : sv s r = sv t u
  · rw [Int.compare_eq_eq.2 h, decide_eq_true h]; rfl
  · rw [decide_eq_false h]
    cases hc : compare (sv s r) (sv t u) with
    | lt => rfl
    | eq => exact absurd (Int.compare_eq_eq.1 hc) h
    | gt => rfl

theorem sv_zero (s : Bool) : sv s 0 = 0 := by unfold sv; rw [val_zero]; cases s <;> rfl
theorem sv_eq_zero {s : Bool} {r : Nat} : sv s r = 0 ↔ r = 0 := by
  unfold sv
  constructor
  · intro h
    apply val_eq_zero.1
    cases s <;> simp at h <;> omega
  · intro h; subst h; exact sv_zero s
theorem opp_fin (s : Bool) {r : Nat} (h : r < I) : opp (W s r) = W (!s) r := opp_W s (by rw [G_eq]; omega)

theorem sv_true_lt {r : Nat} (h : r ≠ 0) : sv true r < 0 := by
  have : val r ≠ 0 := fun h' => h (val_eq_zero.1 h')
  unfold sv; simp only [if_true]; omega

/-- The parts of a finite float. -/
theorem modf_any (s : Bool) (r : Nat) (hr : r < I) (w : World) : Calls Try.prog 56 #[.float .f64 (W s r)] w fun e w' => e = .returned (.tuple #[.float .f64 (W s (ti r)), .float .f64 (W s (fr r))]) ∧ w = w' := by
  cases s with
  | false => exact modf_pos r hr w
  | true =>
    have h10 : (FloatKind.f64.format.order (W true r) 4607182418800017408 == some .lt) = true := by
      have := lt_fin (s := true) (t := false) (u := one) hr one_lt
      rw [show W false one = 4607182418800017408 from rfl] at this
      rw [this]
      have h1 : sv true r ≤ 0 := by unfold sv; simp only [if_true]; omega
      have h2 : 0 < sv false one := by unfold sv; rw [val_one]; simp only [Bool.false_eq_true, if_false]; have := U_pos; omega
      exact decide_eq_true (by omega)
    have h00 : (FloatKind.f64.format.order (W true r) 0 == some .lt) = decide (sv true r < 0) := by
      have := lt_fin (s := true) (t := false) (u := 0) hr (by decide)
      rw [show W false 0 = 0 from rfl, sv_zero] at this
      exact this
    by_cases hz : r = 0
    · subst hz
      have ht : ti 0 = 0 := by unfold ti; rw [if_pos (by decide)]
      have hf : fr 0 = 0 := by unfold fr; rw [ht, Nat.sub_self, nr_zero]
      rw [ht, hf]
      exact modf_zero _ w h10 (by rw [h00, sv_zero]; rfl) (by decide)
    · rw [decide_eq_true (sv_true_lt hz)] at h00
      have H := modf_pos r hr w
      have e1 : W true (ti r) = opp (W false (ti r)) := (opp_fin false (Nat.lt_of_le_of_lt (ti_le r) hr)).symm
      have e2 : W true (fr r) = opp (W false (fr r)) := (opp_fin false (Nat.lt_of_le_of_lt (fr_le (by omega)) hr)).symm
      rw [e1, e2]
      refine modf_neg _ _ _ w h10 h00 ?_
      rw [opp_fin true hr]
      exact H

/-! ### floor, ceil -/

set_option maxHeartbeats 400000 in
theorem floor_self (x : Nat) (w : World) (h : (FloatKind.f64.format.order x 0 == some .eq) = true ∨ finB x = false) :
    Calls Try.prog 65 #[.float .f64 x] w fun e w' => e = .returned (.float .f64 x) ∧ Drew w w' := by
  cases h0 : (FloatKind.f64.format.order x 0 == some .eq)
  · have hf : finB x = false := by simpa [h0] using h
    clear h
    cases hn : nanB x
    · have hi : infB x = true := by unfold finB at hf; simpa [hn] using hf
      clear hf
      go_enter Try.func65, Try.ntmps65
      go_wp2_with (first | (go_at_call 53; refine (isNaN_any _ _).mono ?_; rintro e w' ⟨rfl, rfl⟩) | (go_at_call 54; refine (isInf_any _ _).mono ?_; rintro e w' ⟨rfl, n, rfl⟩))
      go_ret
      exact ⟨rfl, n, rfl⟩
    · clear hf
      go_enter Try.func65, Try.ntmps65
      go_wp2_with (first | (go_at_call 53; refine (isNaN_any _ _).mono ?_; rintro e w' ⟨rfl, rfl⟩) | (go_at_call 54; refine (isInf_any _ _).mono ?_; rintro e w' ⟨rfl, n, rfl⟩))
      go_ret
      exact ⟨rfl, 0, rfl⟩
  · clear h
    go_enter Try.func65, Try.ntmps65
    go_wp2_with fail
    go_ret
    exact ⟨rfl, 0, rfl⟩

set_option maxHeartbeats 400000 in
theorem floor_pos (x a b : Nat) (w : World) (h0 : (FloatKind.f64.format.order x 0 == some .eq) = false) (hn : nanB x = false) (hi : infB x = false) (hl : (FloatKind.f64.format.order x 0 == some .lt) = false)
    (H : ∀ w, Calls Try.prog 56 #[.float .f64 x] w fun e w' => e = .returned (.tuple #[.float .f64 a, .float .f64 b]) ∧ w = w') :
    Calls Try.prog 65 #[.float .f64 x] w fun e w' => e = .returned (.float .f64 a) ∧ Drew w w' := by
  have H' := hid H
  clear H
  go_enter Try.func65, Try.ntmps65
  go_wp2_with (first | (go_at_call 53; refine (isNaN_any _ _).mono ?_; rintro e w' ⟨rfl, rfl⟩) | (go_at_call 54; refine (isInf_any _ _).mono ?_; rintro e w' ⟨rfl, n, rfl⟩) | (go_at_call 56; refine (H'.out _).mono ?_; rintro e w' ⟨rfl, rfl⟩))
  go_ret
  exact ⟨rfl, n, rfl⟩

set_option maxHeartbeats 400000 in
theorem floor_neg (x a b : Nat) (w : World) (h0 : (FloatKind.f64.format.order x 0 == some .eq) = false) (hn : nanB x = false) (hi : infB x = false) (hl : (FloatKind.f64.format.order x 0 == some .lt) = true) (hb : (FloatKind.f64.format.order b 0 != some .eq) = false)
    (H : ∀ w, Calls Try.prog 56 #[.float .f64 (opp x)] w fun e w' => e = .returned (.tuple #[.float .f64 a, .float .f64 b]) ∧ w = w') :
    Calls Try.prog 65 #[.float .f64 x] w fun e w' => e = .returned (.float .f64 (opp a)) ∧ Drew w w' := by
  have H' := hid H
  clear H
  go_enter Try.func65, Try.ntmps65
  go_wp2_with (first | (go_at_call 53; refine (isNaN_any _ _).mono ?_; rintro e w' ⟨rfl, rfl⟩) | (go_at_call 54; refine (isInf_any _ _).mono ?_; rintro e w' ⟨rfl, n, rfl⟩) | (go_at_call 56; refine (H'.out _).mono ?_; rintro e w' ⟨rfl, rfl⟩))
  go_ret
  exact ⟨rfl, n, rfl⟩

set_option maxHeartbeats 400000 in
theorem floor_up (x a b c : Nat) (w : World) (h0 : (FloatKind.f64.format.order x 0 == some .eq) = false) (hn : nanB x = false) (hi : infB x = false) (hl : (FloatKind.f64.format.order x 0 == some .lt) = true) (hb : (FloatKind.f64.format.order b 0 != some .eq) = true)
    (hs : ∀ T w, (binOp .add T (.float .f64 a) (.float .f64 4607182418800017408)).run Try.prog w = .ok (.float .f64 c) w)
    (H : ∀ w, Calls Try.prog 56 #[.float .f64 (opp x)] w fun e w' => e = .returned (.tuple #[.float .f64 a, .float .f64 b]) ∧ w = w') :
    Calls Try.prog 65 #[.float .f64 x] w fun e w' => e = .returned (.float .f64 (opp c)) ∧ Drew w w' := by
  have H' := hid H
  clear H
  go_enter Try.func65, Try.ntmps65
  go_wp2_with (first | (go_at_call 53; refine (isNaN_any _ _).mono ?_; rintro e w' ⟨rfl, rfl⟩) | (go_at_call 54; refine (isInf_any _ _).mono ?_; rintro e w' ⟨rfl, n, rfl⟩) | (go_at_call 56; refine (H'.out _).mono ?_; rintro e w' ⟨rfl, rfl⟩))
  go_ret
  exact ⟨rfl, n, rfl⟩

/-- The rung of the greatest whole number that is not greater. -/
def fl (s : Bool) (r : Nat) : Nat := if s then up r else ti r

theorem fl_true (r : Nat) : fl true r = up r := if_pos rfl
theorem fl_false (r : Nat) : fl false r = ti r := if_neg Bool.false_ne_true
theorem up_zero {r : Nat} (h : fr r = 0) : up r = ti r := if_pos h
theorem up_more {r : Nat} (h : fr r ≠ 0) : up r = nr (val (ti r) + U) (-1074) := if_neg h

theorem floor_fin (s : Bool) (r : Nat) (hr : r < I) (w : World) : Calls Try.prog 65 #[.float .f64 (W s r)] w fun e w' => e = .returned (.float .f64 (W s (fl s r))) ∧ Drew w w' := by
  have hn := nanB_fin (s := s) hr
  have hi : infB (W s r) = false := by unfold infB; rw [read_fin hr]; rfl
  have h0 : (FloatKind.f64.format.order (W s r) 0 == some .eq) = decide (sv s r = 0) := by
    have := eq_fin (s := s) (t := false) (u := 0) hr (by decide)
    rw [show W false 0 = 0 from rfl, sv_zero] at this; exact this
  have hl : (FloatKind.f64.format.order (W s r) 0 == some .lt) = decide (sv s r < 0) := by
    have := lt_fin (s := s) (t := false) (u := 0) hr (by decide)
    rw [show W false 0 = 0 from rfl, sv_zero] at this; exact this
  by_cases hz : r = 0
  · subst hz
    have ht : ti 0 = 0 := by unfold ti; rw [if_pos (by decide)]
    have hf : fr 0 = 0 := by unfold fr; rw [ht, Nat.sub_self, nr_zero]
    have hu : up 0 = 0 := by rw [up_zero hf, ht]
    have : fl s 0 = 0 := by
      cases s
      · rw [fl_false, ht]
      · rw [fl_true, hu]
    rw [this]
    exact floor_self _ w (Or.inl (by rw [h0, sv_zero]; rfl))
  · rw [decide_eq_false (fun h => hz (sv_eq_zero.1 h))] at h0
    cases s with
    | false =>
      have : ¬ sv false r < 0 := by unfold sv; simp
      rw [decide_eq_false this] at hl
      rw [fl_false]
      exact floor_pos _ _ _ w h0 hn hi hl (fun w => modf_any false r hr w)
    | true =>
      rw [decide_eq_true (sv_true_lt hz)] at hl
      have H : ∀ w, Calls Try.prog 56 #[.float .f64 (opp (W true r))] w fun e w' => e = .returned (.tuple #[.float .f64 (W false (ti r)), .float .f64 (W false (fr r))]) ∧ w = w' := fun w => by
        rw [opp_fin true hr]; exact modf_any false r hr w
      have hfr : fr r < I := Nat.lt_of_le_of_lt (fr_le (by omega)) hr
      have hti : ti r < I := Nat.lt_of_le_of_lt (ti_le r) hr
      have hb : (FloatKind.f64.format.order (W false (fr r)) 0 == some .eq) = decide (fr r = 0) := by
        have := eq_fin (s := false) (t := false) (u := 0) hfr (by decide)
        rw [show W false 0 = 0 from rfl, sv_zero] at this; rw [this]
        simp only [sv_eq_zero]
      rw [fl_true]
      by_cases hf : fr r = 0
      · have hb' : (FloatKind.f64.format.order (W false (fr r)) 0 != some .eq) = false := by
          rw [decide_eq_true hf] at hb; simp only [bne, hb]; rfl
        have e : W true (up r) = opp (W false (ti r)) := by
          rw [opp_fin false hti, up_zero hf, Bool.not_false]
        rw [e]
        exact floor_neg _ _ _ w h0 hn hi hl hb' H
      · have hb' : (FloatKind.f64.format.order (W false (fr r)) 0 != some .eq) = true := by
          rw [decide_eq_false hf] at hb; simp only [bne, hb]; rfl
        have e : W true (up r) = opp (W false (up r)) := by
          rw [opp_fin false (up_spec hr).1, Bool.not_false]
        rw [e]
        refine floor_up _ _ _ _ w h0 hn hi hl hb' (fun T w => ?_) H
        have := run_add_fin (s := false) (t := false) hti one_lt T w
        rw [show W false one = 4607182418800017408 from rfl] at this
        rw [this]
        have e1 : sv false (ti r) + sv false one = ((val (ti r) + U : Nat) : Int) := by
          unfold sv; rw [val_one]; simp
        have hU := U_pos
        rw [e1, if_neg (by omega), decide_eq_false (by omega), Int.natAbs_natCast, ← up_more hf]

/-- What floor hands back. -/
def flW (x : Nat) : Nat := if finB x then W (sgB x) (fl (sgB x) (x % G)) else x

theorem sgB_W (s : Bool) {r : Nat} (h : r < G) : sgB (W s r) = s := by
  unfold sgB W; cases s <;> simp <;> omega
theorem mod_W (s : Bool) {r : Nat} (h : r < G) : W s r % G = r := by
  unfold W; cases s
  · exact Nat.mod_eq_of_lt h
  · show (G + r) % G = r
    rw [Nat.add_mod_left]; exact Nat.mod_eq_of_lt h
theorem finB_fin (s : Bool) {r : Nat} (h : r < I) : finB (W s r) = true := by
  have hi : infB (W s r) = false := by unfold infB; rw [read_fin h]; rfl
  unfold finB; rw [nanB_fin h, hi]; rfl
theorem flW_fin (s : Bool) {r : Nat} (h : r < I) : flW (W s r) = W s (fl s r) := by
  have hG : r < G := by rw [G_eq]; omega
  unfold flW; rw [finB_fin s h, sgB_W s hG, mod_W s hG]; rfl
/-- A finite word. -/
theorem fin_of {x : Nat} (hx : x < 2 * G) (h : finB x = true) : ∃ s r, r < I ∧ x = W s r := by
  cases kind hx with
  | fin s r h e => exact ⟨s, r, h, e⟩
  | inf s e => exfalso; subst e; unfold finB infB at h; rw [read_inf] at h; simp [Ieee.Datum.isInfinity] at h
  | nan s f _ _ e hr => exfalso; unfold finB nanB at h; rw [hr] at h; simp [Ieee.Datum.isNaN] at h

theorem floor_any (x : Nat) (hx : x < 2 * G) (w : World) : Calls Try.prog 65 #[.float .f64 x] w fun e w' => e = .returned (.float .f64 (flW x)) ∧ Drew w w' := by
  cases h : finB x
  · have : flW x = x := by unfold flW; rw [h]; rfl
    rw [this]; exact floor_self x w (Or.inr h)
  · obtain ⟨s, r, hr, rfl⟩ := fin_of hx h
    rw [flW_fin s hr]; exact floor_fin s r hr w

theorem opp_lt {x : Nat} (h : x < 2 * G) : opp x < 2 * G := by
  unfold opp
  rw [two_G] at *
  exact Nat.xor_lt_two_pow h (by decide)

set_option maxHeartbeats 400000 in
theorem ceil_any (x : Nat) (hx : x < 2 * G) (w : World) : Calls Try.prog 66 #[.float .f64 x] w fun e w' => e = .returned (.float .f64 (opp (flW (opp x)))) ∧ Drew w w' := by
  have H := hid (floor_any (opp x) (opp_lt hx))
  go_enter Try.func66, Try.ntmps66
  go_wp2_with (go_at_call 65; refine (H.out _).mono ?_; rintro e w' ⟨rfl, n, rfl⟩)
  go_ret
  exact ⟨rfl, n, rfl⟩

end Go.Proofs.Ytpkhmjfbldoegaa

/-
Two laws of whole parts: the bounds, the sum of the parts.
-/
import Derived.Test.YtpkhmjfbldoegaaL2
namespace Go.Proofs.Ytpkhmjfbldoegaa
open Go.RowKit Fl

theorem leB_fin {s t : Bool} {r u : Nat} (hr : r < I) (hu : u < I) : leB (W s r) (W t u) = decide (sv s r ≤ sv t u) := leB_num (by omega) (by omega)

/-- A finite number between its whole numbers: F = q * U + m. -/
theorem ediv_facts (F : Int) : F / (U : Int) * (U : Int) ≤ F ∧ F ≤ -(-F / (U : Int) * (U : Int)) ∧ (F % (U : Int) = 0 → F / (U : Int) * (U : Int) = F ∧ -(-F / (U : Int) * (U : Int)) = F) ∧ (F % (U : Int) ≠ 0 → F / (U : Int) * (U : Int) < F ∧ F < -(-F / (U : Int) * (U : Int)) ∧ -(-F / (U : Int) * (U : Int)) - F / (U : Int) * (U : Int) = (U : Int)) := by
  have hU : (0 : Int) < (U : Int) := by have := U_pos; omega
  have h1 := Int.emod_add_mul_ediv F (U : Int)
  have h2 := Int.emod_add_mul_ediv (-F) (U : Int)
  have h3 := Int.emod_nonneg F (show (U : Int) ≠ 0 by omega)
  have h4 := Int.emod_nonneg (-F) (show (U : Int) ≠ 0 by omega)
  have h5 := Int.emod_lt_of_pos F hU
  have h6 := Int.emod_lt_of_pos (-F) hU
  rw [Int.mul_comm] at h1 h2
  generalize ha : F / (U : Int) = a at *
  generalize hb : -F / (U : Int) = b at *
  generalize hm : F % (U : Int) = m at *
  generalize hn : -F % (U : Int) = n at *
  -- m + n is 0 or U
  have key : m + n = 0 ∧ a + b = 0 ∨ m + n = (U : Int) ∧ a + b = -1 := by
    have e : (a + b) * (U : Int) = -(m + n) := by rw [Int.add_mul]; omega
    have l1 : -1 ≤ a + b := by
      rcases Int.lt_or_le (a + b) (-1) with h | h
      · exfalso
        have : (a + b) * (U : Int) ≤ (-2) * (U : Int) := Int.mul_le_mul_of_nonneg_right (by omega) (by omega)
        omega
      · exact h
    have l2 : a + b ≤ 0 := by
      rcases Int.lt_or_le 0 (a + b) with h | h
      · exfalso
        have : 1 * (U : Int) ≤ (a + b) * (U : Int) := Int.mul_le_mul_of_nonneg_right (by omega) (by omega)
        omega
      · exact h
    rcases (show a + b = 0 ∨ a + b = -1 by omega) with h | h
    · left; rw [h] at e; omega
    · right; rw [h] at e; omega
  have eb : -(b * (U : Int)) = F + n := by omega
  refine ⟨by omega, by omega, fun hz => ?_, fun hz => ?_⟩
  · rcases key with ⟨k1, k2⟩ | ⟨k1, k2⟩
    · exact ⟨by omega, by omega⟩
    · omega
  · rcases key with ⟨k1, k2⟩ | ⟨k1, k2⟩
    · omega
    · exact ⟨by omega, by omega, by omega⟩

theorem neg_fl (s : Bool) {r : Nat} (h : r < I) : opp (flW (opp (W s r))) = W s (fl (!s) r) := by
  rw [opp_fin s h, flW_fin (!s) h, opp_fin (!s) (fl_lt _ h), Bool.not_not]

theorem sv_neg_fl (s : Bool) {r : Nat} (h : r < I) : sv s (fl (!s) r) = -(-(sv s r) / (U : Int) * (U : Int)) := by
  have := sv_fl (!s) h
  rw [sv_not, sv_not] at this
  omega

/-- The whole part: of the one or of the other. -/
theorem ti_cases (s : Bool) (r : Nat) : W s (ti r) = W s (fl s r) ∨ W s (ti r) = W s (fl (!s) r) := by
  cases s
  · left; rw [fl_false]
  · right; rw [Bool.not_true, fl_false]

theorem sv_inj {s : Bool} {r u : Nat} (h : sv s r = sv s u) : r = u := by
  unfold sv at h
  cases s
  · simp only [Bool.false_eq_true, if_false] at h; exact val_inj (by omega)
  · simp only [if_true] at h; exact val_inj (by omega)

theorem run_sub_U (s : Bool) {r : Nat} (h : r < I) (hz : sv s r % (U : Int) ≠ 0) (T : TypeId) (w : World) :
    (binOp .sub T (.float .f64 (W s (fl (!s) r))) (.float .f64 (W s (fl s r)))).run Try.prog w = .ok (.float .f64 4607182418800017408) w := by
  have e : sv s (fl (!s) r) + sv (!s) (fl s r) = ((U : Nat) : Int) := by
    rw [sv_not, sv_neg_fl s h, sv_fl s h]
    have := ((ediv_facts (sv s r)).2.2.2 hz).2.2
    omega
  have hU := U_pos
  have hn : nr U (-1074) = one := by rw [← val_one, nr_val0 (by decide)]
  rw [run_sub_fin (fl_lt _ h) (fl_lt _ h), e, if_neg (by omega), decide_eq_false (by omega), Int.natAbs_natCast, hn]
  rfl

theorem run_add_parts (s : Bool) {r : Nat} (h : r < I) (T : TypeId) (w : World) :
    (binOp .add T (.float .f64 (W s (ti r))) (.float .f64 (W s (fr r)))).run Try.prog w = .ok (.float .f64 (W s r)) w := by
  have hti : ti r < I := Nat.lt_of_le_of_lt (ti_le r) h
  have hfr : fr r < I := Nat.lt_of_le_of_lt (fr_le (by omega)) h
  have e : sv s (ti r) + sv s (fr r) = sv s r := by
    have h1 := sub_ti r
    have h2 := val_fr (r := r) (by omega)
    have h3 := val_le (ti_le r)
    unfold sv
    cases s <;> simp <;> omega
  rw [run_add_fin hti hfr, e]
  have key : W (if sv s r = 0 then s && s else decide (sv s r < 0)) (nr (sv s r).natAbs (-1074)) = W s r := by
    have hn : nr (sv s r).natAbs (-1074) = r := by
      have : (sv s r).natAbs = val r := by unfold sv; cases s <;> simp
      rw [this, nr_val0 (by omega)]
    rw [hn]
    by_cases hz : sv s r = 0
    · rw [if_pos hz, Bool.and_self]
    · rw [if_neg hz]
      have : decide (sv s r < 0) = s := by
        cases s
        · apply decide_eq_false; unfold sv; simp
        · exact decide_eq_true (sv_true_lt (fun h => hz (sv_eq_zero.2 h)))
      rw [this]
  rw [key]

theorem eqB_fin {s t : Bool} {r u : Nat} (hr : r < I) (hu : u < I) : (FloatKind.f64.format.order (W s r) (W t u) == some .eq) = decide (sv s r = sv t u) := eq_le (by omega) (by omega)

theorem W_lt (s : Bool) {r : Nat} (h : r < G) : W s r < 2 * G := by unfold W; split <;> omega

theorem sv_ti (s : Bool) (r : Nat) : sv s (ti r) = sv s r ↔ sv s r % (U : Int) = 0 := by
  have hU : (0 : Int) < (U : Int) := by have := U_pos; omega
  have h2 := val_ti r
  have hd := Nat.div_add_mod (val r) U
  rw [Nat.mul_comm] at hd
  have e : sv s (ti r) = sv s r ↔ val r % U = 0 := by
    unfold sv
    cases s <;> simp <;> omega
  rw [e]
  unfold sv
  cases s
  · simp only [Bool.false_eq_true, if_false]
    rw [← Int.natCast_emod]; omega
  · simp only [if_true]
    rw [← Int.dvd_iff_emod_eq_zero, Int.dvd_neg, Int.dvd_iff_emod_eq_zero, ← Int.natCast_emod]; omega

/-! ### The bounds -/

set_option maxHeartbeats 4000000 in
theorem bounds_inf (x : Nat) (hx : x < 2 * G) (h : finB x = false) (w : World) :
    Calls Try.prog 11 #[.int .u64 x] w fun e w' => e = .returned (.bool true) ∧ Ok w w' := by
  have K := Ok.refl w
  have hh : 4602678819172646912 < 2 * G := by decide
  have C2 := hid (implCeil 4602678819172646912 hh)
  rw [half_facts.2] at C2
  clear hh
  have h1 : (FloatKind.f64.format.order 4607182418800017408 4607182418800017408 == some .eq) = true := by decide
  go_enter Try.func11, Try.ntmps11
  go_wp2_with (first
    | (go_at_call 14; refine (Double_any _).mono ?_; rintro e w1 ⟨rfl, ok⟩; replace K := K.trans ok)
    | (go_at_call 23; refine (Finite_any _ (by assumption) _).mono ?_; rintro e w1 ⟨rfl, ok⟩; replace K := K.trans ok)
    | (go_at_call 31; refine (C2.out _).mono ?_; rintro e w1 ⟨rfl, ok⟩; replace K := K.trans ok.ok))
  go_ret
  exact ⟨rfl, K⟩

set_option maxHeartbeats 4000000 in
theorem bounds_whole (s : Bool) (r : Nat) (hr : r < I) (hz : sv s r % (U : Int) = 0) (w : World) :
    Calls Try.prog 11 #[.int .u64 (W s r : Nat)] w fun e w' => e = .returned (.bool true) ∧ Ok w w' := by
  have K := Ok.refl w
  have hx := W_lt s (show r < G by rw [G_eq]; omega)
  have F := hid (implFloor (W s r) hx)
  rw [flW_fin s hr] at F
  have C := hid (implCeil (W s r) hx)
  rw [neg_fl s hr] at C
  have M := hid (implModf s r hr)
  have D := hid (Finite_any (W s r) hx)
  rw [finB_fin s hr] at D
  have f1 := fl_lt s hr
  have f2 := fl_lt (!s) hr
  have f3 : ti r < I := Nat.lt_of_le_of_lt (ti_le r) hr
  obtain ⟨g1, g2⟩ := (ediv_facts (sv s r)).2.2.1 hz
  rw [← sv_fl s hr] at g1
  rw [← sv_neg_fl s hr] at g2
  have g3 := (sv_ti s r).2 hz
  have b1 : leB (W s (fl s r)) (W s r) = true := by rw [leB_fin f1 hr]; exact decide_eq_true (by omega)
  have b2 : leB (W s r) (W s (fl (!s) r)) = true := by rw [leB_fin hr f2]; exact decide_eq_true (by omega)
  have b3 : (FloatKind.f64.format.order (W s (fl s r)) (W s (fl (!s) r)) == some .eq) = true := by rw [eqB_fin f1 f2]; exact decide_eq_true (by omega)
  have b4 : (FloatKind.f64.format.order (W s (ti r)) (W s r) == some .eq) = true := by rw [eqB_fin f3 hr]; exact decide_eq_true (by omega)
  have b5 : (FloatKind.f64.format.order (W s (ti r)) (W s (fl s r)) == some .eq) = true := by rw [eqB_fin f3 f1]; exact decide_eq_true (by omega)
  unfold leB at b1 b2
  clear g1 g2 g3 hz f1 f2 f3 hx hr
  go_enter Try.func11, Try.ntmps11
  go_wp2_with (first
    | (go_at_call 14; refine (Double_any _).mono ?_; rintro e w1 ⟨rfl, ok⟩; replace K := K.trans ok)
    | (go_at_call 23; refine (D.out _).mono ?_; rintro e w1 ⟨rfl, ok⟩; replace K := K.trans ok)
    | (go_at_call 29; refine (F.out _).mono ?_; rintro e w1 ⟨rfl, ok⟩; replace K := K.trans ok.ok)
    | (go_at_call 31; refine (C.out _).mono ?_; rintro e w1 ⟨rfl, ok⟩; replace K := K.trans ok.ok)
    | (go_at_call 24; refine (M.out _).mono ?_; rintro e w1 ⟨rfl, rfl⟩))
  go_ret
  exact ⟨rfl, K⟩

set_option maxHeartbeats 4000000 in
/-- Between two whole numbers: c the one that the whole part is not, if it is not the lower one. -/
theorem bounds_between (s : Bool) (r : Nat) (hr : r < I) (hz : sv s r % (U : Int) ≠ 0) (e1 : W s (ti r) = W s (fl s r)) (w : World) :
    Calls Try.prog 11 #[.int .u64 (W s r : Nat)] w fun e w' => e = .returned (.bool true) ∧ Ok w w' := by
  have K := Ok.refl w
  have hx := W_lt s (show r < G by rw [G_eq]; omega)
  have F := hid (implFloor (W s r) hx)
  rw [flW_fin s hr] at F
  have C := hid (implCeil (W s r) hx)
  rw [neg_fl s hr] at C
  have M := hid (implModf s r hr)
  have D := hid (Finite_any (W s r) hx)
  rw [finB_fin s hr] at D
  have f1 := fl_lt s hr
  have f2 := fl_lt (!s) hr
  have f3 : ti r < I := Nat.lt_of_le_of_lt (ti_le r) hr
  obtain ⟨g1, g2, g3⟩ := (ediv_facts (sv s r)).2.2.2 hz
  rw [← sv_fl s hr] at g1
  rw [← sv_neg_fl s hr] at g2
  rw [e1] at M
  have hs := run_sub_U s hr hz
  have b1 : (FloatKind.f64.format.order (W s (fl s r)) (W s r) == some .lt) = true := by rw [lt_fin f1 hr]; exact decide_eq_true (by omega)
  have b2 : (FloatKind.f64.format.order (W s r) (W s (fl (!s) r)) == some .lt) = true := by rw [lt_fin hr f2]; exact decide_eq_true (by omega)
  have b3 : (FloatKind.f64.format.order (W s (fl s r)) (W s (fl (!s) r)) == some .eq) = false := by rw [eqB_fin f1 f2]; exact decide_eq_false (by omega)
  have b4 : (FloatKind.f64.format.order (W s (fl s r)) (W s r) == some .eq) = false := by rw [eqB_fin f1 hr]; exact decide_eq_false (by omega)
  have b5 : (FloatKind.f64.format.order (W s (fl s r)) (W s (fl s r)) == some .eq) = true := by rw [eqB_fin f1 f1]; exact decide_eq_true rfl
  have b6 : (FloatKind.f64.format.order 4607182418800017408 4607182418800017408 == some .eq) = true := by decide
  clear g1 g2 g3 hz f1 f2 f3 hx hr e1
  go_enter Try.func11, Try.ntmps11
  go_wp2_with (first
    | (go_at_call 14; refine (Double_any _).mono ?_; rintro e w1 ⟨rfl, ok⟩; replace K := K.trans ok)
    | (go_at_call 23; refine (D.out _).mono ?_; rintro e w1 ⟨rfl, ok⟩; replace K := K.trans ok)
    | (go_at_call 29; refine (F.out _).mono ?_; rintro e w1 ⟨rfl, ok⟩; replace K := K.trans ok.ok)
    | (go_at_call 31; refine (C.out _).mono ?_; rintro e w1 ⟨rfl, ok⟩; replace K := K.trans ok.ok)
    | (go_at_call 24; refine (M.out _).mono ?_; rintro e w1 ⟨rfl, rfl⟩))
  go_ret
  exact ⟨rfl, K⟩

set_option maxHeartbeats 4000000 in
theorem bounds_between' (s : Bool) (r : Nat) (hr : r < I) (hz : sv s r % (U : Int) ≠ 0) (e1 : W s (ti r) = W s (fl (!s) r)) (w : World) :
    Calls Try.prog 11 #[.int .u64 (W s r : Nat)] w fun e w' => e = .returned (.bool true) ∧ Ok w w' := by
  have K := Ok.refl w
  have hx := W_lt s (show r < G by rw [G_eq]; omega)
  have F := hid (implFloor (W s r) hx)
  rw [flW_fin s hr] at F
  have C := hid (implCeil (W s r) hx)
  rw [neg_fl s hr] at C
  have M := hid (implModf s r hr)
  have D := hid (Finite_any (W s r) hx)
  rw [finB_fin s hr] at D
  have f1 := fl_lt s hr
  have f2 := fl_lt (!s) hr
  have f3 : ti r < I := Nat.lt_of_le_of_lt (ti_le r) hr
  obtain ⟨g1, g2, g3⟩ := (ediv_facts (sv s r)).2.2.2 hz
  rw [← sv_fl s hr] at g1
  rw [← sv_neg_fl s hr] at g2
  rw [e1] at M
  have hs := run_sub_U s hr hz
  have b1 : (FloatKind.f64.format.order (W s (fl s r)) (W s r) == some .lt) = true := by rw [lt_fin f1 hr]; exact decide_eq_true (by omega)
  have b2 : (FloatKind.f64.format.order (W s r) (W s (fl (!s) r)) == some .lt) = true := by rw [lt_fin hr f2]; exact decide_eq_true (by omega)
  have b3 : (FloatKind.f64.format.order (W s (fl s r)) (W s (fl (!s) r)) == some .eq) = false := by rw [eqB_fin f1 f2]; exact decide_eq_false (by omega)
  have b4 : (FloatKind.f64.format.order (W s (fl (!s) r)) (W s r) == some .eq) = false := by rw [eqB_fin f2 hr]; exact decide_eq_false (by omega)
  have b5 : (FloatKind.f64.format.order (W s (fl (!s) r)) (W s (fl s r)) == some .eq) = false := by rw [eqB_fin f2 f1]; exact decide_eq_false (by omega)
  have b7 : (FloatKind.f64.format.order (W s (fl (!s) r)) (W s (fl (!s) r)) == some .eq) = true := by rw [eqB_fin f2 f2]; exact decide_eq_true rfl
  have b6 : (FloatKind.f64.format.order 4607182418800017408 4607182418800017408 == some .eq) = true := by decide
  clear g1 g2 g3 hz f1 f2 f3 hx hr e1
  go_enter Try.func11, Try.ntmps11
  go_wp2_with (first
    | (go_at_call 14; refine (Double_any _).mono ?_; rintro e w1 ⟨rfl, ok⟩; replace K := K.trans ok)
    | (go_at_call 23; refine (D.out _).mono ?_; rintro e w1 ⟨rfl, ok⟩; replace K := K.trans ok)
    | (go_at_call 29; refine (F.out _).mono ?_; rintro e w1 ⟨rfl, ok⟩; replace K := K.trans ok.ok)
    | (go_at_call 31; refine (C.out _).mono ?_; rintro e w1 ⟨rfl, ok⟩; replace K := K.trans ok.ok)
    | (go_at_call 24; refine (M.out _).mono ?_; rintro e w1 ⟨rfl, rfl⟩))
  go_ret
  exact ⟨rfl, K⟩

theorem law_FnFloorBounds (a0 : Int) (w0 : (Lit.int .u64 a0).wf = true) (w : World) :
    Calls Try.prog 11 #[.int .u64 a0] w fun e w' => e = .returned (.bool true) ∧ Grown w w' := by
  obtain ⟨x, rfl, hx⟩ := u64_nat w0
  have key : Calls Try.prog 11 #[.int .u64 x] w fun e w' => e = .returned (.bool true) ∧ Ok w w' := by
    cases h : finB x
    · exact bounds_inf x hx h w
    · obtain ⟨s, r, hr, rfl⟩ := fin_of hx h
      by_cases hz : sv s r % (U : Int) = 0
      · exact bounds_whole s r hr hz w
      · rcases ti_cases s r with e | e
        · exact bounds_between s r hr hz e w
        · exact bounds_between' s r hr hz e w
  exact key.mono fun e w' h => ⟨h.1, h.2.grown⟩

/-! ### The sum of the parts -/

theorem W_false (r : Nat) : W false r = r := rfl
theorem one_num : one = 4607182418800017408 := rfl

set_option maxHeartbeats 4000000 in
theorem sum_inf (x : Nat) (hx : x < 2 * G) (h : finB x = false) (w : World) :
    Calls Try.prog 12 #[.int .u64 x] w fun e w' => e = .returned (.bool true) ∧ Ok w w' := by
  have K := Ok.refl w
  go_enter Try.func12, Try.ntmps12
  go_wp2_with (first
    | (go_at_call 14; refine (Double_any _).mono ?_; rintro e w1 ⟨rfl, ok⟩; replace K := K.trans ok)
    | (go_at_call 23; refine (Finite_any _ (by assumption) _).mono ?_; rintro e w1 ⟨rfl, ok⟩; replace K := K.trans ok))
  go_ret
  exact ⟨rfl, K⟩

set_option maxHeartbeats 4000000 in
theorem sum_fin (s : Bool) (r : Nat) (hr : r < I) (w : World) :
    Calls Try.prog 12 #[.int .u64 (W s r : Nat)] w fun e w' => e = .returned (.bool true) ∧ Ok w w' := by
  have K := Ok.refl w
  have tok : True := trivial
  have hx := W_lt s (show r < G by rw [G_eq]; omega)
  have M := hid (implModf s r hr)
  have D := hid (Finite_any (W s r) hx)
  rw [finB_fin s hr] at D
  have f3 : ti r < I := Nat.lt_of_le_of_lt (ti_le r) hr
  have f4 : fr r < I := Nat.lt_of_le_of_lt (fr_le (by omega)) hr
  have hy := W_lt s (show ti r < G by rw [G_eq]; omega)
  have hv := W_lt s (show fr r < G by rw [G_eq]; omega)
  have h1 : 4607182418800017408 < 2 * G := by decide
  have A := hid (implAbs (W s (fr r)) hv)
  rw [mg_W s (show fr r < G by rw [G_eq]; omega)] at A
  have F := hid (implFloor (W s (ti r)) hy)
  rw [flW_fin s f3] at F
  have c1 : W (sgB (W s r)) (mg 4607182418800017408) = W s one := by
    rw [sgB_W s (show r < G by rw [G_eq]; omega)]; rfl
  have c2 : W (sgB (W s (ti r))) (mg 4607182418800017408) = W s one := by
    rw [sgB_W s (show ti r < G by rw [G_eq]; omega)]; rfl
  have C1 := hid (implCopysign 4607182418800017408 (W s r) h1 hx)
  rw [c1] at C1
  have C2 := hid (implCopysign 4607182418800017408 (W s (ti r)) h1 hy)
  rw [c2] at C2
  have hs := run_add_parts s hr
  have b1 : (FloatKind.f64.format.order (W s r) (W s r) == some .eq) = true := by rw [eqB_fin hr hr]; exact decide_eq_true rfl
  have b2 : (FloatKind.f64.format.order (fr r) 4607182418800017408 == some .lt) = true := by
    have h := lt_pos f4 one_lt
    rw [W_false, W_false, one_num] at h
    rw [h]
    apply decide_eq_true
    rw [← one_num]
    apply val_lt_iff.1
    rw [val_fr (by omega), val_one]
    exact Nat.mod_lt _ U_pos
  have b3 : (FloatKind.f64.format.order (W s (fl s (ti r))) (W s (ti r)) == some .eq) = true := by
    rw [eqB_fin (fl_lt s f3) f3]
    apply decide_eq_true
    rw [sv_fl s f3]
    have hz : sv s (ti r) % (U : Int) = 0 := by
      apply (sv_ti s (ti r)).1
      have : ti (ti r) = ti r := val_inj (by rw [val_ti (ti r), val_ti r, Nat.mul_div_cancel _ U_pos])
      rw [this]
    exact ((ediv_facts (sv s (ti r))).2.2.1 hz).1
  have b4 : (FloatKind.f64.format.order (W s one) (W s one) == some .eq) = true := by rw [eqB_fin one_lt one_lt]; exact decide_eq_true rfl
  clear hr hx f3 f4 hy hv h1 c1 c2
  go_enter Try.func12, Try.ntmps12
  go_wp2_with (first
    | (go_at_call 14; refine (Double_any _).mono ?_; rintro e w1 ⟨rfl, ok⟩; replace K := K.trans ok)
    | (go_at_call 23; refine (D.out _).mono ?_; rintro e w1 ⟨rfl, ok⟩; replace K := K.trans ok)
    | (go_at_call 24; refine (M.out _).mono ?_; rintro e w1 ⟨rfl, rfl⟩)
    | (go_at_call 16; refine (A.out _).mono ?_; rintro e w1 ⟨rfl, ok⟩; replace K := K.trans ok.ok)
    | (go_at_call 29; refine (F.out _).mono ?_; rintro e w1 ⟨rfl, ok⟩; replace K := K.trans ok.ok)
    | (go_at_call 18; have t := tok; clear tok; refine (C1.out _).mono ?_; rintro e w1 ⟨rfl, ok⟩; replace K := K.trans ok.ok)
    | (go_at_call 18; refine (C2.out _).mono ?_; rintro e w1 ⟨rfl, ok⟩; replace K := K.trans ok.ok))
  go_ret
  exact ⟨rfl, K⟩

theorem law_FnModfSum (a0 : Int) (w0 : (Lit.int .u64 a0).wf = true) (w : World) :
    Calls Try.prog 12 #[.int .u64 a0] w fun e w' => e = .returned (.bool true) ∧ Grown w w' := by
  obtain ⟨x, rfl, hx⟩ := u64_nat w0
  have key : Calls Try.prog 12 #[.int .u64 x] w fun e w' => e = .returned (.bool true) ∧ Ok w w' := by
    cases h : finB x
    · exact sum_inf x hx h w
    · obtain ⟨s, r, hr, rfl⟩ := fin_of hx h
      exact sum_fin s r hr w
  exact key.mono fun e w' h => ⟨h.1, h.2.grown⟩

end Go.Proofs.Ytpkhmjfbldoegaa

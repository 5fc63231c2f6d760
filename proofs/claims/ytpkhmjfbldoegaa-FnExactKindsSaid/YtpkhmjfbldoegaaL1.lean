/-
Three laws: signs, kinds, infinities.
-/
import Derived.Test.YtpkhmjfbldoegaaFe
import Derived.Test.YtpkhmjfbldoegaaFs
namespace Go.Proofs.Ytpkhmjfbldoegaa
open Go.RowKit Fl

theorem shl_shr (x : Nat) : IntKind.u64.wrap (↑x * 2) / 2 = ((mg x : Nat) : Int) := by
  have hG : (2 * G : Nat) = 18446744073709551616 := by decide
  have hG2 : (G : Nat) = 9223372036854775808 := by decide
  rw [IntKind.wrap_u64]; unfold mg
  rw [hG2]; omega

theorem shr_shl (y : Nat) (hy : y < 2 * G) : IntKind.u64.wrap (↑y / 9223372036854775808 * 9223372036854775808) = ((W (sgB y) 0 : Nat) : Int) := by
  have hG : (2 * G : Nat) = 18446744073709551616 := by decide
  have hG2 : (G : Nat) = 9223372036854775808 := by decide
  rw [IntKind.wrap_u64]; unfold W sgB
  by_cases h : G ≤ y
  · simp only [h, decide_true, if_true]; omega
  · simp only [h, decide_false, Bool.false_eq_true, if_false]; omega

theorem or_sign (b : Bool) (m : Nat) (hm : m < G) : bits .or .u64 ((m : Nat) : Int) ((W b 0 : Nat) : Int) = ((W b m : Nat) : Int) := by
  have hG : G < 2 * G := by decide
  rw [or_u64 (by omega) (by unfold W; split <;> omega)]
  congr 1
  unfold W
  cases b
  · simp
  · simp only [if_true, Nat.add_zero]
    rw [Nat.or_comm]
    rw [G_pow] at *
    exact (Nat.two_pow_add_eq_or_of_lt hm 1).symm ▸ by simp

set_option maxHeartbeats 1000000 in
theorem sign_walk (x y : Nat) (hx : x < 2 * G) (hy : y < 2 * G) (hnx : nanB x = false) (hny : nanB y = false) (w : World) :
    Calls Try.prog 3 #[.int .u64 x, .int .u64 y] w fun e w' => e = .returned (.bool true) ∧ Ok w w' := by
  have K := Ok.refl w
  have h1 : (((mg x : Nat) : Int) == IntKind.u64.wrap (↑x * 2) / 2) = true := by rw [shl_shr x]; simp
  have h2 : (((W (sgB y) (mg x) : Nat) : Int) == bits .or .u64 (IntKind.u64.wrap (↑x * 2) / 2) (IntKind.u64.wrap (↑y / 9223372036854775808 * 9223372036854775808))) = true := by
    rw [shl_shr x, shr_shl y hy, or_sign _ _ (mg_lt x)]; simp
  go_enter Try.func3, Try.ntmps3
  go_wp2_with (first
    | (go_at_call 14; refine (Double_any _).mono ?_; rintro e w1 ⟨rfl, ok⟩; replace K := K.trans ok)
    | (go_at_call 15; refine (IsNaN_any _ (by assumption) _).mono ?_; rintro e w1 ⟨rfl, ok⟩; replace K := K.trans ok)
    | (go_at_call 16; refine (implAbs _ (by assumption) _).mono ?_; rintro e w1 ⟨rfl, ok⟩; replace K := K.trans ok.ok)
    | (go_at_call 18; refine (implCopysign _ _ (by assumption) (by assumption) _).mono ?_; rintro e w1 ⟨rfl, ok⟩; replace K := K.trans ok.ok))
  go_ret
  exact ⟨rfl, K⟩

theorem one_fact : (FloatKind.f64.format.order (mg 13830554455654793216) 4607182418800017408 == some .eq) = true := by decide

set_option maxHeartbeats 1000000 in
theorem sign_walk1 (x y : Nat) (hx : x < 2 * G) (hnx : nanB x = true) (w : World) :
    Calls Try.prog 3 #[.int .u64 x, .int .u64 y] w fun e w' => e = .returned (.bool true) ∧ Ok w w' := by
  have K := Ok.refl w
  have h1 := one_fact
  have h3 : 13830554455654793216 < 2 * G := by decide
  go_enter Try.func3, Try.ntmps3
  go_wp2_with (first
    | (go_at_call 14; refine (Double_any _).mono ?_; rintro e w1 ⟨rfl, ok⟩; replace K := K.trans ok)
    | (go_at_call 15; refine (IsNaN_any _ (by assumption) _).mono ?_; rintro e w1 ⟨rfl, ok⟩; replace K := K.trans ok)
    | (go_at_call 16; refine (implAbs _ (by assumption) _).mono ?_; rintro e w1 ⟨rfl, ok⟩; replace K := K.trans ok.ok))
  go_ret
  exact ⟨rfl, K⟩

set_option maxHeartbeats 1000000 in
theorem sign_walk2 (x y : Nat) (hx : x < 2 * G) (hy : y < 2 * G) (hnx : nanB x = false) (hny : nanB y = true) (w : World) :
    Calls Try.prog 3 #[.int .u64 x, .int .u64 y] w fun e w' => e = .returned (.bool true) ∧ Ok w w' := by
  have K := Ok.refl w
  have h1 := one_fact
  have h3 : 13830554455654793216 < 2 * G := by decide
  go_enter Try.func3, Try.ntmps3
  go_wp2_with (first
    | (go_at_call 14; refine (Double_any _).mono ?_; rintro e w1 ⟨rfl, ok⟩; replace K := K.trans ok)
    | (go_at_call 15; refine (IsNaN_any _ (by assumption) _).mono ?_; rintro e w1 ⟨rfl, ok⟩; replace K := K.trans ok)
    | (go_at_call 16; refine (implAbs _ (by assumption) _).mono ?_; rintro e w1 ⟨rfl, ok⟩; replace K := K.trans ok.ok))
  go_ret
  exact ⟨rfl, K⟩

theorem law_FnExactSign (a0 a1 : Int) (w0 : (Lit.int .u64 a0).wf = true) (w1 : (Lit.int .u64 a1).wf = true) (w : World) :
    Calls Try.prog 3 #[.int .u64 a0, .int .u64 a1] w fun e w' => e = .returned (.bool true) ∧ Grown w w' := by
  obtain ⟨x, rfl, hx⟩ := u64_nat w0
  obtain ⟨y, rfl, hy⟩ := u64_nat w1
  have key : Calls Try.prog 3 #[.int .u64 x, .int .u64 y] w fun e w' => e = .returned (.bool true) ∧ Ok w w' := by
    cases h1 : nanB x
    · cases h2 : nanB y
      · exact sign_walk x y hx hy h1 h2 w
      · exact sign_walk2 x y hx hy h1 h2 w
    · exact sign_walk1 x y hx h1 w
  exact key.mono fun e w' h => ⟨h.1, h.2.grown⟩

/-! ### Infinities -/

theorem walk_zero : (FloatKind.f64.format.order (infOne 0) 0 == some .eq) = true := by decide

set_option maxHeartbeats 1000000 in
theorem infOne_nan (x : Nat) (hx : x < 2 * G) (hnx : nanB x = true) (w : World) :
    Calls Try.prog 6 #[.int .u64 x] w fun e w' => e = .returned (.bool true) ∧ Ok w w' := by
  have K := Ok.refl w
  have h1 := one_fact
  have h2 := walk_zero
  have h3 : 13830554455654793216 < 2 * G := by decide
  have h4 : 0 < 2 * G := by decide
  go_enter Try.func6, Try.ntmps6
  go_wp2_with (first
    | (go_at_call 14; refine (Double_any _).mono ?_; rintro e w1 ⟨rfl, ok⟩; replace K := K.trans ok)
    | (go_at_call 15; refine (IsNaN_any _ (by assumption) _).mono ?_; rintro e w2 ⟨rfl, ok⟩; replace K := (K.alloc _ _).trans ok)
    | (go_at_call 16; refine (implAbs _ (by assumption) _).mono ?_; rintro e w1 ⟨rfl, ok⟩; replace K := K.trans ok.ok)
    | (go_at_call 27; refine (implInf2One _ (by assumption) _).mono ?_; rintro e w1 ⟨rfl, ok⟩; replace K := K.trans ok.ok))
  go_ret
  exact ⟨rfl, K⟩

set_option maxHeartbeats 1000000 in
theorem infOne_fin (x : Nat) (hx : x < 2 * G) (hnx : nanB x = false) (hi : infB x = false) (w : World) :
    Calls Try.prog 6 #[.int .u64 x] w fun e w' => e = .returned (.bool true) ∧ Ok w w' := by
  have K := Ok.refl w
  have h1 : (((infOne x : Nat) : Int) == IntKind.u64.wrap (↑x / 9223372036854775808 * 9223372036854775808)) = true := by
    rw [shr_shl x hx]; unfold infOne; rw [hi]; simp
  go_enter Try.func6, Try.ntmps6
  go_wp2_with (first
    | (go_at_call 14; refine (Double_any _).mono ?_; rintro e w1 ⟨rfl, ok⟩; replace K := K.trans ok)
    | (go_at_call 15; refine (IsNaN_any _ (by assumption) _).mono ?_; rintro e w2 ⟨rfl, ok⟩; obtain ⟨c0, c1, c2, c3, c4, _⟩ := (Boxed.start w1).next ok; replace K := (K.alloc _ _).trans ok)
    | (go_at_call 21; refine (IsInf_any _ (by assumption) _).mono ?_; rintro e w3 ⟨rfl, ok⟩; replace K := K.trans ok)
    | (go_at_call 27; refine (implInf2One _ (by assumption) _).mono ?_; rintro e w4 ⟨rfl, ok⟩; replace K := K.trans ok.ok))
  go_ret
  exact ⟨rfl, K⟩

set_option maxHeartbeats 1000000 in
theorem infOne_inf (x : Nat) (hx : x < 2 * G) (hnx : nanB x = false) (hi : infB x = true) (w : World) :
    Calls Try.prog 6 #[.int .u64 x] w fun e w' => e = .returned (.bool true) ∧ Ok w w' := by
  have K := Ok.refl w
  have h1 : (((infOne x : Nat) : Int) == bits .or .u64 (IntKind.u64.wrap (↑x / 9223372036854775808 * 9223372036854775808)) 4607182418800017408) = true := by
    have e : (4607182418800017408 : Int) = ((4607182418800017408 : Nat) : Int) := rfl
    have hw : W (sgB x) 0 < 2 * G := by
      have : G < 2 * G := by decide
      unfold W; split <;> omega
    rw [shr_shl x hx, e, or_u64 hw (by decide), Nat.or_comm, ← or_u64 (by decide) hw, or_sign _ _ (by decide)]
    unfold infOne; rw [hi]; simp
  go_enter Try.func6, Try.ntmps6
  go_wp2_with (first
    | (go_at_call 14; refine (Double_any _).mono ?_; rintro e w1 ⟨rfl, ok⟩; replace K := K.trans ok)
    | (go_at_call 15; refine (IsNaN_any _ (by assumption) _).mono ?_; rintro e w2 ⟨rfl, ok⟩; obtain ⟨c0, c1, c2, c3, c4, _⟩ := (Boxed.start w1).next ok; replace K := (K.alloc _ _).trans ok)
    | (go_at_call 21; refine (IsInf_any _ (by assumption) _).mono ?_; rintro e w3 ⟨rfl, ok⟩; replace K := K.trans ok)
    | (go_at_call 27; refine (implInf2One _ (by assumption) _).mono ?_; rintro e w4 ⟨rfl, ok⟩; replace K := K.trans ok.ok))
  go_ret
  exact ⟨rfl, K⟩

theorem law_FnExactInfOne (a0 : Int) (w0 : (Lit.int .u64 a0).wf = true) (w : World) :
    Calls Try.prog 6 #[.int .u64 a0] w fun e w' => e = .returned (.bool true) ∧ Grown w w' := by
  obtain ⟨x, rfl, hx⟩ := u64_nat w0
  have key : Calls Try.prog 6 #[.int .u64 x] w fun e w' => e = .returned (.bool true) ∧ Ok w w' := by
    cases h1 : nanB x
    · cases h2 : infB x
      · exact infOne_fin x hx h1 h2 w
      · exact infOne_inf x hx h1 h2 w
    · exact infOne_nan x hx h1 w
  exact key.mono fun e w' h => ⟨h.1, h.2.grown⟩

/-! ### Kinds -/

set_option maxHeartbeats 4000000 in
theorem kinds_walk (x : Nat) (hx : x < 2 * G) (w : World) :
    Calls Try.prog 4 #[.int .u64 x] w fun e w' => e = .returned (.bool true) ∧ Ok w w' := by
  have K := Ok.refl w
  go_enter Try.func4, Try.ntmps4
  go_wp2_with (go_at_call 14; refine (Double_any _).mono ?_; rintro e w1 ⟨rfl, ok⟩; replace K := K.trans ok)
  go_region_held3 (fun w' => w'.cell? ⟨w1.heap.size, 0, none⟩ = some (.int .i64 53) ∧ w'.cell? ⟨w1.heap.size, 1, none⟩ = some (.int .i64 52) ∧ w'.cell? ⟨w1.heap.size, 2, none⟩ = some (.int .i64 (-1074)) ∧ w'.cell? ⟨w1.heap.size, 3, none⟩ = some (.int .u64 2047) ∧ w'.cell? ⟨w1.heap.size, 4, none⟩ = some (.int .u64 9223372036854775808) ∧ Ok w1 w')
    (first | exact (Boxed.start w1).drew | exact Boxed.next (w := w1) (k := w1.heap.size) ‹_ ∧ _› ‹Ok _ _› | exact Boxed.next (w := w1) (k := w1.heap.size) ‹_ ∧ _› (Drew.ok ‹Drew _ _›) | go_keep)
    (first
    | (go_at_call 19; refine (implIsNaN _ _).mono ?_; rintro e w2 ⟨rfl, rfl⟩)
    | (go_at_call 20; refine (implIsInf _ _).mono ?_; rintro e w2 ⟨rfl, dr⟩)
    | (go_at_call 22; refine (implIsFinite _ _).mono ?_; rintro e w2 ⟨rfl, dr⟩)
    | (go_at_call 15; refine (IsNaN_any _ (by assumption) _).mono ?_; rintro e w2 ⟨rfl, ok⟩)
    | (go_at_call 21; refine (IsInf_any _ (by assumption) _).mono ?_; rintro e w2 ⟨rfl, ok⟩)
    | (go_at_call 23; refine (Finite_any _ (by assumption) _).mono ?_; rintro e w2 ⟨rfl, ok⟩))
  go_wp2
  go_ret
  rename_i hh
  exact ⟨rfl, K.trans hh.2.2.2.2.2⟩

theorem law_FnExactKinds (a0 : Int) (w0 : (Lit.int .u64 a0).wf = true) (w : World) :
    Calls Try.prog 4 #[.int .u64 a0] w fun e w' => e = .returned (.bool true) ∧ Grown w w' := by
  obtain ⟨x, rfl, hx⟩ := u64_nat w0
  exact (kinds_walk x hx w).mono fun e w' h => ⟨h.1, h.2.grown⟩

end Go.Proofs.Ytpkhmjfbldoegaa

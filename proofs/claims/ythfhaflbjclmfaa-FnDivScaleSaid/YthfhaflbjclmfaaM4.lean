/-
The laws FnDivReal, FnDivImaginary, FnDivOne.
-/
import Derived.Test.YthfhaflbjclmfaaDt
import Derived.Test.YthfhaflbjclmfaaDf
namespace Go.Proofs.Ythfhaflbjclmfaa
open Go.RowKit Fl

theorem fin_of {x : Nat} (hx : x < 2 * G) (h : finB x = true) : ∃ s r, r < I ∧ x = W s r := by
  cases kind hx with
  | fin s r h e => exact ⟨s, r, h, e⟩
  | inf s e => exfalso; subst e; unfold finB infB at h; rw [read_inf] at h; simp [Ieee.Datum.isInfinity] at h
  | nan s f _ _ e hr => exfalso; unfold finB nanB at h; rw [hr] at h; simp [Ieee.Datum.isNaN] at h

theorem run_quo_of {a c u : Nat} (h : odiv (some a) (some c) = some u) (T : TypeId) (w : World) : (binOp .quo T (.float .f64 a) (.float .f64 c)).run Try.prog w = .ok (.float .f64 u) w :=
  run_float_arith w .quo T .f64 a c u h

set_option maxHeartbeats 8000000 in
theorem real_arg (a b c : Nat) (ha : a < 2 * G) (hb : b < 2 * G) (hc : c < 2 * G) (h : finB a = false ∨ (finB a = true ∧ finB b = false) ∨ (finB a = true ∧ finB b = true ∧ finB c = false) ∨ (finB a = true ∧ finB b = true ∧ finB c = true ∧ decide (mg c = 0) = true)) (w : World) :
    Calls Try.prog 8 #[.int .u64 a, .int .u64 b, .int .u64 c] w fun e w' => e = .returned (.bool true) ∧ Ok w w' := by
  have K := Ok.refl w
  have tokB : True := trivial
  rcases h with f1 | ⟨f1, f2⟩ | ⟨f1, f2, f3⟩ | ⟨f1, f2, f3, f4⟩
  all_goals
    go_enter Try.func8, Try.ntmps8
    go_wp2_with (first
      | (go_at_call 16; refine (Double_any _).mono ?_; rintro e w1 ⟨rfl, ok⟩; replace K := K.trans ok)
      | (go_at_call 17; have t := tokB; clear tokB; refine (Finite_any _ (by assumption) _).mono ?_; rintro e w1 ⟨rfl, ok⟩; obtain ⟨c0, c1, c2, c3, c4, kk⟩ := (Boxed.start _).next ok; replace K := K.trans kk; clear kk ok)
      | (go_at_call 17; refine (Finite_any _ (by assumption) _).mono ?_; rintro e w1 ⟨rfl, ok⟩; replace c0 := ok.cell c0; replace c1 := ok.cell c1; replace c2 := ok.cell c2; replace c3 := ok.cell c3; replace c4 := ok.cell c4; replace K := K.trans ok; clear ok)
      | (go_at_call 18; refine (IsZero_any _ (by assumption) _).mono ?_; rintro e w1 ⟨rfl, ok⟩; replace c0 := ok.cell c0; replace c1 := ok.cell c1; replace c2 := ok.cell c2; replace c3 := ok.cell c3; replace c4 := ok.cell c4; replace K := K.trans ok; clear ok))
    go_ret
    exact ⟨rfl, K⟩

set_option maxHeartbeats 8000000 in
theorem real_ok (a b c e f u v : Nat) (ha : a < 2 * G) (hb : b < 2 * G) (hc : c < 2 * G) (f1 : finB a = true) (f2 : finB b = true) (f3 : finB c = true) (f4 : decide (mg c = 0) = false)
    (h1 : dE a b c 0 = some e) (h2 : dF a b c 0 = some f) (h3 : odiv (some a) (some c) = some u) (h4 : odiv (some b) (some c) = some v)
    (h5 : (FloatKind.f64.format.order e u == some .eq) = true) (h6 : (FloatKind.f64.format.order f v == some .eq) = true) (w : World) :
    Calls Try.prog 8 #[.int .u64 a, .int .u64 b, .int .u64 c] w fun e w' => e = .returned (.bool true) ∧ Ok w w' := by
  have K := Ok.refl w
  have tokB : True := trivial
  have D := hid (implDiv a b c 0 ha hb hc (by decide))
  rw [h1, h2] at D
  have q1 := run_quo_of h3
  have q2 := run_quo_of h4
  clear h1 h2 h3 h4
  go_enter Try.func8, Try.ntmps8
  go_wp2_with (first
      | (go_at_call 16; refine (Double_any _).mono ?_; rintro e w1 ⟨rfl, ok⟩; replace K := K.trans ok)
      | (go_at_call 17; have t := tokB; clear tokB; refine (Finite_any _ (by assumption) _).mono ?_; rintro e w1 ⟨rfl, ok⟩; obtain ⟨c0, c1, c2, c3, c4, kk⟩ := (Boxed.start _).next ok; replace K := K.trans kk; clear kk ok)
      | (go_at_call 17; refine (Finite_any _ (by assumption) _).mono ?_; rintro e w1 ⟨rfl, ok⟩; replace c0 := ok.cell c0; replace c1 := ok.cell c1; replace c2 := ok.cell c2; replace c3 := ok.cell c3; replace c4 := ok.cell c4; replace K := K.trans ok; clear ok)
      | (go_at_call 18; refine (IsZero_any _ (by assumption) _).mono ?_; rintro e w1 ⟨rfl, ok⟩; replace c0 := ok.cell c0; replace c1 := ok.cell c1; replace c2 := ok.cell c2; replace c3 := ok.cell c3; replace c4 := ok.cell c4; replace K := K.trans ok; clear ok)
      | (go_at_call 12; refine (D.out _).mono ?_; rintro e w1 ⟨x1, y1, rfl, r1, s1, dr⟩; obtain rfl := r1.some_eq; obtain rfl := s1.some_eq; replace K := K.trans dr.ok)
      | (go_at_call 15; refine (implIsFinite _ _).mono ?_; rintro e w1 ⟨rfl, dr⟩; replace K := K.trans dr.ok))
  go_ret
  exact ⟨rfl, K⟩

theorem law_FnDivReal (a0 a1 a2 : Int) (w0 : (Lit.int .u64 a0).wf = true) (w1 : (Lit.int .u64 a1).wf = true) (w2 : (Lit.int .u64 a2).wf = true) (w : World) :
    Calls Try.prog 8 #[.int .u64 a0, .int .u64 a1, .int .u64 a2] w fun e w' => e = .returned (.bool true) ∧ Grown w w' := by
  obtain ⟨a, rfl, ha⟩ := u64_nat w0
  obtain ⟨b, rfl, hb⟩ := u64_nat w1
  obtain ⟨c, rfl, hc⟩ := u64_nat w2
  have key : Calls Try.prog 8 #[.int .u64 a, .int .u64 b, .int .u64 c] w fun e w' => e = .returned (.bool true) ∧ Ok w w' := by
    cases f1 : finB a
    · exact real_arg a b c ha hb hc (.inl f1) w
    · cases f2 : finB b
      · exact real_arg a b c ha hb hc (.inr (.inl ⟨f1, f2⟩)) w
      · cases f3 : finB c
        · exact real_arg a b c ha hb hc (.inr (.inr (.inl ⟨f1, f2, f3⟩))) w
        · cases f4 : decide (mg c = 0)
          · obtain ⟨sa, ra, ka, ea⟩ := fin_of ha f1
            obtain ⟨sb, rb, kb, eb⟩ := fin_of hb f2
            obtain ⟨s, r, kr, ec⟩ := fin_of hc f3
            have hz : r ≠ 0 := by
              intro h0; subst h0; subst ec
              rw [mg_W s (by decide)] at f4; simp at f4
            obtain ⟨z1, z2⟩ := real_parts sa sb s ka kb kr hz
            obtain ⟨u, _, hu⟩ := div_there sa s ka kr hz
            obtain ⟨v, _, hv⟩ := div_there sb s kb kr hz
            obtain ⟨e, f, h1, h2, h3, h4⟩ := parts_of' z1 z2 hu hv
            rw [← ea] at h1 h2 hu
            rw [← eb] at h1 h2 hv
            rw [← ec] at h1 h2 hu hv
            exact real_ok a b c e f _ _ ha hb hc f1 f2 f3 f4 h1 h2 hu hv h3 h4 w
          · exact real_arg a b c ha hb hc (.inr (.inr (.inr ⟨f1, f2, f3, f4⟩))) w
  exact key.mono fun e w' h => ⟨h.1, h.2.grown⟩

set_option maxHeartbeats 8000000 in
theorem imag_arg (a b c : Nat) (ha : a < 2 * G) (hb : b < 2 * G) (hc : c < 2 * G) (h : finB a = false ∨ (finB a = true ∧ finB b = false) ∨ (finB a = true ∧ finB b = true ∧ finB c = false) ∨ (finB a = true ∧ finB b = true ∧ finB c = true ∧ decide (mg c = 0) = true)) (w : World) :
    Calls Try.prog 5 #[.int .u64 a, .int .u64 b, .int .u64 c] w fun e w' => e = .returned (.bool true) ∧ Ok w w' := by
  have K := Ok.refl w
  have tokB : True := trivial
  rcases h with f1 | ⟨f1, f2⟩ | ⟨f1, f2, f3⟩ | ⟨f1, f2, f3, f4⟩
  all_goals
    go_enter Try.func5, Try.ntmps5
    go_wp2_with (first
      | (go_at_call 16; refine (Double_any _).mono ?_; rintro e w1 ⟨rfl, ok⟩; replace K := K.trans ok)
      | (go_at_call 17; have t := tokB; clear tokB; refine (Finite_any _ (by assumption) _).mono ?_; rintro e w1 ⟨rfl, ok⟩; obtain ⟨c0, c1, c2, c3, c4, kk⟩ := (Boxed.start _).next ok; replace K := K.trans kk; clear kk ok)
      | (go_at_call 17; refine (Finite_any _ (by assumption) _).mono ?_; rintro e w1 ⟨rfl, ok⟩; replace c0 := ok.cell c0; replace c1 := ok.cell c1; replace c2 := ok.cell c2; replace c3 := ok.cell c3; replace c4 := ok.cell c4; replace K := K.trans ok; clear ok)
      | (go_at_call 18; refine (IsZero_any _ (by assumption) _).mono ?_; rintro e w1 ⟨rfl, ok⟩; replace c0 := ok.cell c0; replace c1 := ok.cell c1; replace c2 := ok.cell c2; replace c3 := ok.cell c3; replace c4 := ok.cell c4; replace K := K.trans ok; clear ok))
    go_ret
    exact ⟨rfl, K⟩

set_option maxHeartbeats 8000000 in
theorem imag_ok (a b c e f u v : Nat) (ha : a < 2 * G) (hb : b < 2 * G) (hc : c < 2 * G) (f1 : finB a = true) (f2 : finB b = true) (f3 : finB c = true) (f4 : decide (mg c = 0) = false)
    (h1 : dE a b 0 c = some e) (h2 : dF a b 0 c = some f) (h3 : odiv (some b) (some c) = some u) (h4 : odiv (some (opp a)) (some c) = some v)
    (h5 : (FloatKind.f64.format.order e u == some .eq) = true) (h6 : (FloatKind.f64.format.order f v == some .eq) = true) (w : World) :
    Calls Try.prog 5 #[.int .u64 a, .int .u64 b, .int .u64 c] w fun e w' => e = .returned (.bool true) ∧ Ok w w' := by
  have K := Ok.refl w
  have tokB : True := trivial
  have D := hid (implDiv a b 0 c ha hb (by decide) hc)
  rw [h1, h2] at D
  have q1 := run_quo_of h3
  have q2 := run_quo_of h4
  clear h1 h2 h3 h4
  go_enter Try.func5, Try.ntmps5
  go_wp2_with (first
      | (go_at_call 16; refine (Double_any _).mono ?_; rintro e w1 ⟨rfl, ok⟩; replace K := K.trans ok)
      | (go_at_call 17; have t := tokB; clear tokB; refine (Finite_any _ (by assumption) _).mono ?_; rintro e w1 ⟨rfl, ok⟩; obtain ⟨c0, c1, c2, c3, c4, kk⟩ := (Boxed.start _).next ok; replace K := K.trans kk; clear kk ok)
      | (go_at_call 17; refine (Finite_any _ (by assumption) _).mono ?_; rintro e w1 ⟨rfl, ok⟩; replace c0 := ok.cell c0; replace c1 := ok.cell c1; replace c2 := ok.cell c2; replace c3 := ok.cell c3; replace c4 := ok.cell c4; replace K := K.trans ok; clear ok)
      | (go_at_call 18; refine (IsZero_any _ (by assumption) _).mono ?_; rintro e w1 ⟨rfl, ok⟩; replace c0 := ok.cell c0; replace c1 := ok.cell c1; replace c2 := ok.cell c2; replace c3 := ok.cell c3; replace c4 := ok.cell c4; replace K := K.trans ok; clear ok)
      | (go_at_call 12; refine (D.out _).mono ?_; rintro e w1 ⟨x1, y1, rfl, r1, s1, dr⟩; obtain rfl := r1.some_eq; obtain rfl := s1.some_eq; replace K := K.trans dr.ok)
      | (go_at_call 15; refine (implIsFinite _ _).mono ?_; rintro e w1 ⟨rfl, dr⟩; replace K := K.trans dr.ok))
  go_ret
  exact ⟨rfl, K⟩

theorem law_FnDivImaginary (a0 a1 a2 : Int) (w0 : (Lit.int .u64 a0).wf = true) (w1 : (Lit.int .u64 a1).wf = true) (w2 : (Lit.int .u64 a2).wf = true) (w : World) :
    Calls Try.prog 5 #[.int .u64 a0, .int .u64 a1, .int .u64 a2] w fun e w' => e = .returned (.bool true) ∧ Grown w w' := by
  obtain ⟨a, rfl, ha⟩ := u64_nat w0
  obtain ⟨b, rfl, hb⟩ := u64_nat w1
  obtain ⟨c, rfl, hc⟩ := u64_nat w2
  have key : Calls Try.prog 5 #[.int .u64 a, .int .u64 b, .int .u64 c] w fun e w' => e = .returned (.bool true) ∧ Ok w w' := by
    cases f1 : finB a
    · exact imag_arg a b c ha hb hc (.inl f1) w
    · cases f2 : finB b
      · exact imag_arg a b c ha hb hc (.inr (.inl ⟨f1, f2⟩)) w
      · cases f3 : finB c
        · exact imag_arg a b c ha hb hc (.inr (.inr (.inl ⟨f1, f2, f3⟩))) w
        · cases f4 : decide (mg c = 0)
          · obtain ⟨sa, ra, ka, ea⟩ := fin_of ha f1
            obtain ⟨sb, rb, kb, eb⟩ := fin_of hb f2
            obtain ⟨s, r, kr, ec⟩ := fin_of hc f3
            have hz : r ≠ 0 := by
              intro h0; subst h0; subst ec
              rw [mg_W s (by decide)] at f4; simp at f4
            obtain ⟨z1, z2⟩ := imag_parts sa sb s ka kb kr hz
            obtain ⟨u, _, hu⟩ := div_there sb s kb kr hz
            have eo : opp (W sa ra) = W (!sa) ra := opp_W sa (by rw [G_eq]; omega)
            obtain ⟨v, _, hv⟩ := div_there (!sa) s ka kr hz
            rw [← eo] at hv
            obtain ⟨e, f, h1, h2, h3, h4⟩ := parts_of' z1 z2 hu hv
            rw [← ea] at h1 h2 hv
            rw [← eb] at h1 h2 hu
            rw [← ec] at h1 h2 hu hv
            exact imag_ok a b c e f _ _ ha hb hc f1 f2 f3 f4 h1 h2 hu hv h3 h4 w
          · exact imag_arg a b c ha hb hc (.inr (.inr (.inr ⟨f1, f2, f3, f4⟩))) w
  exact key.mono fun e w' h => ⟨h.1, h.2.grown⟩

/-! ### By 1 -/

set_option maxHeartbeats 8000000 in
theorem one_arg (a b : Nat) (ha : a < 2 * G) (hb : b < 2 * G) (h : finB a = false ∨ (finB a = true ∧ finB b = false)) (w : World) :
    Calls Try.prog 7 #[.int .u64 a, .int .u64 b] w fun e w' => e = .returned (.bool true) ∧ Ok w w' := by
  have K := Ok.refl w
  have tokB : True := trivial
  rcases h with f1 | ⟨f1, f2⟩
  all_goals
    go_enter Try.func7, Try.ntmps7
    go_wp2_with (first
      | (go_at_call 16; refine (Double_any _).mono ?_; rintro e w1 ⟨rfl, ok⟩; replace K := K.trans ok)
      | (go_at_call 17; have t := tokB; clear tokB; refine (Finite_any _ (by assumption) _).mono ?_; rintro e w1 ⟨rfl, ok⟩; obtain ⟨c0, c1, c2, c3, c4, kk⟩ := (Boxed.start _).next ok; replace K := K.trans kk; clear kk ok)
      | (go_at_call 17; refine (Finite_any _ (by assumption) _).mono ?_; rintro e w1 ⟨rfl, ok⟩; replace c0 := ok.cell c0; replace c1 := ok.cell c1; replace c2 := ok.cell c2; replace c3 := ok.cell c3; replace c4 := ok.cell c4; replace K := K.trans ok; clear ok)
      | (go_at_call 18; refine (IsZero_any _ (by assumption) _).mono ?_; rintro e w1 ⟨rfl, ok⟩; replace c0 := ok.cell c0; replace c1 := ok.cell c1; replace c2 := ok.cell c2; replace c3 := ok.cell c3; replace c4 := ok.cell c4; replace K := K.trans ok; clear ok))
    go_ret
    exact ⟨rfl, K⟩

set_option maxHeartbeats 8000000 in
theorem one_ok (a b e f : Nat) (ha : a < 2 * G) (hb : b < 2 * G) (f1 : finB a = true) (f2 : finB b = true)
    (h1 : dE a b 4607182418800017408 0 = some e) (h2 : dF a b 4607182418800017408 0 = some f)
    (h5 : (FloatKind.f64.format.order e a == some .eq) = true) (h6 : (FloatKind.f64.format.order f b == some .eq) = true) (w : World) :
    Calls Try.prog 7 #[.int .u64 a, .int .u64 b] w fun e w' => e = .returned (.bool true) ∧ Ok w w' := by
  have K := Ok.refl w
  have tokB : True := trivial
  have D := hid (implDiv a b 4607182418800017408 0 ha hb (by decide) (by decide))
  rw [h1, h2] at D
  clear h1 h2
  go_enter Try.func7, Try.ntmps7
  go_wp2_with (first
      | (go_at_call 16; refine (Double_any _).mono ?_; rintro e w1 ⟨rfl, ok⟩; replace K := K.trans ok)
      | (go_at_call 17; have t := tokB; clear tokB; refine (Finite_any _ (by assumption) _).mono ?_; rintro e w1 ⟨rfl, ok⟩; obtain ⟨c0, c1, c2, c3, c4, kk⟩ := (Boxed.start _).next ok; replace K := K.trans kk; clear kk ok)
      | (go_at_call 17; refine (Finite_any _ (by assumption) _).mono ?_; rintro e w1 ⟨rfl, ok⟩; replace c0 := ok.cell c0; replace c1 := ok.cell c1; replace c2 := ok.cell c2; replace c3 := ok.cell c3; replace c4 := ok.cell c4; replace K := K.trans ok; clear ok)
      | (go_at_call 18; refine (IsZero_any _ (by assumption) _).mono ?_; rintro e w1 ⟨rfl, ok⟩; replace c0 := ok.cell c0; replace c1 := ok.cell c1; replace c2 := ok.cell c2; replace c3 := ok.cell c3; replace c4 := ok.cell c4; replace K := K.trans ok; clear ok)
      | (go_at_call 12; refine (D.out _).mono ?_; rintro e w1 ⟨x1, y1, rfl, r1, s1, dr⟩; obtain rfl := r1.some_eq; obtain rfl := s1.some_eq; replace K := K.trans dr.ok)
      | (go_at_call 15; refine (implIsFinite _ _).mono ?_; rintro e w1 ⟨rfl, dr⟩; replace K := K.trans dr.ok))
  go_ret
  exact ⟨rfl, K⟩

theorem law_FnDivOne (a0 a1 : Int) (w0 : (Lit.int .u64 a0).wf = true) (w1 : (Lit.int .u64 a1).wf = true) (w : World) :
    Calls Try.prog 7 #[.int .u64 a0, .int .u64 a1] w fun e w' => e = .returned (.bool true) ∧ Grown w w' := by
  obtain ⟨a, rfl, ha⟩ := u64_nat w0
  obtain ⟨b, rfl, hb⟩ := u64_nat w1
  have key : Calls Try.prog 7 #[.int .u64 a, .int .u64 b] w fun e w' => e = .returned (.bool true) ∧ Ok w w' := by
    cases f1 : finB a
    · exact one_arg a b ha hb (.inl f1) w
    · cases f2 : finB b
      · exact one_arg a b ha hb (.inr ⟨f1, f2⟩) w
      · obtain ⟨sa, ra, ka, ea⟩ := fin_of ha f1
        obtain ⟨sb, rb, kb, eb⟩ := fin_of hb f2
        obtain ⟨z1, z2⟩ := real_parts sa sb false ka kb (r := 4607182418800017408) (by decide) (by decide)
        have w1 : W false 4607182418800017408 = 4607182418800017408 := rfl
        rw [w1] at z1 z2
        obtain ⟨e, f, h1, h2, h3, h4⟩ := parts_of' z1 z2 (div_one sa ka) (div_one sb kb)
        rw [← ea] at h1 h2 h3
        rw [← eb] at h1 h2 h4
        exact one_ok a b e f ha hb f1 f2 h1 h2 h3 h4 w
  exact key.mono fun e w' h => ⟨h.1, h.2.grown⟩

end Go.Proofs.Ythfhaflbjclmfaa

/-
The law FnDivInfinite.
-/
import Derived.Test.YthfhaflbjclmfaaM4
namespace Go.Proofs.Ythfhaflbjclmfaa
open Go.RowKit Fl

set_option maxHeartbeats 400000 in
theorem mathInf (w : World) : Calls Try.prog 20 #[.int .i64 1] w fun e w' => e = .returned (.float .f64 9218868437227405312) ∧ w = w' := by
  go_enter Try.func20, Try.ntmps20
  go_wp2
  go_ret
  exact ⟨rfl, rfl⟩

set_option maxHeartbeats 400000 in
theorem pkgIsInf (x : Nat) (w : World) : Calls Try.prog 28 #[.float .f64 x] w fun e w' => e = .returned (.bool (infB x)) ∧ Drew w w' := by
  have H := hid (isInf_any x)
  go_enter Try.func28, Try.ntmps28
  go_wp2_with (go_at_call 32; refine (H.out _).mono ?_; rintro e w' ⟨rfl, n, rfl⟩)
  go_ret
  exact ⟨rfl, n, rfl⟩
set_option maxHeartbeats 400000 in
theorem implIsInf (x : Nat) (w : World) : Calls Try.prog 21 #[.float .f64 x] w fun e w' => e = .returned (.bool (infB x)) ∧ Drew w w' := by
  have H := hid (pkgIsInf x)
  go_enter Try.func21, Try.ntmps21
  go_wp2_with (go_at_call 28; refine (H.out _).mono ?_; rintro e w' ⟨rfl, n, rfl⟩)
  go_ret
  exact ⟨rfl, n, rfl⟩
set_option maxHeartbeats 400000 in
theorem pkgIsNaN (x : Nat) (w : World) : Calls Try.prog 29 #[.float .f64 x] w fun e w' => e = .returned (.bool (nanB x)) ∧ w = w' := by
  have H := hid (isNaN_any x)
  go_enter Try.func29, Try.ntmps29
  go_wp2_with (go_at_call 33; refine (H.out _).mono ?_; rintro e w' ⟨rfl, rfl⟩)
  go_ret
  exact ⟨rfl, rfl⟩
set_option maxHeartbeats 400000 in
theorem implIsNaN (x : Nat) (w : World) : Calls Try.prog 22 #[.float .f64 x] w fun e w' => e = .returned (.bool (nanB x)) ∧ w = w' := by
  have H := hid (pkgIsNaN x)
  go_enter Try.func22, Try.ntmps22
  go_wp2_with (go_at_call 29; refine (H.out _).mono ?_; rintro e w' ⟨rfl, rfl⟩)
  go_ret
  exact ⟨rfl, rfl⟩

/-! ### What the quotients are -/

/-- A finite number or a zero beside it, by an infinity: a zero. -/
theorem zr_by_inf {o : Option Nat} {s t : Bool} {r : Nat} (hr : r < I) (h : ZR o (some (W s r))) : ∃ u, odiv o (some (W t I)) = some (W u 0) := by
  rcases h with rfl | ⟨s', t', rfl, _⟩
  · exact ⟨_, div_inf s t hr⟩
  · exact ⟨_, div_inf s' t (by decide)⟩

section
variable (sa sb s : Bool) {ra rb r : Nat} (ha : ra < I) (hb : rb < I) (hr : r < I)
include ha hb hr in
theorem by_inf : ∃ u v, dE (W sa ra) (W sb rb) 9218868437227405312 (W s r) = some (W u 0) ∧ dF (W sa ra) (W sb rb) 9218868437227405312 (W s r) = some (W v 0) := by
  have eI : (9218868437227405312 : Nat) = W false I := rfl
  rw [eI]
  have hg := (geB_inf false s hr).1
  have r0 : odiv (some (W s r)) (some (W false I)) = some (W (s ^^ false) 0) := div_inf s false hr
  have r1 : omul (some (W (s ^^ false) 0)) (some (W s r)) = some (W ((s ^^ false) ^^ s) 0) := mul_zero_l s (s ^^ false) hr
  have e1 : oopp (some (W (sa ^^ (s ^^ false)) 0)) = some (W (!(sa ^^ (s ^^ false))) 0) := by
    show some (opp _) = _; rw [opp_W _ (by decide)]
  have qe : ∃ u, qE (W sa ra) (W sb rb) (W false I) (W s r) = some (W u 0) := by
    unfold qE
    rw [if_pos hg, r0, r1, inf_add false _ (by decide), mul_zero_r sb _ hb]
    exact zr_by_inf ha (add_zr sa _ ha)
  have qf : ∃ u, qF (W sa ra) (W sb rb) (W false I) (W s r) = some (W u 0) := by
    unfold qF
    rw [if_pos hg, r0, r1, inf_add false _ (by decide), mul_zero_r sa _ ha, osub_eq (Lt.some (W_lt2 _ (by decide))), e1]
    exact zr_by_inf hb (add_zr sb _ hb)
  obtain ⟨u, hu⟩ := qe
  obtain ⟨v, hv⟩ := qf
  obtain ⟨m1, m2⟩ := main_back hu
  exact ⟨u, v, m1.trans hu, m2.trans hv⟩

include ha hb hr in
theorem by_minus_inf : ∃ u v, dE (W sa ra) (W sb rb) (W s r) (opp 9218868437227405312) = some (W u 0) ∧ dF (W sa ra) (W sb rb) (W s r) (opp 9218868437227405312) = some (W v 0) := by
  have eI : opp 9218868437227405312 = W true I := by
    show opp (W false I) = _; rw [opp_W _ (by decide), Bool.not_false]
  rw [eI]
  have hg := (geB_inf true s hr).2
  have hG : ra < G := by rw [G_eq]; omega
  have r0 : odiv (some (W s r)) (some (W true I)) = some (W (s ^^ true) 0) := div_inf s true hr
  have r1 : omul (some (W (s ^^ true) 0)) (some (W s r)) = some (W ((s ^^ true) ^^ s) 0) := mul_zero_l s (s ^^ true) hr
  have e1 : oopp (some (W sa ra)) = some (W (!sa) ra) := by
    show some (opp _) = _; rw [opp_W _ hG]
  have qe : ∃ u, qE (W sa ra) (W sb rb) (W s r) (W true I) = some (W u 0) := by
    unfold qE
    rw [hg]
    simp only [Bool.false_eq_true, if_false]
    rw [r0, r1, inf_add true _ (by decide), mul_zero_r sa _ ha]
    exact zr_by_inf hb (add_zl sb _ hb)
  have qf : ∃ u, qF (W sa ra) (W sb rb) (W s r) (W true I) = some (W u 0) := by
    unfold qF
    rw [hg]
    simp only [Bool.false_eq_true, if_false]
    rw [r0, r1, inf_add true _ (by decide), mul_zero_r sb _ hb, osub_eq (Lt.some (W_lt2 _ hG)), e1]
    exact zr_by_inf ha (add_zl _ _ ha)
  obtain ⟨u, hu⟩ := qe
  obtain ⟨v, hv⟩ := qf
  obtain ⟨m1, m2⟩ := main_back hu
  exact ⟨u, v, m1.trans hu, m2.trans hv⟩
end

/-- An infinity times a finite number. -/
theorem inf_mul (s : Bool) {r : Nat} (h : r < I) : omul (some (W false I)) (some (W s r)) = if r = 0 then none else some (W s I) := by
  show Ieee.double.mul (W false I) (W s r) = _
  unfold Ieee.Format.mul
  rw [read_inf, read_fin h]
  simp only [Ieee.Datum.product]
  by_cases hz : r = 0
  · rw [if_pos hz]; subst hz; rfl
  · rw [if_neg hz, if_neg (mant_pos hz)]
    simp only [Option.map_some, Ieee.Format.write, word_eq, inf_eq, Bool.false_xor]

/-- By 0. -/
theorem by_zero (sa sb : Bool) {ra rb : Nat} (ha : ra < I) (hb : rb < I) : dE (W sa ra) (W sb rb) 0 0 = (if ra = 0 then none else some (W sa I)) ∧ dF (W sa ra) (W sb rb) 0 0 = (if rb = 0 then none else some (W sb I)) := by
  have hg : geB 0 0 = true := by decide
  have h0 : odiv (some 0) (some 0) = none := by decide
  have m0 : ∀ o, omul o (none : Option Nat) = none := fun o => by cases o <;> rfl
  have m1 : ∀ o, omul (none : Option Nat) o = none := fun o => rfl
  have a0 : ∀ o, oadd o (none : Option Nat) = none := fun o => by cases o <;> rfl
  have s0 : ∀ o, osub o (none : Option Nat) = none := fun o => by cases o <;> rfl
  have qe : qE (W sa ra) (W sb rb) 0 0 = none := by unfold qE; rw [if_pos hg, h0, m0, m1, a0]; rfl
  have qf : qF (W sa ra) (W sb rb) 0 0 = none := by unfold qF; rw [if_pos hg, h0, m0, m1, s0]; rfl
  have hk : k1 (W sa ra) (W sb rb) 0 0 = true := by
    have z : zB 0 0 = true := by decide
    unfold k1; rw [z, nanB_fin ha]; rfl
  have hs : sInf 0 = W false I := rfl
  unfold dE dF
  rw [qe, qf, hk, hs]
  exact ⟨inf_mul sa ha, inf_mul sb hb⟩

theorem zero_ne (s : Bool) : (FloatKind.f64.format.order (W s 0) 0 != some .eq) = false := by cases s <;> decide
theorem eq_zero {s : Bool} {r : Nat} (h : r < I) : (FloatKind.f64.format.order (W s r) 0 == some .eq) = decide (r = 0) := by
  show (Ieee.double.order (W s r) (W false 0) == some .eq) = _
  rw [order_fin h (by decide), sv_zero]
  by_cases hz : r = 0
  · rw [decide_eq_true hz, Int.compare_eq_eq.2 (sv_eq_zero.2 hz)]; rfl
  · rw [decide_eq_false hz]
    cases hc : compare (sv s r) 0 with
    | lt => rfl
    | eq => exact absurd (sv_eq_zero.1 (Int.compare_eq_eq.1 hc)) hz
    | gt => rfl
theorem infB_inf (s : Bool) : infB (W s I) = true := by unfold infB; rw [read_inf]; rfl
theorem nanB_inf (s : Bool) : nanB (W s I) = false := by unfold nanB; rw [read_inf]; rfl
theorem infB_none {x : Nat} (h : Rep x none) : infB x = false := by
  have h1 := nan_inf x
  rw [h.nan] at h1
  simpa using h1

/-! ### The walks -/

set_option maxHeartbeats 8000000 in
theorem infin_arg (a b c : Nat) (side : Bool) (ha : a < 2 * G) (hb : b < 2 * G) (hc : c < 2 * G) (h : finB a = false ∨ (finB a = true ∧ finB b = false) ∨ (finB a = true ∧ finB b = true ∧ finB c = false)) (w : World) :
    Calls Try.prog 10 #[.int .u64 a, .int .u64 b, .int .u64 c, .bool side] w fun e w' => e = .returned (.bool true) ∧ Ok w w' := by
  have K := Ok.refl w
  have tokB : True := trivial
  rcases h with f1 | ⟨f1, f2⟩ | ⟨f1, f2, f3⟩
  all_goals
    go_enter Try.func10, Try.ntmps10
    go_wp2_with (first
      | (go_at_call 16; refine (Double_any _).mono ?_; rintro e w1 ⟨rfl, ok⟩; replace K := K.trans ok)
      | (go_at_call 17; have t := tokB; clear tokB; refine (Finite_any _ (by assumption) _).mono ?_; rintro e w1 ⟨rfl, ok⟩; obtain ⟨c0, c1, c2, c3, c4, kk⟩ := (Boxed.start _).next ok; replace K := K.trans kk; clear kk ok)
      | (go_at_call 17; refine (Finite_any _ (by assumption) _).mono ?_; rintro e w1 ⟨rfl, ok⟩; replace c0 := ok.cell c0; replace c1 := ok.cell c1; replace c2 := ok.cell c2; replace c3 := ok.cell c3; replace c4 := ok.cell c4; replace K := K.trans ok; clear ok))
    go_ret
    exact ⟨rfl, K⟩

set_option maxHeartbeats 8000000 in
theorem infin_00 (a b c : Nat) (side sa sb u1 v1 u2 v2 : Bool) (ha : a < 2 * G) (hb : b < 2 * G) (hc : c < 2 * G) (f1 : finB a = true) (f2 : finB b = true) (f3 : finB c = true)
    (h1 : dE a b 9218868437227405312 c = some (W u1 0)) (h2 : dF a b 9218868437227405312 c = some (W v1 0)) (h3 : dE a b c (opp 9218868437227405312) = some (W u2 0)) (h4 : dF a b c (opp 9218868437227405312) = some (W v2 0))
    (z1 : (FloatKind.f64.format.order a 0 == some .eq) = true) (z2 : (FloatKind.f64.format.order b 0 == some .eq) = true) (w : World) :
    Calls Try.prog 10 #[.int .u64 a, .int .u64 b, .int .u64 c, .bool side] w fun e w' => e = .returned (.bool true) ∧ Ok w w' := by
  have K := Ok.refl w
  have tokB : True := trivial
  have tok1 : True := trivial
  have D1 := hid (implDiv a b 9218868437227405312 c ha hb (by decide) hc)
  rw [h1, h2] at D1
  have D2 := hid (implDiv a b c (opp 9218868437227405312) ha hb hc (by decide))
  rw [h3, h4] at D2
  have g1 := zero_ne u1
  have g2 := zero_ne v1
  have g3 := zero_ne u2
  have g4 := zero_ne v2
  have g5 := infB_inf sa
  have g6 := infB_inf sb
  have g7 := nanB_inf sa
  have g8 := nanB_inf sb
  clear h1 h2 h3 h4
  cases side
  · go_enter Try.func10, Try.ntmps10
    go_wp2_with (first
      | (go_at_call 16; refine (Double_any _).mono ?_; rintro e w1 ⟨rfl, ok⟩; replace K := K.trans ok)
      | (go_at_call 17; have t := tokB; clear tokB; refine (Finite_any _ (by assumption) _).mono ?_; rintro e w1 ⟨rfl, ok⟩; obtain ⟨c0, c1, c2, c3, c4, kk⟩ := (Boxed.start _).next ok; replace K := K.trans kk; clear kk ok)
      | (go_at_call 17; refine (Finite_any _ (by assumption) _).mono ?_; rintro e w1 ⟨rfl, ok⟩; replace c0 := ok.cell c0; replace c1 := ok.cell c1; replace c2 := ok.cell c2; replace c3 := ok.cell c3; replace c4 := ok.cell c4; replace K := K.trans ok; clear ok)
      | (go_at_call 20; refine (mathInf _).mono ?_; rintro e w1 ⟨rfl, rfl⟩)
      | (go_at_call 12; have t := tok1; clear tok1; refine (D1.out _).mono ?_; rintro e w1 ⟨x1, y1, rfl, r1, s1, dr⟩; obtain rfl := r1.some_eq; obtain rfl := s1.some_eq; replace K := K.trans dr.ok)
      | (go_at_call 12; have t := tok2; clear tok2; refine (D2.out _).mono ?_; rintro e w1 ⟨x1, y1, rfl, r1, s1, dr⟩; obtain rfl := r1.some_eq; obtain rfl := s1.some_eq; replace K := K.trans dr.ok)
      | (go_at_call 15; refine (implIsFinite _ _).mono ?_; rintro e w1 ⟨rfl, dr⟩; replace K := K.trans dr.ok)
      | (go_at_call 21; refine (implIsInf _ _).mono ?_; rintro e w1 ⟨rfl, dr⟩; replace K := K.trans dr.ok)
      | (go_at_call 22; refine (implIsNaN _ _).mono ?_; rintro e w1 ⟨rfl, rfl⟩))
    go_ret
    exact ⟨rfl, K⟩
  · have tok2 : True := trivial
    go_enter Try.func10, Try.ntmps10
    go_wp2_with (first
      | (go_at_call 16; refine (Double_any _).mono ?_; rintro e w1 ⟨rfl, ok⟩; replace K := K.trans ok)
      | (go_at_call 17; have t := tokB; clear tokB; refine (Finite_any _ (by assumption) _).mono ?_; rintro e w1 ⟨rfl, ok⟩; obtain ⟨c0, c1, c2, c3, c4, kk⟩ := (Boxed.start _).next ok; replace K := K.trans kk; clear kk ok)
      | (go_at_call 17; refine (Finite_any _ (by assumption) _).mono ?_; rintro e w1 ⟨rfl, ok⟩; replace c0 := ok.cell c0; replace c1 := ok.cell c1; replace c2 := ok.cell c2; replace c3 := ok.cell c3; replace c4 := ok.cell c4; replace K := K.trans ok; clear ok)
      | (go_at_call 20; refine (mathInf _).mono ?_; rintro e w1 ⟨rfl, rfl⟩)
      | (go_at_call 12; have t := tok1; clear tok1; refine (D1.out _).mono ?_; rintro e w1 ⟨x1, y1, rfl, r1, s1, dr⟩; obtain rfl := r1.some_eq; obtain rfl := s1.some_eq; replace K := K.trans dr.ok)
      | (go_at_call 12; have t := tok2; clear tok2; refine (D2.out _).mono ?_; rintro e w1 ⟨x1, y1, rfl, r1, s1, dr⟩; obtain rfl := r1.some_eq; obtain rfl := s1.some_eq; replace K := K.trans dr.ok)
      | (go_at_call 15; refine (implIsFinite _ _).mono ?_; rintro e w1 ⟨rfl, dr⟩; replace K := K.trans dr.ok)
      | (go_at_call 21; refine (implIsInf _ _).mono ?_; rintro e w1 ⟨rfl, dr⟩; replace K := K.trans dr.ok)
      | (go_at_call 22; refine (implIsNaN _ _).mono ?_; rintro e w1 ⟨rfl, rfl⟩))
    go_ret
    exact ⟨rfl, K⟩

set_option maxHeartbeats 8000000 in
theorem infin_01 (a b c : Nat) (side sa sb u1 v1 u2 v2 : Bool) (ha : a < 2 * G) (hb : b < 2 * G) (hc : c < 2 * G) (f1 : finB a = true) (f2 : finB b = true) (f3 : finB c = true)
    (h1 : dE a b 9218868437227405312 c = some (W u1 0)) (h2 : dF a b 9218868437227405312 c = some (W v1 0)) (h3 : dE a b c (opp 9218868437227405312) = some (W u2 0)) (h4 : dF a b c (opp 9218868437227405312) = some (W v2 0))
    (h5 : dE a b 0 0 = none) (h6 : dF a b 0 0 = some (W sb I)) (z1 : (FloatKind.f64.format.order a 0 == some .eq) = true) (z2 : (FloatKind.f64.format.order b 0 == some .eq) = false) (w : World) :
    Calls Try.prog 10 #[.int .u64 a, .int .u64 b, .int .u64 c, .bool side] w fun e w' => e = .returned (.bool true) ∧ Ok w w' := by
  have K := Ok.refl w
  have tokB : True := trivial
  have tok1 : True := trivial
  have D1 := hid (implDiv a b 9218868437227405312 c ha hb (by decide) hc)
  rw [h1, h2] at D1
  have D2 := hid (implDiv a b c (opp 9218868437227405312) ha hb hc (by decide))
  rw [h3, h4] at D2
  have D3 := hid (implDiv a b 0 0 ha hb (by decide) (by decide))
  rw [h5, h6] at D3
  have g1 := zero_ne u1
  have g2 := zero_ne v1
  have g3 := zero_ne u2
  have g4 := zero_ne v2
  have g5 := infB_inf sa
  have g6 := infB_inf sb
  have g7 := nanB_inf sa
  have g8 := nanB_inf sb
  clear h1 h2 h3 h4 h5 h6
  cases side
  · go_enter Try.func10, Try.ntmps10
    go_wp2_with (first
      | (go_at_call 16; refine (Double_any _).mono ?_; rintro e w1 ⟨rfl, ok⟩; replace K := K.trans ok)
      | (go_at_call 17; have t := tokB; clear tokB; refine (Finite_any _ (by assumption) _).mono ?_; rintro e w1 ⟨rfl, ok⟩; obtain ⟨c0, c1, c2, c3, c4, kk⟩ := (Boxed.start _).next ok; replace K := K.trans kk; clear kk ok)
      | (go_at_call 17; refine (Finite_any _ (by assumption) _).mono ?_; rintro e w1 ⟨rfl, ok⟩; replace c0 := ok.cell c0; replace c1 := ok.cell c1; replace c2 := ok.cell c2; replace c3 := ok.cell c3; replace c4 := ok.cell c4; replace K := K.trans ok; clear ok)
      | (go_at_call 20; refine (mathInf _).mono ?_; rintro e w1 ⟨rfl, rfl⟩)
      | (go_at_call 12; have t := tok1; clear tok1; refine (D1.out _).mono ?_; rintro e w1 ⟨x1, y1, rfl, r1, s1, dr⟩; obtain rfl := r1.some_eq; obtain rfl := s1.some_eq; replace K := K.trans dr.ok)
      | (go_at_call 12; have t := tok2; clear tok2; refine (D2.out _).mono ?_; rintro e w1 ⟨x1, y1, rfl, r1, s1, dr⟩; obtain rfl := r1.some_eq; obtain rfl := s1.some_eq; replace K := K.trans dr.ok)
      | (go_at_call 12; refine (D3.out _).mono ?_; rintro e w1 ⟨x3, y3, rfl, r3, s3, dr⟩; have i3 := infB_none r3; obtain rfl := s3.some_eq; replace K := K.trans dr.ok)
      | (go_at_call 15; refine (implIsFinite _ _).mono ?_; rintro e w1 ⟨rfl, dr⟩; replace K := K.trans dr.ok)
      | (go_at_call 21; refine (implIsInf _ _).mono ?_; rintro e w1 ⟨rfl, dr⟩; replace K := K.trans dr.ok)
      | (go_at_call 22; refine (implIsNaN _ _).mono ?_; rintro e w1 ⟨rfl, rfl⟩))
    go_ret
    exact ⟨rfl, K⟩
  · have tok2 : True := trivial
    go_enter Try.func10, Try.ntmps10
    go_wp2_with (first
      | (go_at_call 16; refine (Double_any _).mono ?_; rintro e w1 ⟨rfl, ok⟩; replace K := K.trans ok)
      | (go_at_call 17; have t := tokB; clear tokB; refine (Finite_any _ (by assumption) _).mono ?_; rintro e w1 ⟨rfl, ok⟩; obtain ⟨c0, c1, c2, c3, c4, kk⟩ := (Boxed.start _).next ok; replace K := K.trans kk; clear kk ok)
      | (go_at_call 17; refine (Finite_any _ (by assumption) _).mono ?_; rintro e w1 ⟨rfl, ok⟩; replace c0 := ok.cell c0; replace c1 := ok.cell c1; replace c2 := ok.cell c2; replace c3 := ok.cell c3; replace c4 := ok.cell c4; replace K := K.trans ok; clear ok)
      | (go_at_call 20; refine (mathInf _).mono ?_; rintro e w1 ⟨rfl, rfl⟩)
      | (go_at_call 12; have t := tok1; clear tok1; refine (D1.out _).mono ?_; rintro e w1 ⟨x1, y1, rfl, r1, s1, dr⟩; obtain rfl := r1.some_eq; obtain rfl := s1.some_eq; replace K := K.trans dr.ok)
      | (go_at_call 12; have t := tok2; clear tok2; refine (D2.out _).mono ?_; rintro e w1 ⟨x1, y1, rfl, r1, s1, dr⟩; obtain rfl := r1.some_eq; obtain rfl := s1.some_eq; replace K := K.trans dr.ok)
      | (go_at_call 12; refine (D3.out _).mono ?_; rintro e w1 ⟨x3, y3, rfl, r3, s3, dr⟩; have i3 := infB_none r3; obtain rfl := s3.some_eq; replace K := K.trans dr.ok)
      | (go_at_call 15; refine (implIsFinite _ _).mono ?_; rintro e w1 ⟨rfl, dr⟩; replace K := K.trans dr.ok)
      | (go_at_call 21; refine (implIsInf _ _).mono ?_; rintro e w1 ⟨rfl, dr⟩; replace K := K.trans dr.ok)
      | (go_at_call 22; refine (implIsNaN _ _).mono ?_; rintro e w1 ⟨rfl, rfl⟩))
    go_ret
    exact ⟨rfl, K⟩

set_option maxHeartbeats 8000000 in
theorem infin_10 (a b c : Nat) (side sa sb u1 v1 u2 v2 : Bool) (ha : a < 2 * G) (hb : b < 2 * G) (hc : c < 2 * G) (f1 : finB a = true) (f2 : finB b = true) (f3 : finB c = true)
    (h1 : dE a b 9218868437227405312 c = some (W u1 0)) (h2 : dF a b 9218868437227405312 c = some (W v1 0)) (h3 : dE a b c (opp 9218868437227405312) = some (W u2 0)) (h4 : dF a b c (opp 9218868437227405312) = some (W v2 0))
    (h5 : dE a b 0 0 = some (W sa I)) (h6 : dF a b 0 0 = none) (z1 : (FloatKind.f64.format.order a 0 == some .eq) = false) (z2 : (FloatKind.f64.format.order b 0 == some .eq) = true) (w : World) :
    Calls Try.prog 10 #[.int .u64 a, .int .u64 b, .int .u64 c, .bool side] w fun e w' => e = .returned (.bool true) ∧ Ok w w' := by
  have K := Ok.refl w
  have tokB : True := trivial
  have tok1 : True := trivial
  have D1 := hid (implDiv a b 9218868437227405312 c ha hb (by decide) hc)
  rw [h1, h2] at D1
  have D2 := hid (implDiv a b c (opp 9218868437227405312) ha hb hc (by decide))
  rw [h3, h4] at D2
  have D3 := hid (implDiv a b 0 0 ha hb (by decide) (by decide))
  rw [h5, h6] at D3
  have g1 := zero_ne u1
  have g2 := zero_ne v1
  have g3 := zero_ne u2
  have g4 := zero_ne v2
  have g5 := infB_inf sa
  have g6 := infB_inf sb
  have g7 := nanB_inf sa
  have g8 := nanB_inf sb
  clear h1 h2 h3 h4 h5 h6
  cases side
  · go_enter Try.func10, Try.ntmps10
    go_wp2_with (first
      | (go_at_call 16; refine (Double_any _).mono ?_; rintro e w1 ⟨rfl, ok⟩; replace K := K.trans ok)
      | (go_at_call 17; have t := tokB; clear tokB; refine (Finite_any _ (by assumption) _).mono ?_; rintro e w1 ⟨rfl, ok⟩; obtain ⟨c0, c1, c2, c3, c4, kk⟩ := (Boxed.start _).next ok; replace K := K.trans kk; clear kk ok)
      | (go_at_call 17; refine (Finite_any _ (by assumption) _).mono ?_; rintro e w1 ⟨rfl, ok⟩; replace c0 := ok.cell c0; replace c1 := ok.cell c1; replace c2 := ok.cell c2; replace c3 := ok.cell c3; replace c4 := ok.cell c4; replace K := K.trans ok; clear ok)
      | (go_at_call 20; refine (mathInf _).mono ?_; rintro e w1 ⟨rfl, rfl⟩)
      | (go_at_call 12; have t := tok1; clear tok1; refine (D1.out _).mono ?_; rintro e w1 ⟨x1, y1, rfl, r1, s1, dr⟩; obtain rfl := r1.some_eq; obtain rfl := s1.some_eq; replace K := K.trans dr.ok)
      | (go_at_call 12; have t := tok2; clear tok2; refine (D2.out _).mono ?_; rintro e w1 ⟨x1, y1, rfl, r1, s1, dr⟩; obtain rfl := r1.some_eq; obtain rfl := s1.some_eq; replace K := K.trans dr.ok)
      | (go_at_call 12; refine (D3.out _).mono ?_; rintro e w1 ⟨x3, y3, rfl, r3, s3, dr⟩; obtain rfl := r3.some_eq; replace K := K.trans dr.ok)
      | (go_at_call 15; refine (implIsFinite _ _).mono ?_; rintro e w1 ⟨rfl, dr⟩; replace K := K.trans dr.ok)
      | (go_at_call 21; refine (implIsInf _ _).mono ?_; rintro e w1 ⟨rfl, dr⟩; replace K := K.trans dr.ok)
      | (go_at_call 22; refine (implIsNaN _ _).mono ?_; rintro e w1 ⟨rfl, rfl⟩))
    go_ret
    exact ⟨rfl, K⟩
  · have tok2 : True := trivial
    go_enter Try.func10, Try.ntmps10
    go_wp2_with (first
      | (go_at_call 16; refine (Double_any _).mono ?_; rintro e w1 ⟨rfl, ok⟩; replace K := K.trans ok)
      | (go_at_call 17; have t := tokB; clear tokB; refine (Finite_any _ (by assumption) _).mono ?_; rintro e w1 ⟨rfl, ok⟩; obtain ⟨c0, c1, c2, c3, c4, kk⟩ := (Boxed.start _).next ok; replace K := K.trans kk; clear kk ok)
      | (go_at_call 17; refine (Finite_any _ (by assumption) _).mono ?_; rintro e w1 ⟨rfl, ok⟩; replace c0 := ok.cell c0; replace c1 := ok.cell c1; replace c2 := ok.cell c2; replace c3 := ok.cell c3; replace c4 := ok.cell c4; replace K := K.trans ok; clear ok)
      | (go_at_call 20; refine (mathInf _).mono ?_; rintro e w1 ⟨rfl, rfl⟩)
      | (go_at_call 12; have t := tok1; clear tok1; refine (D1.out _).mono ?_; rintro e w1 ⟨x1, y1, rfl, r1, s1, dr⟩; obtain rfl := r1.some_eq; obtain rfl := s1.some_eq; replace K := K.trans dr.ok)
      | (go_at_call 12; have t := tok2; clear tok2; refine (D2.out _).mono ?_; rintro e w1 ⟨x1, y1, rfl, r1, s1, dr⟩; obtain rfl := r1.some_eq; obtain rfl := s1.some_eq; replace K := K.trans dr.ok)
      | (go_at_call 12; refine (D3.out _).mono ?_; rintro e w1 ⟨x3, y3, rfl, r3, s3, dr⟩; obtain rfl := r3.some_eq; replace K := K.trans dr.ok)
      | (go_at_call 15; refine (implIsFinite _ _).mono ?_; rintro e w1 ⟨rfl, dr⟩; replace K := K.trans dr.ok)
      | (go_at_call 21; refine (implIsInf _ _).mono ?_; rintro e w1 ⟨rfl, dr⟩; replace K := K.trans dr.ok)
      | (go_at_call 22; refine (implIsNaN _ _).mono ?_; rintro e w1 ⟨rfl, rfl⟩))
    go_ret
    exact ⟨rfl, K⟩

set_option maxHeartbeats 8000000 in
theorem infin_11 (a b c : Nat) (side sa sb u1 v1 u2 v2 : Bool) (ha : a < 2 * G) (hb : b < 2 * G) (hc : c < 2 * G) (f1 : finB a = true) (f2 : finB b = true) (f3 : finB c = true)
    (h1 : dE a b 9218868437227405312 c = some (W u1 0)) (h2 : dF a b 9218868437227405312 c = some (W v1 0)) (h3 : dE a b c (opp 9218868437227405312) = some (W u2 0)) (h4 : dF a b c (opp 9218868437227405312) = some (W v2 0))
    (h5 : dE a b 0 0 = some (W sa I)) (h6 : dF a b 0 0 = some (W sb I)) (z1 : (FloatKind.f64.format.order a 0 == some .eq) = false) (z2 : (FloatKind.f64.format.order b 0 == some .eq) = false) (w : World) :
    Calls Try.prog 10 #[.int .u64 a, .int .u64 b, .int .u64 c, .bool side] w fun e w' => e = .returned (.bool true) ∧ Ok w w' := by
  have K := Ok.refl w
  have tokB : True := trivial
  have tok1 : True := trivial
  have D1 := hid (implDiv a b 9218868437227405312 c ha hb (by decide) hc)
  rw [h1, h2] at D1
  have D2 := hid (implDiv a b c (opp 9218868437227405312) ha hb hc (by decide))
  rw [h3, h4] at D2
  have D3 := hid (implDiv a b 0 0 ha hb (by decide) (by decide))
  rw [h5, h6] at D3
  have g1 := zero_ne u1
  have g2 := zero_ne v1
  have g3 := zero_ne u2
  have g4 := zero_ne v2
  have g5 := infB_inf sa
  have g6 := infB_inf sb
  have g7 := nanB_inf sa
  have g8 := nanB_inf sb
  clear h1 h2 h3 h4 h5 h6
  cases side
  · go_enter Try.func10, Try.ntmps10
    go_wp2_with (first
      | (go_at_call 16; refine (Double_any _).mono ?_; rintro e w1 ⟨rfl, ok⟩; replace K := K.trans ok)
      | (go_at_call 17; have t := tokB; clear tokB; refine (Finite_any _ (by assumption) _).mono ?_; rintro e w1 ⟨rfl, ok⟩; obtain ⟨c0, c1, c2, c3, c4, kk⟩ := (Boxed.start _).next ok; replace K := K.trans kk; clear kk ok)
      | (go_at_call 17; refine (Finite_any _ (by assumption) _).mono ?_; rintro e w1 ⟨rfl, ok⟩; replace c0 := ok.cell c0; replace c1 := ok.cell c1; replace c2 := ok.cell c2; replace c3 := ok.cell c3; replace c4 := ok.cell c4; replace K := K.trans ok; clear ok)
      | (go_at_call 20; refine (mathInf _).mono ?_; rintro e w1 ⟨rfl, rfl⟩)
      | (go_at_call 12; have t := tok1; clear tok1; refine (D1.out _).mono ?_; rintro e w1 ⟨x1, y1, rfl, r1, s1, dr⟩; obtain rfl := r1.some_eq; obtain rfl := s1.some_eq; replace K := K.trans dr.ok)
      | (go_at_call 12; have t := tok2; clear tok2; refine (D2.out _).mono ?_; rintro e w1 ⟨x1, y1, rfl, r1, s1, dr⟩; obtain rfl := r1.some_eq; obtain rfl := s1.some_eq; replace K := K.trans dr.ok)
      | (go_at_call 12; refine (D3.out _).mono ?_; rintro e w1 ⟨x3, y3, rfl, r3, s3, dr⟩; obtain rfl := r3.some_eq; obtain rfl := s3.some_eq; replace K := K.trans dr.ok)
      | (go_at_call 15; refine (implIsFinite _ _).mono ?_; rintro e w1 ⟨rfl, dr⟩; replace K := K.trans dr.ok)
      | (go_at_call 21; refine (implIsInf _ _).mono ?_; rintro e w1 ⟨rfl, dr⟩; replace K := K.trans dr.ok)
      | (go_at_call 22; refine (implIsNaN _ _).mono ?_; rintro e w1 ⟨rfl, rfl⟩))
    go_ret
    exact ⟨rfl, K⟩
  · have tok2 : True := trivial
    go_enter Try.func10, Try.ntmps10
    go_wp2_with (first
      | (go_at_call 16; refine (Double_any _).mono ?_; rintro e w1 ⟨rfl, ok⟩; replace K := K.trans ok)
      | (go_at_call 17; have t := tokB; clear tokB; refine (Finite_any _ (by assumption) _).mono ?_; rintro e w1 ⟨rfl, ok⟩; obtain ⟨c0, c1, c2, c3, c4, kk⟩ := (Boxed.start _).next ok; replace K := K.trans kk; clear kk ok)
      | (go_at_call 17; refine (Finite_any _ (by assumption) _).mono ?_; rintro e w1 ⟨rfl, ok⟩; replace c0 := ok.cell c0; replace c1 := ok.cell c1; replace c2 := ok.cell c2; replace c3 := ok.cell c3; replace c4 := ok.cell c4; replace K := K.trans ok; clear ok)
      | (go_at_call 20; refine (mathInf _).mono ?_; rintro e w1 ⟨rfl, rfl⟩)
      | (go_at_call 12; have t := tok1; clear tok1; refine (D1.out _).mono ?_; rintro e w1 ⟨x1, y1, rfl, r1, s1, dr⟩; obtain rfl := r1.some_eq; obtain rfl := s1.some_eq; replace K := K.trans dr.ok)
      | (go_at_call 12; have t := tok2; clear tok2; refine (D2.out _).mono ?_; rintro e w1 ⟨x1, y1, rfl, r1, s1, dr⟩; obtain rfl := r1.some_eq; obtain rfl := s1.some_eq; replace K := K.trans dr.ok)
      | (go_at_call 12; refine (D3.out _).mono ?_; rintro e w1 ⟨x3, y3, rfl, r3, s3, dr⟩; obtain rfl := r3.some_eq; obtain rfl := s3.some_eq; replace K := K.trans dr.ok)
      | (go_at_call 15; refine (implIsFinite _ _).mono ?_; rintro e w1 ⟨rfl, dr⟩; replace K := K.trans dr.ok)
      | (go_at_call 21; refine (implIsInf _ _).mono ?_; rintro e w1 ⟨rfl, dr⟩; replace K := K.trans dr.ok)
      | (go_at_call 22; refine (implIsNaN _ _).mono ?_; rintro e w1 ⟨rfl, rfl⟩))
    go_ret
    exact ⟨rfl, K⟩

theorem law_FnDivInfinite (a0 a1 a2 : Int) (a3 : Bool) (w0 : (Lit.int .u64 a0).wf = true) (w1 : (Lit.int .u64 a1).wf = true) (w2 : (Lit.int .u64 a2).wf = true) (w : World) :
    Calls Try.prog 10 #[.int .u64 a0, .int .u64 a1, .int .u64 a2, .bool a3] w fun e w' => e = .returned (.bool true) ∧ Grown w w' := by
  obtain ⟨a, rfl, ha⟩ := u64_nat w0
  obtain ⟨b, rfl, hb⟩ := u64_nat w1
  obtain ⟨c, rfl, hc⟩ := u64_nat w2
  have key : Calls Try.prog 10 #[.int .u64 a, .int .u64 b, .int .u64 c, .bool a3] w fun e w' => e = .returned (.bool true) ∧ Ok w w' := by
    cases f1 : finB a
    · exact infin_arg a b c a3 ha hb hc (.inl f1) w
    · cases f2 : finB b
      · exact infin_arg a b c a3 ha hb hc (.inr (.inl ⟨f1, f2⟩)) w
      · cases f3 : finB c
        · exact infin_arg a b c a3 ha hb hc (.inr (.inr ⟨f1, f2, f3⟩)) w
        · obtain ⟨sa, ra, ka, rfl⟩ := fin_of ha f1
          obtain ⟨sb, rb, kb, rfl⟩ := fin_of hb f2
          obtain ⟨s, r, kr, rfl⟩ := fin_of hc f3
          obtain ⟨u1, v1, h1, h2⟩ := by_inf sa sb s ka kb kr
          obtain ⟨u2, v2, h3, h4⟩ := by_minus_inf sa sb s ka kb kr
          obtain ⟨h5, h6⟩ := by_zero sa sb ka kb
          have z1 := eq_zero (s := sa) ka
          have z2 := eq_zero (s := sb) kb
          by_cases e1 : ra = 0
          · rw [if_pos e1] at h5
            rw [decide_eq_true e1] at z1
            by_cases e2 : rb = 0
            · rw [if_pos e2] at h6
              rw [decide_eq_true e2] at z2
              exact infin_00 _ _ _ a3 sa sb u1 v1 u2 v2 ha hb hc f1 f2 f3 h1 h2 h3 h4 z1 z2 w
            · rw [if_neg e2] at h6
              rw [decide_eq_false e2] at z2
              exact infin_01 _ _ _ a3 sa sb u1 v1 u2 v2 ha hb hc f1 f2 f3 h1 h2 h3 h4 h5 h6 z1 z2 w
          · rw [if_neg e1] at h5
            rw [decide_eq_false e1] at z1
            by_cases e2 : rb = 0
            · rw [if_pos e2] at h6
              rw [decide_eq_true e2] at z2
              exact infin_10 _ _ _ a3 sa sb u1 v1 u2 v2 ha hb hc f1 f2 f3 h1 h2 h3 h4 h5 h6 z1 z2 w
            · rw [if_neg e2] at h6
              rw [decide_eq_false e2] at z2
              exact infin_11 _ _ _ a3 sa sb u1 v1 u2 v2 ha hb hc f1 f2 f3 h1 h2 h3 h4 h5 h6 z1 z2 w
  exact key.mono fun e w' h => ⟨h.1, h.2.grown⟩

end Go.Proofs.Ythfhaflbjclmfaa

/-
The division of complex numbers where no correction applies.
-/
import Derived.Test.YthfhaflbjclmfaaDv
namespace Go.Proofs.Ythfhaflbjclmfaa
open Go.RowKit Fl

/-- The ways of the tests. -/
theorem ways : ∀ (z na nb nc nd ia ib ic id : Bool), (z && (!na || !nb)) = false → ((ia || ib) && (!nc && !ic) && (!nd && !id)) = false → ((ic || id) && (!na && !ia) && (!nb && !ib)) = false → (na && ia) = false → (nb && ib) = false → (nc && ic) = false → (nd && id) = false → (z && (ic || id)) = false →
    (z = true ∧ na = true ∧ nb = true ∧ ia = false ∧ ib = false ∧ ic = false ∧ id = false) ∨ (z = false ∧ ia = false ∧ ib = false ∧ ic = false ∧ id = false) ∨ (z = false ∧ ia = false ∧ ib = false ∧ ic = true ∧ (!na && !ia) = false) ∨ (z = false ∧ ia = false ∧ ib = false ∧ ic = true ∧ (!na && !ia) = true ∧ (!nb && !ib) = false) ∨ (z = false ∧ ia = false ∧ ib = false ∧ ic = false ∧ id = true ∧ (!na && !ia) = false) ∨ (z = false ∧ ia = false ∧ ib = false ∧ ic = false ∧ id = true ∧ (!na && !ia) = true ∧ (!nb && !ib) = false) ∨ (z = false ∧ ia = true ∧ (!nc && !ic) = false ∧ ic = false ∧ id = false) ∨ (z = false ∧ ia = true ∧ (!nc && !ic) = false ∧ ic = true ∧ (!na && !ia) = false) ∨ (z = false ∧ ia = true ∧ (!nc && !ic) = false ∧ ic = false ∧ id = true ∧ (!na && !ia) = false) ∨ (z = false ∧ ia = true ∧ (!nc && !ic) = true ∧ (!nd && !id) = false ∧ ic = false ∧ id = false) ∨ (z = false ∧ ia = true ∧ (!nc && !ic) = true ∧ (!nd && !id) = false ∧ ic = false ∧ id = true ∧ (!na && !ia) = false) ∨ (z = false ∧ ia = false ∧ ib = true ∧ (!nc && !ic) = false ∧ ic = false ∧ id = false) ∨ (z = false ∧ ia = false ∧ ib = true ∧ (!nc && !ic) = false ∧ ic = true ∧ (!na && !ia) = false) ∨ (z = false ∧ ia = false ∧ ib = true ∧ (!nc && !ic) = false ∧ ic = true ∧ (!na && !ia) = true ∧ (!nb && !ib) = false) ∨ (z = false ∧ ia = false ∧ ib = true ∧ (!nc && !ic) = false ∧ ic = false ∧ id = true ∧ (!na && !ia) = false) ∨ (z = false ∧ ia = false ∧ ib = true ∧ (!nc && !ic) = false ∧ ic = false ∧ id = true ∧ (!na && !ia) = true ∧ (!nb && !ib) = false) ∨ (z = false ∧ ia = false ∧ ib = true ∧ (!nc && !ic) = true ∧ (!nd && !id) = false ∧ ic = false ∧ id = false) ∨ (z = false ∧ ia = false ∧ ib = true ∧ (!nc && !ic) = true ∧ (!nd && !id) = false ∧ ic = false ∧ id = true ∧ (!na && !ia) = false) ∨ (z = false ∧ ia = false ∧ ib = true ∧ (!nc && !ic) = true ∧ (!nd && !id) = false ∧ ic = false ∧ id = true ∧ (!na && !ia) = true ∧ (!nb && !ib) = false) := by
  intro z na nb nc nd ia ib ic id
  cases z <;> cases na <;> cases nb <;> cases nc <;> cases nd <;> cases ia <;> cases ib <;> cases ic <;> cases id <;> simp

set_option maxRecDepth 100000 in
set_option maxHeartbeats 40000000 in
theorem div_none0 (a b c d : Nat) (ha : a < 2 * G) (hb : b < 2 * G) (hc : c < 2 * G) (hd : d < 2 * G) (hE : (qE a b c d).isNone = true) (hF : (qF a b c d).isNone = true) (ht : (((FloatKind.f64.format.order c 0 == some .eq) && (FloatKind.f64.format.order d 0 == some .eq)) = true ∧ nanB a = true ∧ nanB b = true ∧ infB a = false ∧ infB b = false ∧ infB c = false ∧ infB d = false) ∨ (((FloatKind.f64.format.order c 0 == some .eq) && (FloatKind.f64.format.order d 0 == some .eq)) = false ∧ infB a = false ∧ infB b = false ∧ infB c = false ∧ infB d = false) ∨ (((FloatKind.f64.format.order c 0 == some .eq) && (FloatKind.f64.format.order d 0 == some .eq)) = false ∧ infB a = false ∧ infB b = false ∧ infB c = true ∧ finB a = false) ∨ (((FloatKind.f64.format.order c 0 == some .eq) && (FloatKind.f64.format.order d 0 == some .eq)) = false ∧ infB a = false ∧ infB b = false ∧ infB c = true ∧ finB a = true ∧ finB b = false) ∨ (((FloatKind.f64.format.order c 0 == some .eq) && (FloatKind.f64.format.order d 0 == some .eq)) = false ∧ infB a = false ∧ infB b = false ∧ infB c = false ∧ infB d = true ∧ finB a = false) ∨ (((FloatKind.f64.format.order c 0 == some .eq) && (FloatKind.f64.format.order d 0 == some .eq)) = false ∧ infB a = false ∧ infB b = false ∧ infB c = false ∧ infB d = true ∧ finB a = true ∧ finB b = false) ∨ (((FloatKind.f64.format.order c 0 == some .eq) && (FloatKind.f64.format.order d 0 == some .eq)) = false ∧ infB a = true ∧ finB c = false ∧ infB c = false ∧ infB d = false)) (w : World) :
    Calls Try.prog 30 #[.complex .f64 a b, .complex .f64 c d] w (Quo (qE a b c d) (qF a b c d) w) := by
  have ra := Rep.self ha
  have rb := Rep.self hb
  have rc := Rep.self hc
  have rd := Rep.self hd
  unfold qE qF at *
  cases hg : geB c d
  all_goals
    have hg' : (FloatKind.f64.format.order (mg c) (mg d) == some .gt || FloatKind.f64.format.order (mg c) (mg d) == some .eq) = geB c d := rfl
    rw [hg] at hg'
    simp only [hg, if_true, Bool.false_eq_true, if_false] at hE hF ⊢
    clear hg
    rcases ht with ⟨h0, h1, h2, h3, h4, h5, h6⟩ | ⟨h0, h1, h2, h3, h4⟩ | ⟨h0, h1, h2, h3, h4⟩ | ⟨h0, h1, h2, h3, h4, h5⟩ | ⟨h0, h1, h2, h3, h4, h5⟩ | ⟨h0, h1, h2, h3, h4, h5, h6⟩ | ⟨h0, h1, h2, h3, h4⟩
  all_goals
    go_enter Try.func30, Try.ntmps30
    go_wp2_with (first
      | (go_at_call 34; refine (abs_eq _ (by assumption) _).mono ?_; rintro e w1 ⟨rfl, rfl⟩)
      | (go_at_call 33; refine (isNaN_rep (by assumption) (nn_div _ _) _).mono ?_; rintro e w1 ⟨rfl, rfl⟩)
      | (go_at_call 33; refine (isNaN_any _ _).mono ?_; rintro e w1 ⟨rfl, rfl⟩)
      | (go_at_call 32; refine (isInf_any _ _).mono ?_; rintro e w1 ⟨rfl, m, rfl⟩)
      | (go_at_call 31; refine (isFinite_any _ _).mono ?_; rintro e w1 ⟨rfl, m, rfl⟩)
      | (go_at_call 37; refine (inf2one_any _ (by assumption) _).mono ?_; rintro e w1 ⟨rfl, m, rfl⟩)
      | (go_at_call 36; refine (inf_any _).mono ?_; rintro e w1 ⟨rfl, rfl⟩)
      | (go_at_call 35; refine (copysign_eq _ _ (by assumption) (by assumption) _).mono ?_; rintro e w1 ⟨rfl, rfl⟩)
      | (with_reducible refine upon_add (by assumption) (by assumption) ?_; intro r n hr)
      | (with_reducible refine upon_sub (by assumption) (by assumption) ?_; intro r n hr)
      | (with_reducible refine upon_mul (by assumption) (by assumption) ?_; intro r n hr)
      | (with_reducible refine upon_quo (by assumption) (by assumption) ?_; intro r n hr))
    go_ret
    exact ⟨_, _, rfl, by assumption, by assumption, _, rfl⟩

set_option maxRecDepth 100000 in
set_option maxHeartbeats 40000000 in
theorem div_none1 (a b c d : Nat) (ha : a < 2 * G) (hb : b < 2 * G) (hc : c < 2 * G) (hd : d < 2 * G) (hE : (qE a b c d).isNone = true) (hF : (qF a b c d).isNone = true) (ht : (((FloatKind.f64.format.order c 0 == some .eq) && (FloatKind.f64.format.order d 0 == some .eq)) = false ∧ infB a = true ∧ finB c = false ∧ infB c = true ∧ finB a = false) ∨ (((FloatKind.f64.format.order c 0 == some .eq) && (FloatKind.f64.format.order d 0 == some .eq)) = false ∧ infB a = true ∧ finB c = false ∧ infB c = false ∧ infB d = true ∧ finB a = false) ∨ (((FloatKind.f64.format.order c 0 == some .eq) && (FloatKind.f64.format.order d 0 == some .eq)) = false ∧ infB a = true ∧ finB c = true ∧ finB d = false ∧ infB c = false ∧ infB d = false) ∨ (((FloatKind.f64.format.order c 0 == some .eq) && (FloatKind.f64.format.order d 0 == some .eq)) = false ∧ infB a = true ∧ finB c = true ∧ finB d = false ∧ infB c = false ∧ infB d = true ∧ finB a = false) ∨ (((FloatKind.f64.format.order c 0 == some .eq) && (FloatKind.f64.format.order d 0 == some .eq)) = false ∧ infB a = false ∧ infB b = true ∧ finB c = false ∧ infB c = false ∧ infB d = false) ∨ (((FloatKind.f64.format.order c 0 == some .eq) && (FloatKind.f64.format.order d 0 == some .eq)) = false ∧ infB a = false ∧ infB b = true ∧ finB c = false ∧ infB c = true ∧ finB a = false)) (w : World) :
    Calls Try.prog 30 #[.complex .f64 a b, .complex .f64 c d] w (Quo (qE a b c d) (qF a b c d) w) := by
  have ra := Rep.self ha
  have rb := Rep.self hb
  have rc := Rep.self hc
  have rd := Rep.self hd
  unfold qE qF at *
  cases hg : geB c d
  all_goals
    have hg' : (FloatKind.f64.format.order (mg c) (mg d) == some .gt || FloatKind.f64.format.order (mg c) (mg d) == some .eq) = geB c d := rfl
    rw [hg] at hg'
    simp only [hg, if_true, Bool.false_eq_true, if_false] at hE hF ⊢
    clear hg
    rcases ht with ⟨h0, h1, h2, h3, h4⟩ | ⟨h0, h1, h2, h3, h4, h5⟩ | ⟨h0, h1, h2, h3, h4, h5⟩ | ⟨h0, h1, h2, h3, h4, h5, h6⟩ | ⟨h0, h1, h2, h3, h4, h5⟩ | ⟨h0, h1, h2, h3, h4, h5⟩
  all_goals
    go_enter Try.func30, Try.ntmps30
    go_wp2_with (first
      | (go_at_call 34; refine (abs_eq _ (by assumption) _).mono ?_; rintro e w1 ⟨rfl, rfl⟩)
      | (go_at_call 33; refine (isNaN_rep (by assumption) (nn_div _ _) _).mono ?_; rintro e w1 ⟨rfl, rfl⟩)
      | (go_at_call 33; refine (isNaN_any _ _).mono ?_; rintro e w1 ⟨rfl, rfl⟩)
      | (go_at_call 32; refine (isInf_any _ _).mono ?_; rintro e w1 ⟨rfl, m, rfl⟩)
      | (go_at_call 31; refine (isFinite_any _ _).mono ?_; rintro e w1 ⟨rfl, m, rfl⟩)
      | (go_at_call 37; refine (inf2one_any _ (by assumption) _).mono ?_; rintro e w1 ⟨rfl, m, rfl⟩)
      | (go_at_call 36; refine (inf_any _).mono ?_; rintro e w1 ⟨rfl, rfl⟩)
      | (go_at_call 35; refine (copysign_eq _ _ (by assumption) (by assumption) _).mono ?_; rintro e w1 ⟨rfl, rfl⟩)
      | (with_reducible refine upon_add (by assumption) (by assumption) ?_; intro r n hr)
      | (with_reducible refine upon_sub (by assumption) (by assumption) ?_; intro r n hr)
      | (with_reducible refine upon_mul (by assumption) (by assumption) ?_; intro r n hr)
      | (with_reducible refine upon_quo (by assumption) (by assumption) ?_; intro r n hr))
    go_ret
    exact ⟨_, _, rfl, by assumption, by assumption, _, rfl⟩

set_option maxRecDepth 100000 in
set_option maxHeartbeats 40000000 in
theorem div_none2 (a b c d : Nat) (ha : a < 2 * G) (hb : b < 2 * G) (hc : c < 2 * G) (hd : d < 2 * G) (hE : (qE a b c d).isNone = true) (hF : (qF a b c d).isNone = true) (ht : (((FloatKind.f64.format.order c 0 == some .eq) && (FloatKind.f64.format.order d 0 == some .eq)) = false ∧ infB a = false ∧ infB b = true ∧ finB c = false ∧ infB c = true ∧ finB a = true ∧ finB b = false) ∨ (((FloatKind.f64.format.order c 0 == some .eq) && (FloatKind.f64.format.order d 0 == some .eq)) = false ∧ infB a = false ∧ infB b = true ∧ finB c = false ∧ infB c = false ∧ infB d = true ∧ finB a = false) ∨ (((FloatKind.f64.format.order c 0 == some .eq) && (FloatKind.f64.format.order d 0 == some .eq)) = false ∧ infB a = false ∧ infB b = true ∧ finB c = false ∧ infB c = false ∧ infB d = true ∧ finB a = true ∧ finB b = false) ∨ (((FloatKind.f64.format.order c 0 == some .eq) && (FloatKind.f64.format.order d 0 == some .eq)) = false ∧ infB a = false ∧ infB b = true ∧ finB c = true ∧ finB d = false ∧ infB c = false ∧ infB d = false) ∨ (((FloatKind.f64.format.order c 0 == some .eq) && (FloatKind.f64.format.order d 0 == some .eq)) = false ∧ infB a = false ∧ infB b = true ∧ finB c = true ∧ finB d = false ∧ infB c = false ∧ infB d = true ∧ finB a = false) ∨ (((FloatKind.f64.format.order c 0 == some .eq) && (FloatKind.f64.format.order d 0 == some .eq)) = false ∧ infB a = false ∧ infB b = true ∧ finB c = true ∧ finB d = false ∧ infB c = false ∧ infB d = true ∧ finB a = true ∧ finB b = false)) (w : World) :
    Calls Try.prog 30 #[.complex .f64 a b, .complex .f64 c d] w (Quo (qE a b c d) (qF a b c d) w) := by
  have ra := Rep.self ha
  have rb := Rep.self hb
  have rc := Rep.self hc
  have rd := Rep.self hd
  unfold qE qF at *
  cases hg : geB c d
  all_goals
    have hg' : (FloatKind.f64.format.order (mg c) (mg d) == some .gt || FloatKind.f64.format.order (mg c) (mg d) == some .eq) = geB c d := rfl
    rw [hg] at hg'
    simp only [hg, if_true, Bool.false_eq_true, if_false] at hE hF ⊢
    clear hg
    rcases ht with ⟨h0, h1, h2, h3, h4, h5, h6⟩ | ⟨h0, h1, h2, h3, h4, h5, h6⟩ | ⟨h0, h1, h2, h3, h4, h5, h6, h7⟩ | ⟨h0, h1, h2, h3, h4, h5, h6⟩ | ⟨h0, h1, h2, h3, h4, h5, h6, h7⟩ | ⟨h0, h1, h2, h3, h4, h5, h6, h7, h8⟩
  all_goals
    go_enter Try.func30, Try.ntmps30
    go_wp2_with (first
      | (go_at_call 34; refine (abs_eq _ (by assumption) _).mono ?_; rintro e w1 ⟨rfl, rfl⟩)
      | (go_at_call 33; refine (isNaN_rep (by assumption) (nn_div _ _) _).mono ?_; rintro e w1 ⟨rfl, rfl⟩)
      | (go_at_call 33; refine (isNaN_any _ _).mono ?_; rintro e w1 ⟨rfl, rfl⟩)
      | (go_at_call 32; refine (isInf_any _ _).mono ?_; rintro e w1 ⟨rfl, m, rfl⟩)
      | (go_at_call 31; refine (isFinite_any _ _).mono ?_; rintro e w1 ⟨rfl, m, rfl⟩)
      | (go_at_call 37; refine (inf2one_any _ (by assumption) _).mono ?_; rintro e w1 ⟨rfl, m, rfl⟩)
      | (go_at_call 36; refine (inf_any _).mono ?_; rintro e w1 ⟨rfl, rfl⟩)
      | (go_at_call 35; refine (copysign_eq _ _ (by assumption) (by assumption) _).mono ?_; rintro e w1 ⟨rfl, rfl⟩)
      | (with_reducible refine upon_add (by assumption) (by assumption) ?_; intro r n hr)
      | (with_reducible refine upon_sub (by assumption) (by assumption) ?_; intro r n hr)
      | (with_reducible refine upon_mul (by assumption) (by assumption) ?_; intro r n hr)
      | (with_reducible refine upon_quo (by assumption) (by assumption) ?_; intro r n hr))
    go_ret
    exact ⟨_, _, rfl, by assumption, by assumption, _, rfl⟩

end Go.Proofs.Ythfhaflbjclmfaa

/-
The corrections of the division of complex numbers: a quotient of infinities.
-/
import Derived.Test.YthfhaflbjclmfaaDv
namespace Go.Proofs.Ythfhaflbjclmfaa
open Go.RowKit Fl

set_option maxRecDepth 100000 in
set_option maxHeartbeats 16000000 in
theorem div_k2 (a b c d : Nat) (ha : a < 2 * G) (hb : b < 2 * G) (hc : c < 2 * G) (hd : d < 2 * G) (hE : (qE a b c d).isNone = true) (hF : (qF a b c d).isNone = true) (hz : ((FloatKind.f64.format.order c 0 == some .eq) && (FloatKind.f64.format.order d 0 == some .eq)) = false) (ht : infB a = true ∨ (infB a = false ∧ infB b = true)) (hfc : finB c = true) (hfd : finB d = true) (w : World) :
    Calls Try.prog 30 #[.complex .f64 a b, .complex .f64 c d] w (Quo (corrE I (infOne a) (infOne b) c d) (corrF I (infOne a) (infOne b) c d) w) := by
  have ra := Rep.self ha
  have rb := Rep.self hb
  have rc := Rep.self hc
  have rd := Rep.self hd
  have ri : Rep 9218868437227405312 (some I) := Rep.self (by decide)
  have roa := Rep.self (infOne_lt a)
  have rob := Rep.self (infOne_lt b)
  unfold corrE corrF
  unfold qE at hE
  unfold qF at hF
  cases hg : geB c d
  all_goals
    have hg' : (FloatKind.f64.format.order (mg c) (mg d) == some .gt || FloatKind.f64.format.order (mg c) (mg d) == some .eq) = geB c d := rfl
    rw [hg] at hg'
    simp only [hg, if_true, Bool.false_eq_true, if_false] at hE hF ⊢
    clear hg
    rcases ht with h1 | ⟨h1, h2⟩
  all_goals
    go_enter Try.func30, Try.ntmps30
    go_wp2_with (first
      | (go_at_call 34; refine (abs_eq _ (by assumption) _).mono ?_; rintro e w1 ⟨rfl, rfl⟩)
      | (go_at_call 33; refine (isNaN_rep (by assumption) (nn_div _ _) _).mono ?_; rintro e w1 ⟨rfl, rfl⟩)
      | (go_at_call 33; refine (isNaN_any _ _).mono ?_; rintro e w1 ⟨rfl, rfl⟩)
      | (go_at_call 32; refine (isInf_any _ _).mono ?_; rintro e w1 ⟨rfl, m, rfl⟩)
      | (go_at_call 31; refine (isFinite_any _ _).mono ?_; rintro e w1 ⟨rfl, m, rfl⟩)
      | (go_at_call 37; refine (inf2one_any _ (by assumption) _).mono ?_; rintro e w1 ⟨rfl, m, rfl⟩)
      | (go_at_call 36; refine (inf_any _).mono ?_; rintro e w1 ⟨rfl, rfl⟩)
      | (go_at_call 35; refine (copysign_eq _ _ (by assumption) (by assumption) _).mono ?_; rintro e w1 ⟨rfl, rfl⟩)
      | (with_reducible refine upon_add (by assumption) (by assumption) ?_; intro r n hr)
      | (with_reducible refine upon_sub (by assumption) (by assumption) ?_; intro r n hr)
      | (with_reducible refine upon_mul (by assumption) (by assumption) ?_; intro r n hr)
      | (with_reducible refine upon_quo (by assumption) (by assumption) ?_; intro r n hr))
    go_ret
    exact ⟨_, _, rfl, by assumption, by assumption, _, rfl⟩

set_option maxRecDepth 100000 in
set_option maxHeartbeats 16000000 in
theorem div_k3 (a b c d : Nat) (ha : a < 2 * G) (hb : b < 2 * G) (hc : c < 2 * G) (hd : d < 2 * G) (hE : (qE a b c d).isNone = true) (hF : (qF a b c d).isNone = true) (hz : ((FloatKind.f64.format.order c 0 == some .eq) && (FloatKind.f64.format.order d 0 == some .eq)) = false) (hia : infB a = false) (hib : infB b = false) (ht : infB c = true ∨ (infB c = false ∧ infB d = true)) (hfa : finB a = true) (hfb : finB b = true) (w : World) :
    Calls Try.prog 30 #[.complex .f64 a b, .complex .f64 c d] w (Quo (corrE 0 a b (infOne c) (infOne d)) (corrF 0 a b (infOne c) (infOne d)) w) := by
  have ra := Rep.self ha
  have rb := Rep.self hb
  have rc := Rep.self hc
  have rd := Rep.self hd
  have r0 : Rep 0 (some 0) := Rep.self (by decide)
  have roc := Rep.self (infOne_lt c)
  have rod := Rep.self (infOne_lt d)
  unfold corrE corrF
  unfold qE at hE
  unfold qF at hF
  cases hg : geB c d
  all_goals
    have hg' : (FloatKind.f64.format.order (mg c) (mg d) == some .gt || FloatKind.f64.format.order (mg c) (mg d) == some .eq) = geB c d := rfl
    rw [hg] at hg'
    simp only [hg, if_true, Bool.false_eq_true, if_false] at hE hF ⊢
    clear hg
    rcases ht with h1 | ⟨h1, h2⟩
  all_goals
    go_enter Try.func30, Try.ntmps30
    go_wp2_with (first
      | (go_at_call 34; refine (abs_eq _ (by assumption) _).mono ?_; rintro e w1 ⟨rfl, rfl⟩)
      | (go_at_call 33; refine (isNaN_rep (by assumption) (nn_div _ _) _).mono ?_; rintro e w1 ⟨rfl, rfl⟩)
      | (go_at_call 33; refine (isNaN_any _ _).mono ?_; rintro e w1 ⟨rfl, rfl⟩)
      | (go_at_call 32; refine (isInf_any _ _).mono ?_; rintro e w1 ⟨rfl, m, rfl⟩)
      | (go_at_call 31; refine (isFinite_any _ _).mono ?_; rintro e w1 ⟨rfl, m, rfl⟩)
      | (go_at_call 37; refine (inf2one_any _ (by assumption) _).mono ?_; rintro e w1 ⟨rfl, m, rfl⟩)
      | (go_at_call 36; refine (inf_any _).mono ?_; rintro e w1 ⟨rfl, rfl⟩)
      | (go_at_call 35; refine (copysign_eq _ _ (by assumption) (by assumption) _).mono ?_; rintro e w1 ⟨rfl, rfl⟩)
      | (with_reducible refine upon_add (by assumption) (by assumption) ?_; intro r n hr)
      | (with_reducible refine upon_sub (by assumption) (by assumption) ?_; intro r n hr)
      | (with_reducible refine upon_mul (by assumption) (by assumption) ?_; intro r n hr)
      | (with_reducible refine upon_quo (by assumption) (by assumption) ?_; intro r n hr))
    go_ret
    exact ⟨_, _, rfl, by assumption, by assumption, _, rfl⟩

end Go.Proofs.Ythfhaflbjclmfaa

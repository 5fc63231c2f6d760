/-
Zeros and middle sizes, as the reference tells them.
-/
import Derived.Test.YthfhaflbjclmfaaFs
namespace Go.Proofs.Ythfhaflbjclmfaa
open Go.RowKit Fl

theorem zero_bits (b : Nat) : ((((ex b : Nat) : Int) == 0) && (((fx b : Nat) : Int) == 0)) = decide (mg b = 0) := by
  have hG : G = 2048 * B := by decide
  have hB := B_pos
  have h1 : ex b = mg b / B := by
    unfold ex mg
    rw [hG, Nat.mul_comm, Nat.mod_mul_right_div_self]
  have h2 : fx b = mg b % B := by
    unfold fx mg
    rw [hG, Nat.mod_mul_left_mod]
  rw [h1, h2]
  by_cases h : mg b = 0
  · rw [h]; simp
  · rw [decide_eq_false h]
    have hd := Nat.div_add_mod (mg b) B
    by_cases h3 : mg b / B = 0
    · rw [h3] at hd
      have : ¬ mg b % B = 0 := by omega
      have e : ((((mg b % B : Nat)) : Int) == 0) = false := by simp only [beq_eq_false_iff_ne]; omega
      rw [e, Bool.and_false]
    · have e : ((((mg b / B : Nat)) : Int) == 0) = false := by simp only [beq_eq_false_iff_ne]; omega
      rw [e, Bool.false_and]

set_option maxHeartbeats 1000000 in
theorem IsZero_any (b : Nat) (hb : b < 2 * G) (w : World) : Calls Try.prog 18 #[.agg #[.int .i64 53, .int .i64 52, .int .i64 (-1074), .int .u64 2047, .int .u64 9223372036854775808], .int .u64 b] w fun e w' => e = .returned (.bool (decide (mg b = 0))) ∧ Ok w w' := by
  rw [← zero_bits b]
  have K := Ok.refl w
  have H := hid (exp_any b hb)
  have H2 := hid (frac_any b hb)
  cases h : (((ex b : Nat) : Int) == 0)
  all_goals
    go_enter Try.func18, Try.ntmps18
    go_wp2_with (first
      | (go_at_call 26; refine (H.out _).mono ?_; rintro e w1 ⟨rfl, ok⟩; obtain ⟨c0, c1, c2, c3, c4, kk⟩ := (Boxed.start _).next ok; replace K := kk)
      | (go_at_call 27; refine (H2.out _).mono ?_; rintro e w1 ⟨rfl, ok⟩; replace K := K.trans ok))
    go_ret
    exact ⟨rfl, K⟩

/-- 0, or of a middle size. -/
def midB (b : Nat) : Bool := decide (mg b = 0) || (decide (823 ≤ ex b) && decide (ex b < 1223))

set_option maxRecDepth 100000 in
set_option maxHeartbeats 4000000 in
theorem Middle_any (b : Nat) (hb : b < 2 * G) (w : World) : Calls Try.prog 19 #[.int .u64 b] w fun e w' => e = .returned (.bool (midB b)) ∧ Ok w w' := by
  have K := Ok.refl w
  have H := hid (exp_any b hb)
  cases h0 : decide (mg b = 0)
  · by_cases h1 : 823 ≤ ex b
    · by_cases h2 : ex b < 1223
      · have e : midB b = true := by unfold midB; rw [h0, decide_eq_true h1, decide_eq_true h2]; rfl
        rw [e]
        have i1 : decide ((823 : Int) ≤ ((ex b : Nat) : Int)) = true := decide_eq_true (by omega)
        have i2 : decide (((ex b : Nat) : Int) < 1223) = true := decide_eq_true (by omega)
        clear e h1 h2
        go_enter Try.func19, Try.ntmps19
        go_wp2_with (first
          | (go_at_call 16; refine (Double_any _).mono ?_; rintro e w1 ⟨rfl, ok⟩; replace K := K.trans ok)
          | (go_at_call 18; refine (IsZero_any _ (by assumption) _).mono ?_; rintro e w1 ⟨rfl, ok⟩; obtain ⟨c0, c1, c2, c3, c4, kk⟩ := (Boxed.start _).next ok; replace K := K.trans kk; clear kk ok)
          | (go_at_call 26; refine (H.out _).mono ?_; rintro e w1 ⟨rfl, ok⟩; replace c0 := ok.cell c0; replace c1 := ok.cell c1; replace c2 := ok.cell c2; replace c3 := ok.cell c3; replace c4 := ok.cell c4; replace K := K.trans ok; clear ok))
        go_ret
        exact ⟨rfl, K⟩
      · have e : midB b = false := by unfold midB; rw [h0, decide_eq_true h1, decide_eq_false h2]; rfl
        rw [e]
        have i1 : decide ((823 : Int) ≤ ((ex b : Nat) : Int)) = true := decide_eq_true (by omega)
        have i2 : decide (((ex b : Nat) : Int) < 1223) = false := decide_eq_false (by omega)
        clear e h1 h2
        go_enter Try.func19, Try.ntmps19
        go_wp2_with (first
          | (go_at_call 16; refine (Double_any _).mono ?_; rintro e w1 ⟨rfl, ok⟩; replace K := K.trans ok)
          | (go_at_call 18; refine (IsZero_any _ (by assumption) _).mono ?_; rintro e w1 ⟨rfl, ok⟩; obtain ⟨c0, c1, c2, c3, c4, kk⟩ := (Boxed.start _).next ok; replace K := K.trans kk; clear kk ok)
          | (go_at_call 26; refine (H.out _).mono ?_; rintro e w1 ⟨rfl, ok⟩; replace c0 := ok.cell c0; replace c1 := ok.cell c1; replace c2 := ok.cell c2; replace c3 := ok.cell c3; replace c4 := ok.cell c4; replace K := K.trans ok; clear ok))
        go_ret
        exact ⟨rfl, K⟩
    · have e : midB b = false := by unfold midB; rw [h0, decide_eq_false h1]; rfl
      rw [e]
      have i1 : decide ((823 : Int) ≤ ((ex b : Nat) : Int)) = false := decide_eq_false (by omega)
      clear e h1
      go_enter Try.func19, Try.ntmps19
      go_wp2_with (first
        | (go_at_call 16; refine (Double_any _).mono ?_; rintro e w1 ⟨rfl, ok⟩; replace K := K.trans ok)
        | (go_at_call 18; refine (IsZero_any _ (by assumption) _).mono ?_; rintro e w1 ⟨rfl, ok⟩; obtain ⟨c0, c1, c2, c3, c4, kk⟩ := (Boxed.start _).next ok; replace K := K.trans kk; clear kk ok)
        | (go_at_call 26; refine (H.out _).mono ?_; rintro e w1 ⟨rfl, ok⟩; replace c0 := ok.cell c0; replace c1 := ok.cell c1; replace c2 := ok.cell c2; replace c3 := ok.cell c3; replace c4 := ok.cell c4; replace K := K.trans ok; clear ok))
      go_ret
      exact ⟨rfl, K⟩
  · have e : midB b = true := by unfold midB; rw [h0]; rfl
    rw [e]
    clear e
    go_enter Try.func19, Try.ntmps19
    go_wp2_with (first
      | (go_at_call 16; refine (Double_any _).mono ?_; rintro e w1 ⟨rfl, ok⟩; replace K := K.trans ok)
      | (go_at_call 18; refine (IsZero_any _ (by assumption) _).mono ?_; rintro e w1 ⟨rfl, ok⟩; obtain ⟨c0, c1, c2, c3, c4, kk⟩ := (Boxed.start _).next ok; replace K := K.trans kk; clear kk ok)
      | (go_at_call 26; refine (H.out _).mono ?_; rintro e w1 ⟨rfl, ok⟩; replace c0 := ok.cell c0; replace c1 := ok.cell c1; replace c2 := ok.cell c2; replace c3 := ok.cell c3; replace c4 := ok.cell c4; replace K := K.trans ok; clear ok))
    go_ret
    exact ⟨rfl, K⟩

end Go.Proofs.Ythfhaflbjclmfaa

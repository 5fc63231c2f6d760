/-
What it is to be alike: the same bits, or two NaNs.
-/
import Derived.Test.YtpkhmjfbldoegaaFs
namespace Go.Proofs.Ytpkhmjfbldoegaa
open Go.RowKit Fl

/-- The same bits, or two NaNs. -/
def alikeB (a b : Nat) : Bool := decide (a = b) || (nanB a && nanB b)

set_option maxHeartbeats 1000000 in
theorem alike_any (a b : Nat) (ha : a < 2 * G) (hb : b < 2 * G) (w : World) : Calls Try.prog 28 #[.int .u64 a, .int .u64 b] w fun e w' => e = .returned (.bool (alikeB a b)) ∧ Ok w w' := by
  have K := Ok.refl w
  by_cases h : a = b
  · have e : alikeB a b = true := by unfold alikeB; rw [decide_eq_true h]; rfl
    rw [e]
    have h1 : (((a : Nat) : Int) == ((b : Nat) : Int)) = true := by rw [h]; simp
    clear h
    go_enter Try.func28, Try.ntmps28
    go_wp2_with fail
    go_ret
    exact ⟨rfl, K⟩
  · have h1 : (((a : Nat) : Int) == ((b : Nat) : Int)) = false := by simp; omega
    cases h2 : nanB a
    · have e : alikeB a b = false := by unfold alikeB; rw [decide_eq_false h, h2]; rfl
      rw [e]
      clear h
      go_enter Try.func28, Try.ntmps28
      go_wp2_with (first
        | (go_at_call 14; refine (Double_any _).mono ?_; rintro e w1 ⟨rfl, ok⟩; replace K := K.trans ok)
        | (go_at_call 15; refine (IsNaN_any _ (by assumption) _).mono ?_; rintro e w1 ⟨rfl, ok⟩; replace K := K.trans ok))
      go_ret
      exact ⟨rfl, K⟩
    · have e : alikeB a b = nanB b := by unfold alikeB; rw [decide_eq_false h, h2]; rfl
      rw [e]
      clear h
      go_enter Try.func28, Try.ntmps28
      go_wp2_with (first
        | (go_at_call 14; refine (Double_any _).mono ?_; rintro e w1 ⟨rfl, ok⟩; replace K := K.trans ok)
        | (go_at_call 15; refine (IsNaN_any _ (by assumption) _).mono ?_; rintro e w1 ⟨rfl, ok⟩; replace K := K.trans ok))
      go_ret
      exact ⟨rfl, K⟩

end Go.Proofs.Ytpkhmjfbldoegaa

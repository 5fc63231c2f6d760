/-
The law of the parts of a float.
-/
import Derived.Test.YtpkhmjfbldoegaaL4
namespace Go.Proofs.Ytpkhmjfbldoegaa
open Go.RowKit Fl

set_option maxHeartbeats 1000000 in
theorem exactModf_not (x : Nat) (hx : x < 2 * G) (hf : finB x = false) (w : World) :
    Calls Try.prog 5 #[.int .u64 x] w fun e w' => e = .returned (.bool true) ∧ Bl w w' := by
  have K := hid (Bl.refl w)
  have DB := hid Double_any
  have FI := hid (Finite_any x hx)
  rw [hf] at FI
  go_enter Try.func5, Try.ntmps5
  go_wp2_with (first
    | (go_at_call 14; refine (DB.out _).mono ?_; rintro e w1 ⟨rfl, ok⟩; replace K := hid (K.out.trans ok.bl); clear ok)
    | (go_at_call 23; refine (FI.out _).mono ?_; rintro e w1 ⟨rfl, ok⟩; replace K := hid (K.out.trans ok.bl); clear ok))
  go_ret
  exact ⟨rfl, K.out⟩

set_option maxHeartbeats 1000000 in
theorem exactModf_fin (s : Bool) (r : Nat) (hr : r < I) (w : World) :
    Calls Try.prog 5 #[.int .u64 (W s r : Nat)] w fun e w' => e = .returned (.bool true) ∧ Bl w w' := by
  have K := hid (Bl.refl w)
  have hx := word_lt s hr
  have DB := hid Double_any
  have FI := hid (Finite_any (W s r) hx)
  rw [finB_fin s hr] at FI
  have MD := hid (implModf s r hr)
  have DN := hid (Down_fin s r hr)
  have FR := hid (Fraction_fin s r hr)
  have h1 := word_lt s (ti_lt hr)
  have h2 := word_lt s (fr_lt hr)
  generalize W s r = x at *
  generalize W s (ti r) = y at *
  generalize W s (fr r) = z at *
  generalize hf r = q at *
  go_enter Try.func5, Try.ntmps5
  go_wp2_with (first
    | (go_at_call 14; refine (DB.out _).mono ?_; rintro e w1 ⟨rfl, ok⟩; replace K := hid (K.out.trans ok.bl); clear ok)
    | (go_at_call 23; refine (FI.out _).mono ?_; rintro e w1 ⟨rfl, ok⟩; replace K := hid (K.out.trans ok.bl); clear ok)
    | (go_at_call 24; refine (MD.out _).mono ?_; rintro e w1 ⟨rfl, rfl⟩)
    | (go_at_call 25; refine (DN.out _).mono ?_; rintro e w1 ⟨rfl, ok⟩; replace K := hid (K.out.trans ok); clear ok)
    | (go_at_call 26; refine (FR.out _).mono ?_; rintro e w1 ⟨rfl, ok⟩; replace K := hid (K.out.trans ok); clear ok))
  go_ret
  exact ⟨rfl, K.out⟩

theorem law_FnExactModf (a0 : Int) (w0 : (Lit.int .u64 a0).wf = true) (w : World) :
    Calls Try.prog 5 #[.int .u64 a0] w fun e w' => e = .returned (.bool true) ∧ Below w.heap.size w w' := by
  obtain ⟨x, rfl, hx⟩ := u64_nat w0
  cases h : finB x
  · exact exactModf_not x hx h w
  · obtain ⟨s, r, hr, rfl⟩ := fin_of hx h
    exact exactModf_fin s r hr w

end Go.Proofs.Ytpkhmjfbldoegaa

/-
The thin functions that look at floats; quotients of finite numbers.
-/
import Derived.Test.YthfhaflbjclmfaaDa
import Derived.Test.YthfhaflbjclmfaaDr
import Derived.KernelRfl
namespace Go.Proofs.Ythfhaflbjclmfaa
open Go.RowKit Fl

set_option maxHeartbeats 400000 in
theorem pkgIsFinite (x : Nat) (w : World) : Calls Try.prog 25 #[.float .f64 x] w fun e w' => e = .returned (.bool (finB x)) ∧ Drew w w' := by
  have H := hid (isFinite_any x)
  go_enter Try.func25, Try.ntmps25
  go_wp2_with (go_at_call 31; refine (H.out _).mono ?_; rintro e w' ⟨rfl, n, rfl⟩)
  go_ret
  exact ⟨rfl, n, rfl⟩
set_option maxHeartbeats 400000 in
theorem implIsFinite (x : Nat) (w : World) : Calls Try.prog 15 #[.float .f64 x] w fun e w' => e = .returned (.bool (finB x)) ∧ Drew w w' := by
  have H := hid (pkgIsFinite x)
  go_enter Try.func15, Try.ntmps15
  go_wp2_with (go_at_call 25; refine (H.out _).mono ?_; rintro e w' ⟨rfl, n, rfl⟩)
  go_ret
  exact ⟨rfl, n, rfl⟩

theorem fin_rep {x : Nat} {o : Option Nat} (h : Rep x o) : finB x = okf o := by
  cases o with
  | none => have := h.nan; unfold finB okf; rw [this]; rfl
  | some a => rw [h.some_eq]; rfl

theorem implFin_rep {x : Nat} {o : Option Nat} (h : Rep x o) (w : World) : Calls Try.prog 15 #[.float .f64 x] w fun e w' => e = .returned (.bool (okf o)) ∧ Drew w w' := by
  rw [← fin_rep h]; exact implIsFinite x w

theorem fin_inf {x : Nat} (h : finB x = true) : infB x = false ∧ nanB x = false := by
  unfold finB at h
  cases h1 : nanB x <;> cases h2 : infB x <;> simp [h1, h2] at h ⊢

/-- An infinity times a finite number is no finite number. -/
theorem inf_times (c : Nat) {a : Nat} (fa : finB a = true) : okf (omul (some (sInf c)) (some a)) = false := by
  show okf (Ieee.double.mul (W (sgB c) I) a) = false
  obtain ⟨h1, h2⟩ := fin_inf fa
  unfold Ieee.Format.mul
  rw [read_inf]
  cases hr : Ieee.double.read a with
  | nan s f => unfold nanB at h2; rw [hr] at h2; cases h2
  | infinity s => unfold infB at h1; rw [hr] at h1; cases h1
  | number s m e =>
    simp only [Ieee.Datum.product]
    by_cases hm : m = 0
    · rw [if_pos hm]; rfl
    · rw [if_neg hm]
      show finB (Ieee.double.word _ Ieee.double.infRung) = false
      rw [word_eq, inf_eq]
      unfold finB infB; rw [read_inf]; simp [Ieee.Datum.isInfinity]

section
variable {a b c d : Nat}
/-- A finite quotient of finite numbers comes by Smith's way. -/
theorem main_of_ok (fa : finB a = true) (fb : finB b = true) (fc : finB c = true) (fd : finB d = true) (h : okf (dE a b c d) = true) : dE a b c d = qE a b c d ∧ dF a b c d = qF a b c d := by
  unfold dE dF at *
  cases hq : ((qE a b c d).isNone && (qF a b c d).isNone)
  · exact ⟨rfl, rfl⟩
  · exfalso
    simp only [hq, Bool.not_true, Bool.false_eq_true, if_false] at h
    have e2 : k2 a b c d = false := by unfold k2; rw [(fin_inf fa).1, (fin_inf fb).1]; rfl
    have e3 : k3 a b c d = false := by unfold k3; rw [(fin_inf fc).1, (fin_inf fd).1]; rfl
    simp only [e2, e3, Bool.false_eq_true, if_false] at h
    split at h
    · rw [inf_times c fa] at h; cases h
    · rw [Bool.and_eq_true] at hq
      cases hE : qE a b c d with
      | none => rw [hE] at h; cases h
      | some x => rw [hE] at hq; cases hq.1

theorem main_back {x : Nat} (h : qE a b c d = some x) : dE a b c d = qE a b c d ∧ dF a b c d = qF a b c d := by
  unfold dE dF
  rw [h]; exact ⟨rfl, rfl⟩

theorem qE_nn : NN (qE a b c d) := by unfold qE; split <;> exact nn_div _ _
theorem qF_nn : NN (qF a b c d) := by unfold qF; split <;> exact nn_div _ _

/-- Of two quotients, the same but for signs of zeros, the one is what is asked of the other. -/
theorem pair_of {a' b' c' d' : Nat} {E F : Option Nat} (hE : okf E = true) (hF : okf F = true) (zE : ZR (qE a' b' c' d') E) (zF : ZR (qF a' b' c' d') F) :
    ∃ e f e' f', E = some e ∧ F = some f ∧ dE a' b' c' d' = some e' ∧ dF a' b' c' d' = some f' ∧ (FloatKind.f64.format.order e' e == some .eq) = true ∧ (FloatKind.f64.format.order f' f == some .eq) = true := by
  have k1 := zr_okf zE
  have k2 := zr_okf zF
  obtain ⟨e, he, fe⟩ := okf_some hE
  obtain ⟨f, hf, ff⟩ := okf_some hF
  rw [hE] at k1
  rw [hF] at k2
  obtain ⟨e', he', fe'⟩ := okf_some k1
  obtain ⟨f', hf', ff'⟩ := okf_some k2
  obtain ⟨m1, m2⟩ := main_back he'
  refine ⟨e, f, e', f', he, hf, m1.trans he', m2.trans hf', ?_, ?_⟩
  · rw [he', he] at zE
    exact zr_eq zE (qE_nn e' he').2 fe'
  · rw [hf', hf] at zF
    exact zr_eq zF (qF_nn f' hf').2 ff'
end

theorem three : dE 4618441417868443648 0 4611686018427387904 0 = some 4613937818241073152 := by kernel_rfl

end Go.Proofs.Ythfhaflbjclmfaa

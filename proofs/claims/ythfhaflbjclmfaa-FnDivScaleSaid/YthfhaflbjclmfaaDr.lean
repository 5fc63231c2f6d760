/-
The quotient when signs are turned.
-/
import Derived.Test.YthfhaflbjclmfaaDp
namespace Go.Proofs.Ythfhaflbjclmfaa.Fl
open Ieee

/-- A finite number? -/
def okf (o : Option Nat) : Bool := match o with
  | some x => finB x
  | none => false

theorem okf_some {o : Option Nat} (h : okf o = true) : ∃ x, o = some x ∧ finB x = true := by
  cases o with
  | none => cases h
  | some x => exact ⟨x, rfl, h⟩

/-- Dividing by a zero gives no finite number. -/
theorem div_zero (x : Nat) (s : Bool) : okf (odiv (some x) (some (W s 0))) = false := by
  show okf (double.div x (W s 0)) = false
  have h0 : double.read (W s 0) = .number s 0 (-1074 + (sh 0 : Nat)) := by
    rw [read_fin (by decide)]; rfl
  have hi : ∀ t, finB (double.write (.infinity t)) = false := by
    intro t
    show finB (double.word t double.infRung) = false
    rw [word_eq, inf_eq]
    unfold finB infB; rw [read_inf]; simp [Datum.isInfinity]
  unfold Format.div
  rw [h0]
  cases hx : double.read x with
  | nan t f => rfl
  | infinity t => exact hi _
  | number t m e =>
    simp only [Datum.quotient, if_true]
    by_cases hm : m = 0
    · rw [if_pos hm]; rfl
    · rw [if_neg hm]; exact hi _

theorem zr_div_l {n n' : Option Nat} (h : ZR n n') (d : Option Nat) : ZR (odiv n d) (odiv n' d) := by
  rcases h with rfl | ⟨s, t, rfl, rfl⟩
  · exact ZR.refl _
  · cases d with
    | none => exact ZR.refl _
    | some y =>
      show ZR (double.div (W s 0) y) (double.div (W t 0) y)
      have h0 : ∀ s, double.read (W s 0) = .number s 0 (-1074 + (sh 0 : Nat)) := fun s => by rw [read_fin (by decide)]; rfl
      unfold Format.div
      rw [h0, h0]
      cases hy : double.read y with
      | nan t f => exact ZR.refl _
      | infinity u =>
        right
        refine ⟨s ^^ u, t ^^ u, ?_, ?_⟩
        · simp only [Datum.quotient, Option.map_some, Format.write, nearest_eq, nr_zero]
        · simp only [Datum.quotient, Option.map_some, Format.write, nearest_eq, nr_zero]
      | number u n e =>
        simp only [Datum.quotient, if_true]
        by_cases hn : n = 0
        · rw [if_pos hn, if_pos hn]; exact ZR.refl _
        · rw [if_neg hn, if_neg hn]
          right
          have hz : ∀ k, 2 * ((0 <<< k) / n) + ((0 <<< k) % n != 0).toNat = 0 := fun k => by simp [Nat.zero_shiftLeft]
          refine ⟨s ^^ u, t ^^ u, ?_, ?_⟩
          · simp only [Option.map_some, Format.write, nearest_eq, hz, nr_zero]
          · simp only [Option.map_some, Format.write, nearest_eq, hz, nr_zero]

theorem zr_div_r {n d d' : Option Nat} (h : ZR d d') (ok : okf (odiv n d) = true) : odiv n d' = odiv n d := by
  rcases h with rfl | ⟨s, t, rfl, rfl⟩
  · rfl
  · cases n with
    | none => cases ok
    | some x => rw [div_zero] at ok; cases ok

theorem okf_opp {o : Option Nat} (h : Lt o) : okf (oopp o) = okf o := by
  cases o with
  | none => rfl
  | some x =>
    show finB (opp x) = finB x
    unfold finB nanB infB
    rw [opp_kind (h x rfl)]
    cases double.read x <;> rfl

theorem zr_okf {o p : Option Nat} (h : ZR o p) : okf o = okf p := by
  rcases h with rfl | ⟨s, t, rfl, rfl⟩
  · rfl
  · have hz : ∀ s, finB (W s 0) = true := fun s => by
      unfold finB nanB infB; rw [read_fin (by decide)]; rfl
    show finB (W s 0) = finB (W t 0)
    rw [hz, hz]

/-- Two finite results, the same but for a zero's sign, are equal. -/
theorem zr_eq {x y : Nat} (h : ZR (some x) (some y)) (hx : x < 2 * G) (fx : finB x = true) : (double.order x y == some .eq) = true := by
  rcases h with h | ⟨s, t, h1, h2⟩
  · obtain rfl : x = y := by injection h
    have := ne_self x
    have hn : nanB x = false := by
      unfold finB at fx; cases h : nanB x <;> simp [h] at fx ⊢
    rw [hn] at this
    simpa [bne] using this
  · injection h1 with h1
    injection h2 with h2
    subst h1 h2
    rw [order_fin (by decide) (by decide)]
    have : ∀ s, sv s 0 = 0 := fun s => by unfold sv; rw [val_zero]; cases s <;> rfl
    rw [this, this]; rfl

section
variable {a b c d : Nat}

theorem geB_opp_l (hc : c < 2 * G) : geB (opp c) d = geB c d := by unfold geB; rw [mg_opp c hc]
theorem geB_opp_r (hd : d < 2 * G) : geB c (opp d) = geB c d := by unfold geB; rw [mg_opp d hd]

theorem so (x : Nat) : some (opp x) = oopp (some x) := rfl

/-- The conjugates' quotient. -/
theorem conj_E (ha : a < 2 * G) (hb : b < 2 * G) (hc : c < 2 * G) (hd : d < 2 * G) (ok : okf (qE a b c d) = true) : ZR (qE a (opp b) c (opp d)) (qE a b c d) := by
  have la := Lt.some ha
  have lb := Lt.some hb
  have lc := Lt.some hc
  have ld := Lt.some hd
  unfold qE at ok ⊢
  rw [geB_opp_r hd]
  cases hg : geB c d
  · simp only [hg, Bool.false_eq_true, if_false] at ok ⊢
    rw [so, so, odiv_opp_r ld, omul_opp_r (nn_div _ _).lt, omul_opp_l (nn_div _ _).lt]
    have z1 := oadd_opp (o := omul (some a) (odiv (some c) (some d))) (p := some b) (nn_mul _ _).lt lb
    have z2 := oadd_opp (o := some d) (p := omul (odiv (some c) (some d)) (some c)) ld (nn_mul _ _).lt
    refine (zr_div_l z1 _).trans ?_
    rw [odiv_opp_l (nn_add _ _).lt]
    have ok' : okf (odiv (oadd (omul (some a) (odiv (some c) (some d))) (some b)) (oopp (oadd (some d) (omul (odiv (some c) (some d)) (some c))))) = true := by
      rw [odiv_opp_r (nn_add _ _).lt, okf_opp (nn_div _ _).lt]; exact ok
    rw [zr_div_r z2.symm ok', odiv_opp_r (nn_add _ _).lt, oopp_oopp]
    exact ZR.refl _
  · simp only [if_true]
    rw [so, so, odiv_opp_l ld, omul_opp_l lb, omul_opp_r (nn_div _ _).lt, oopp_oopp, omul_opp_l (nn_div _ _).lt, omul_opp_r ld, oopp_oopp]
    exact ZR.refl _

theorem conj_F (ha : a < 2 * G) (hb : b < 2 * G) (hc : c < 2 * G) (hd : d < 2 * G) (ok : okf (qF a b c d) = true) : ZR (qF a (opp b) c (opp d)) (oopp (qF a b c d)) := by
  have la := Lt.some ha
  have lb := Lt.some hb
  have lc := Lt.some hc
  have ld := Lt.some hd
  unfold qF at ok ⊢
  rw [geB_opp_r hd]
  cases hg : geB c d
  · simp only [hg, Bool.false_eq_true, if_false] at ok ⊢
    rw [so, so, odiv_opp_r ld, omul_opp_l lb, omul_opp_r (nn_div _ _).lt, oopp_oopp, omul_opp_l (nn_div _ _).lt]
    have z2 := oadd_opp (o := some d) (p := omul (odiv (some c) (some d)) (some c)) ld (nn_mul _ _).lt
    have ok' : okf (odiv (osub (omul (some b) (odiv (some c) (some d))) (some a)) (oopp (oadd (some d) (omul (odiv (some c) (some d)) (some c))))) = true := by
      rw [odiv_opp_r (nn_add _ _).lt, okf_opp (nn_div _ _).lt]; exact ok
    rw [zr_div_r z2.symm ok', odiv_opp_r (nn_add _ _).lt]
    exact ZR.refl _
  · simp only [hg, if_true] at ok ⊢
    rw [so, so, odiv_opp_l ld, omul_opp_r (nn_div _ _).lt, omul_opp_l (nn_div _ _).lt, omul_opp_r ld, oopp_oopp]
    rw [osub_eq (nn_mul _ _).lt.oopp, osub_eq (nn_mul _ _).lt]
    refine (zr_div_l (oadd_opp lb (nn_mul _ _).lt.oopp) _).trans ?_
    rw [odiv_opp_l (nn_add _ _).lt]
    exact ZR.refl _

/-- The opposite by a number. -/
theorem negl_E (ha : a < 2 * G) (hb : b < 2 * G) : ZR (qE (opp a) (opp b) c d) (oopp (qE a b c d)) := by
  have la := Lt.some ha
  have lb := Lt.some hb
  unfold qE
  split
  · rw [so, so, omul_opp_l lb]
    refine (zr_div_l (oadd_opp la (nn_mul _ _).lt) _).trans ?_
    rw [odiv_opp_l (nn_add _ _).lt]; exact ZR.refl _
  · rw [so, so, omul_opp_l la]
    refine (zr_div_l (oadd_opp (nn_mul _ _).lt lb) _).trans ?_
    rw [odiv_opp_l (nn_add _ _).lt]; exact ZR.refl _
theorem negl_F (ha : a < 2 * G) (hb : b < 2 * G) : ZR (qF (opp a) (opp b) c d) (oopp (qF a b c d)) := by
  have la := Lt.some ha
  have lb := Lt.some hb
  unfold qF
  split
  · rw [so, so, omul_opp_l la, osub_eq (nn_mul _ _).lt.oopp, osub_eq (nn_mul _ _).lt]
    refine (zr_div_l (oadd_opp lb (nn_mul _ _).lt.oopp) _).trans ?_
    rw [odiv_opp_l (nn_add _ _).lt]; exact ZR.refl _
  · rw [so, so, omul_opp_l lb, osub_eq la.oopp, osub_eq la]
    refine (zr_div_l (oadd_opp (nn_mul _ _).lt la.oopp) _).trans ?_
    rw [odiv_opp_l (nn_add _ _).lt]; exact ZR.refl _

/-- A number by the opposite. -/
theorem negr_E (hc : c < 2 * G) (hd : d < 2 * G) (ok : okf (qE a b c d) = true) : ZR (qE a b (opp c) (opp d)) (oopp (qE a b c d)) := by
  have lc := Lt.some hc
  have ld := Lt.some hd
  unfold qE at ok ⊢
  rw [geB_opp_r hd, geB_opp_l hc]
  cases hg : geB c d
  · simp only [hg, Bool.false_eq_true, if_false] at ok ⊢
    rw [so, so, odiv_opp_r ld, odiv_opp_l lc, oopp_oopp, omul_opp_r lc]
    have z2 := oadd_opp (o := some d) (p := omul (odiv (some c) (some d)) (some c)) ld (nn_mul _ _).lt
    have ok' : okf (odiv (oadd (omul (some a) (odiv (some c) (some d))) (some b)) (oopp (oadd (some d) (omul (odiv (some c) (some d)) (some c))))) = true := by
      rw [odiv_opp_r (nn_add _ _).lt, okf_opp (nn_div _ _).lt]; exact ok
    rw [zr_div_r z2.symm ok', odiv_opp_r (nn_add _ _).lt]
    exact ZR.refl _
  · simp only [hg, if_true] at ok ⊢
    rw [so, so, odiv_opp_r lc, odiv_opp_l ld, oopp_oopp, omul_opp_r ld]
    have z2 := oadd_opp (o := some c) (p := omul (odiv (some d) (some c)) (some d)) lc (nn_mul _ _).lt
    have ok' : okf (odiv (oadd (some a) (omul (some b) (odiv (some d) (some c)))) (oopp (oadd (some c) (omul (odiv (some d) (some c)) (some d))))) = true := by
      rw [odiv_opp_r (nn_add _ _).lt, okf_opp (nn_div _ _).lt]; exact ok
    rw [zr_div_r z2.symm ok', odiv_opp_r (nn_add _ _).lt]
    exact ZR.refl _
theorem negr_F (hc : c < 2 * G) (hd : d < 2 * G) (ok : okf (qF a b c d) = true) : ZR (qF a b (opp c) (opp d)) (oopp (qF a b c d)) := by
  have lc := Lt.some hc
  have ld := Lt.some hd
  unfold qF at ok ⊢
  rw [geB_opp_r hd, geB_opp_l hc]
  cases hg : geB c d
  · simp only [hg, Bool.false_eq_true, if_false] at ok ⊢
    rw [so, so, odiv_opp_r ld, odiv_opp_l lc, oopp_oopp, omul_opp_r lc]
    have z2 := oadd_opp (o := some d) (p := omul (odiv (some c) (some d)) (some c)) ld (nn_mul _ _).lt
    have ok' : okf (odiv (osub (omul (some b) (odiv (some c) (some d))) (some a)) (oopp (oadd (some d) (omul (odiv (some c) (some d)) (some c))))) = true := by
      rw [odiv_opp_r (nn_add _ _).lt, okf_opp (nn_div _ _).lt]; exact ok
    rw [zr_div_r z2.symm ok', odiv_opp_r (nn_add _ _).lt]
    exact ZR.refl _
  · simp only [hg, if_true] at ok ⊢
    rw [so, so, odiv_opp_r lc, odiv_opp_l ld, oopp_oopp, omul_opp_r ld]
    have z2 := oadd_opp (o := some c) (p := omul (odiv (some d) (some c)) (some d)) lc (nn_mul _ _).lt
    have ok' : okf (odiv (osub (some b) (omul (some a) (odiv (some d) (some c)))) (oopp (oadd (some c) (omul (odiv (some d) (some c)) (some d))))) = true := by
      rw [odiv_opp_r (nn_add _ _).lt, okf_opp (nn_div _ _).lt]; exact ok
    rw [zr_div_r z2.symm ok', odiv_opp_r (nn_add _ _).lt]
    exact ZR.refl _

end
end Go.Proofs.Ythfhaflbjclmfaa.Fl

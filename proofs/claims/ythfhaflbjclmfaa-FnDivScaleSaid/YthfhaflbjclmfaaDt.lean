/-
Quotients by real and by imaginary numbers, by 1, by infinities, by 0.
-/
import Derived.Test.YthfhaflbjclmfaaDe
namespace Go.Proofs.Ythfhaflbjclmfaa
open Go.RowKit Fl

theorem sv_zero (s : Bool) : sv s 0 = 0 := by unfold sv; rw [val_zero]; cases s <;> rfl
theorem sv_eq_zero {s : Bool} {r : Nat} : sv s r = 0 ↔ r = 0 := by
  unfold sv
  constructor
  · intro h
    apply val_eq_zero.1
    cases s <;> simp at h <;> omega
  · intro h; subst h; exact sv_zero s
theorem sv_sign {s : Bool} {r : Nat} (h : r ≠ 0) : decide (sv s r < 0) = s := by
  have hv : val r ≠ 0 := fun h' => h (val_eq_zero.1 h')
  cases s
  · apply decide_eq_false; unfold sv; simp
  · apply decide_eq_true; unfold sv; simp; omega
theorem sv_abs (s : Bool) (r : Nat) : (sv s r).natAbs = val r := by unfold sv; cases s <;> simp

/-- A number and a zero. -/
theorem add_zr (s t : Bool) {r : Nat} (h : r < I) : ZR (oadd (some (W s r)) (some (W t 0))) (some (W s r)) := by
  show ZR (Ieee.double.add (W s r) (W t 0)) _
  rw [add_fin h (by decide), sv_zero, Int.add_zero, sv_abs, nr_val0 (by omega)]
  by_cases hz : r = 0
  · subst hz
    exact Or.inr ⟨_, _, rfl, rfl⟩
  · rw [if_neg (fun h => hz (sv_eq_zero.1 h)), sv_sign hz]; exact ZR.refl _
theorem add_zl (s t : Bool) {r : Nat} (h : r < I) : ZR (oadd (some (W t 0)) (some (W s r))) (some (W s r)) := by
  show ZR (Ieee.double.add (W t 0) (W s r)) _
  rw [add_fin (by decide) h, sv_zero, Int.zero_add, sv_abs, nr_val0 (by omega)]
  by_cases hz : r = 0
  · subst hz
    exact Or.inr ⟨_, _, rfl, rfl⟩
  · rw [if_neg (fun h => hz (sv_eq_zero.1 h)), sv_sign hz]; exact ZR.refl _
theorem add_zero_eq (s t : Bool) {r : Nat} (h : r < I) (hz : r ≠ 0) : oadd (some (W s r)) (some (W t 0)) = some (W s r) := by
  show Ieee.double.add (W s r) (W t 0) = _
  rw [add_fin h (by decide), sv_zero, Int.add_zero, sv_abs, nr_val0 (by omega), if_neg (fun h => hz (sv_eq_zero.1 h)), sv_sign hz]

theorem read_zero (s : Bool) : Ieee.double.read (W s 0) = .number s 0 (-1074 + (sh 0 : Nat)) := by rw [read_fin (by decide)]; rfl

theorem mul_zero_r (s t : Bool) {r : Nat} (h : r < I) : omul (some (W s r)) (some (W t 0)) = some (W (s ^^ t) 0) := by
  show Ieee.double.mul (W s r) (W t 0) = _
  unfold Ieee.Format.mul
  rw [read_fin h, read_zero]
  simp only [Ieee.Datum.product, Option.map_some, Ieee.Format.write, nearest_eq, Nat.mul_zero, nr_zero]
theorem mul_zero_l (s t : Bool) {r : Nat} (h : r < I) : omul (some (W t 0)) (some (W s r)) = some (W (t ^^ s) 0) := by
  show Ieee.double.mul (W t 0) (W s r) = _
  unfold Ieee.Format.mul
  rw [read_fin h, read_zero]
  simp only [Ieee.Datum.product, Option.map_some, Ieee.Format.write, nearest_eq, Nat.zero_mul, nr_zero]

theorem mant_pos {r : Nat} (h : r ≠ 0) : mant r ≠ 0 := by
  intro hm
  by_cases hs : 0 < sh r
  · have := mant_ge hs; have := B_pos; omega
  · have e := rung_eq r
    rw [show sh r = 0 by omega, hm] at e
    omega

/-- The quotient of two finite numbers, the second one not 0: is there. -/
theorem div_there (s t : Bool) {r u : Nat} (hr : r < I) (hu : u < I) (hz : u ≠ 0) : ∃ q, q ≤ I ∧ odiv (some (W s r)) (some (W t u)) = some (W (s ^^ t) q) := by
  show ∃ q, q ≤ I ∧ Ieee.double.div (W s r) (W t u) = some (W (s ^^ t) q)
  unfold Ieee.Format.div
  rw [read_fin hr, read_fin hu]
  simp only [Ieee.Datum.quotient, if_neg (mant_pos hz), Option.map_some, Ieee.Format.write, nearest_eq]
  exact ⟨_, nr_le_I _ _, rfl⟩

theorem div_zero_l (s t : Bool) {u : Nat} (hu : u < I) (hz : u ≠ 0) : odiv (some (W s 0)) (some (W t u)) = some (W (s ^^ t) 0) := by
  show Ieee.double.div (W s 0) (W t u) = _
  unfold Ieee.Format.div
  rw [read_zero, read_fin hu]
  have h : ∀ k, 2 * ((0 <<< k) / mant u) + ((0 <<< k) % mant u != 0).toNat = 0 := fun k => by simp [Nat.zero_shiftLeft]
  simp only [Ieee.Datum.quotient, if_neg (mant_pos hz), Option.map_some, Ieee.Format.write, nearest_eq, h, nr_zero]

theorem div_inf (s t : Bool) {r : Nat} (h : r < I) : odiv (some (W s r)) (some (W t I)) = some (W (s ^^ t) 0) := by
  show Ieee.double.div (W s r) (W t I) = _
  unfold Ieee.Format.div
  rw [read_fin h, read_inf]
  simp only [Ieee.Datum.quotient, Option.map_some, Ieee.Format.write, nearest_eq, nr_zero]
theorem inf_add (s t : Bool) {r : Nat} (h : r < I) : oadd (some (W s I)) (some (W t r)) = some (W s I) := by
  show Ieee.double.add (W s I) (W t r) = _
  unfold Ieee.Format.add
  rw [read_fin h, read_inf]
  simp only [Ieee.Datum.sum, Option.map_some, Ieee.Format.write, word_eq, inf_eq]

theorem order_fin' {r u : Nat} (hr : r < I) (hu : u < I) : Ieee.double.order (W false r) (W false u) = some (compare (val r : Int) (val u : Int)) := by
  rw [order_fin hr hu]; rfl

theorem geB_zero (s t : Bool) {r : Nat} (h : r < I) (hz : r ≠ 0) : geB (W s r) (W t 0) = true ∧ geB (W t 0) (W s r) = false := by
  have hG : r < G := by rw [G_eq]; omega
  have hv : 0 < val r := by
    have : val r ≠ 0 := fun h' => hz (val_eq_zero.1 h')
    omega
  unfold geB
  rw [mg_W s hG, mg_W t (show 0 < G by decide)]
  have e1 : Ieee.double.order r 0 = some .gt := by
    show Ieee.double.order (W false r) (W false 0) = _
    rw [order_fin' h (by decide), val_zero, Int.compare_eq_gt.2 (by omega)]
  have e2 : Ieee.double.order 0 r = some .lt := by
    show Ieee.double.order (W false 0) (W false r) = _
    rw [order_fin' (by decide) h, val_zero, Int.compare_eq_lt.2 (by omega)]
  rw [e1, e2]
  exact ⟨rfl, rfl⟩

theorem geB_inf (s t : Bool) {r : Nat} (h : r < I) : geB (W s I) (W t r) = true ∧ geB (W t r) (W s I) = false := by
  have hG : r < G := by rw [G_eq]; omega
  unfold geB
  rw [mg_W s (show I < G by decide), mg_W t hG]
  have e1 : Ieee.double.order I r = some .gt := by
    show Ieee.double.order (W false I) (W false r) = _
    unfold Ieee.Format.order
    rw [read_fin h, read_inf]; rfl
  have e2 : Ieee.double.order r I = some .lt := by
    show Ieee.double.order (W false r) (W false I) = _
    unfold Ieee.Format.order
    rw [read_fin h, read_inf]; rfl
  rw [e1, e2]
  exact ⟨rfl, rfl⟩

/-- Equal, the same but for a zero's sign, and no NaNs. -/
theorem zr_eq2 {x y : Nat} (h : ZR (some x) (some y)) (hn : nanB x = false) : (Ieee.double.order x y == some .eq) = true := by
  rcases h with h | ⟨s, t, h1, h2⟩
  · obtain rfl : x = y := by injection h
    have := ne_self x
    rw [hn] at this
    simpa [bne] using this
  · injection h1 with h1
    injection h2 with h2
    subst h1 h2
    rw [order_fin (by decide) (by decide), sv_zero, sv_zero]; rfl

theorem zr_some {o : Option Nat} {y : Nat} (h : ZR o (some y)) : ∃ x, o = some x := by
  rcases h with rfl | ⟨s, t, h1, _⟩
  · exact ⟨_, rfl⟩
  · exact ⟨_, h1⟩

theorem dE_of {a b c d x : Nat} (h : qE a b c d = some x) : dE a b c d = qE a b c d ∧ dF a b c d = qF a b c d := main_back h

/-- What the laws ask of a quotient that is made of the quotients of parts. -/
theorem parts_of' {a b c d : Nat} {x y : Option Nat} {u v : Nat} (zE : ZR (qE a b c d) x) (zF : ZR (qF a b c d) y) (hx : x = some u) (hy : y = some v) :
    ∃ e f, dE a b c d = some e ∧ dF a b c d = some f ∧ (FloatKind.f64.format.order e u == some .eq) = true ∧ (FloatKind.f64.format.order f v == some .eq) = true := by
  subst hx hy
  obtain ⟨e, he⟩ := zr_some zE
  obtain ⟨f, hf⟩ := zr_some zF
  obtain ⟨m1, m2⟩ := main_back he
  refine ⟨e, f, m1.trans he, m2.trans hf, ?_, ?_⟩
  · rw [he] at zE; exact zr_eq2 zE (qE_nn e he).1
  · rw [hf] at zF; exact zr_eq2 zF (qF_nn f hf).1

section
variable (sa sb s : Bool) {ra rb r : Nat} (ha : ra < I) (hb : rb < I) (hr : r < I)

include ha hb hr in
theorem real_parts (hz : r ≠ 0) : ZR (qE (W sa ra) (W sb rb) (W s r) 0) (odiv (some (W sa ra)) (some (W s r))) ∧ ZR (qF (W sa ra) (W sb rb) (W s r) 0) (odiv (some (W sb rb)) (some (W s r))) := by
  have hg := (geB_zero s false hr hz).1
  rw [show W false 0 = 0 from rfl] at hg
  unfold qE qF
  rw [if_pos hg, if_pos hg]
  have r0 : odiv (some 0) (some (W s r)) = some (W (false ^^ s) 0) := div_zero_l false s hr hz
  have r1 : omul (some (W (false ^^ s) 0)) (some 0) = some (W ((false ^^ s) ^^ false) 0) := mul_zero_l false (false ^^ s) (r := 0) (by decide)
  rw [r0, r1, add_zero_eq s _ hr hz, mul_zero_r sb _ hb, mul_zero_r sa _ ha]
  refine ⟨zr_div_l (add_zr sa _ ha) _, ?_⟩
  have e : oopp (some (W (sa ^^ (false ^^ s)) 0)) = some (W (!(sa ^^ (false ^^ s))) 0) := by
    show some (opp _) = _; rw [opp_W _ (by decide)]
  rw [osub_eq (Lt.some (W_lt2 _ (by decide))), e]
  exact zr_div_l (add_zr sb _ hb) _

include ha hb hr in
theorem imag_parts (hz : r ≠ 0) : ZR (qE (W sa ra) (W sb rb) 0 (W s r)) (odiv (some (W sb rb)) (some (W s r))) ∧ ZR (qF (W sa ra) (W sb rb) 0 (W s r)) (odiv (some (opp (W sa ra))) (some (W s r))) := by
  have hg := (geB_zero s false hr hz).2
  rw [show W false 0 = 0 from rfl] at hg
  unfold qE qF
  rw [hg]
  simp only [Bool.false_eq_true, if_false]
  have r0 : odiv (some 0) (some (W s r)) = some (W (false ^^ s) 0) := div_zero_l false s hr hz
  have r1 : omul (some (W (false ^^ s) 0)) (some 0) = some (W ((false ^^ s) ^^ false) 0) := mul_zero_l false (false ^^ s) (r := 0) (by decide)
  rw [r0, r1, add_zero_eq s _ hr hz, mul_zero_r sb _ hb, mul_zero_r sa _ ha]
  refine ⟨zr_div_l (add_zl sb _ hb) _, ?_⟩
  have hG : ra < G := by rw [G_eq]; omega
  rw [osub_eq (Lt.some (W_lt2 _ hG))]
  have e : oopp (some (W sa ra)) = some (W (!sa) ra) := by
    show some (opp _) = _; rw [opp_W _ hG]
  rw [e, opp_W _ hG]
  exact zr_div_l (add_zl _ _ ha) _

end

/-- By 1. -/
theorem div_one (s : Bool) {r : Nat} (h : r < I) : odiv (some (W s r)) (some 4607182418800017408) = some (W s r) := by
  have h1 : (4607182418800017408 : Nat) < I := by decide
  have e1 : (4607182418800017408 : Nat) = W false 4607182418800017408 := rfl
  have em : mant 4607182418800017408 = 2 ^ 52 := by decide
  have es : sh 4607182418800017408 = 1022 := by decide
  rw [e1]
  show Ieee.double.div (W s r) (W false 4607182418800017408) = _
  unfold Ieee.Format.div
  rw [read_fin h, read_fin h1, em, es]
  have hl : (2 ^ 52 : Nat).log2 = 52 := by decide
  simp only [Ieee.Datum.quotient, if_neg (show ¬ (2 ^ 52 : Nat) = 0 by decide), Option.map_some, Ieee.Format.write, nearest_eq, hl, Bool.xor_false]
  congr 2
  -- the quotient is exact
  generalize hk : Ieee.double.fractionBits + 2 + 52 - (mant r).log2 = k
  have hf : Ieee.double.fractionBits = 52 := rfl
  rw [hf] at hk
  have hlog : (mant r).log2 ≤ 52 := by
    by_cases hm : mant r = 0
    · rw [hm]; decide
    · exact log2_lt hm (by have := mant_lt r; have e : 2 * B = 2 ^ (52 + 1) := by decide
                           omega)
  obtain ⟨j, rfl⟩ : ∃ j, k = 52 + j := ⟨k - 52, by omega⟩
  have hd : mant r <<< (52 + j) = mant r * 2 ^ j * 2 ^ 52 := by rw [shl, Nat.pow_add, Nat.mul_comm (2 ^ 52), Nat.mul_assoc]
  rw [hd, Nat.mul_div_cancel _ (by decide), Nat.mul_mod_left]
  have e0 : ((0 : Nat) != 0).toNat = 0 := rfl
  rw [e0, Nat.add_zero]
  refine (nr_congr (j := sh r) (k := j + 1) (m := val r) (q := -1074) ?_ (by omega)).trans (nr_val0 (by omega))
  unfold val
  rw [Nat.pow_succ 2 j]
  simp only [Nat.mul_assoc, Nat.mul_comm]

end Go.Proofs.Ythfhaflbjclmfaa

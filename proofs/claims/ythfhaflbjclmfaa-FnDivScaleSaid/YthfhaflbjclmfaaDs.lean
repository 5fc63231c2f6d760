/-
Powers of 2: numbers that are multiplied with one, and what that does to results.
-/
import Derived.Test.YthfhaflbjclmfaaDt
namespace Go.Proofs.Ythfhaflbjclmfaa
open Go.RowKit Fl

theorem log2_ge {n k : Nat} (h : 2 ^ k ≤ n) : k ≤ n.log2 := by
  have hn : n ≠ 0 := by have := Nat.two_pow_pos k; omega
  exact (Nat.le_log2 hn).2 h
theorem pow_log2 {n : Nat} (h : n ≠ 0) : 2 ^ n.log2 ≤ n := (Nat.le_log2 h).1 (Nat.le_refl _)
theorem lt_pow_log2 (n : Nat) : n < 2 ^ (n.log2 + 1) := Nat.lt_log2_self

/-- Rounding within the normal numbers: a significand and a place; a power of 2 moves the place alone. -/
theorem nr_norm {n : Nat} {q : Int} (hn : n ≠ 0) :
    ∃ (m : Nat) (e : Int), B ≤ m ∧ m < 2 * B ∧ (e = q + n.log2 - 52 ∨ e = q + n.log2 - 51) ∧
      ∀ j : Int, -1022 ≤ q + j + n.log2 → q + j + n.log2 ≤ 1022 → nr n (q + j) < I ∧ mant (nr n (q + j)) = m ∧ (-1074 : Int) + (sh (nr n (q + j)) : Nat) = e + j := by
  have hB := B_pos
  -- what is kept hangs on n alone
  obtain ⟨k, hk⟩ : ∃ k, k = near (n * 2 ^ (52 - n.log2)) (n.log2 - 52) := ⟨_, rfl⟩
  have hL1 := pow_log2 hn
  have hL2 := lt_pow_log2 n
  have k1 : B ≤ k := by
    rw [hk]
    apply le_near
    rw [B_pow, ← Nat.pow_add]
    by_cases h : n.log2 ≤ 52
    · have e : 52 + (n.log2 - 52) = n.log2 + (52 - n.log2) := by omega
      rw [e, Nat.pow_add]; exact Nat.mul_le_mul_right _ hL1
    · have e : 52 + (n.log2 - 52) = n.log2 := by omega
      have e2 : 52 - n.log2 = 0 := by omega
      rw [e, e2, Nat.pow_zero, Nat.mul_one]; exact hL1
  have k2 : k ≤ 2 * B := by
    rw [hk]
    apply near_le
    rw [two_B]
    by_cases h : n.log2 ≤ 52
    · have e : 53 + (n.log2 - 52) = n.log2 + 1 + (52 - n.log2) := by omega
      rw [e, Nat.pow_add]; exact Nat.le_of_lt (Nat.mul_lt_mul_of_pos_right hL2 (Nat.two_pow_pos _))
    · have e : 53 + (n.log2 - 52) = n.log2 + 1 := by omega
      have e2 : 52 - n.log2 = 0 := by omega
      rw [e, e2, Nat.pow_zero, Nat.mul_one]; omega
  -- the rung
  have rung : ∀ j : Int, -1022 ≤ q + j + n.log2 → q + j + n.log2 ≤ 1022 → nr n (q + j) = (q + j + n.log2 + 1022).toNat * B + k := by
    intro j j1 j2
    unfold nr
    rw [if_neg hn]
    have hm : max (q + j + (n.log2 : Int) - 52) (-1074) = q + j + n.log2 - 52 := by omega
    rw [hm]
    have e1 : (q + j + (n.log2 : Int) - 52 - -1074).toNat = (q + j + n.log2 + 1022).toNat := by omega
    have e2 : (q + j - (q + j + (n.log2 : Int) - 52)).toNat = 52 - n.log2 := by omega
    have e3 : (q + j + (n.log2 : Int) - 52 - (q + j)).toNat = n.log2 - 52 := by omega
    rw [e1, e2, e3, ← hk]
    apply Nat.min_eq_left
    have : (q + j + n.log2 + 1022).toNat ≤ 2044 := by omega
    have h3 : (q + j + n.log2 + 1022).toNat * B ≤ 2044 * B := Nat.mul_le_mul_right _ this
    have h4 := I_eq
    omega
  by_cases hc : k < 2 * B
  · refine ⟨k, q + n.log2 - 52, k1, hc, Or.inl rfl, fun j j1 j2 => ?_⟩
    have hr := rung j j1 j2
    obtain ⟨p1, p2⟩ := parts_of (m := k) (s := (q + j + n.log2 + 1022).toNat) hc (Or.inr k1)
    refine ⟨?_, by rw [hr]; exact p2, by rw [hr, p1]; omega⟩
    rw [hr]
    have h3 : (q + j + n.log2 + 1022).toNat * B ≤ 2044 * B := Nat.mul_le_mul_right _ (by omega)
    have h4 := I_eq
    omega
  · have hk2 : k = 2 * B := by omega
    refine ⟨B, q + n.log2 - 51, Nat.le_refl _, by omega, Or.inr rfl, fun j j1 j2 => ?_⟩
    have hr := rung j j1 j2
    have hr2 : nr n (q + j) = ((q + j + n.log2 + 1022).toNat + 1) * B + B := by rw [hr, hk2, Nat.add_mul, Nat.one_mul]; omega
    obtain ⟨p1, p2⟩ := parts_of (m := B) (s := (q + j + n.log2 + 1022).toNat + 1) (by omega) (Or.inr (Nat.le_refl _))
    refine ⟨?_, by rw [hr2]; exact p2, by rw [hr2, p1]; omega⟩
    rw [hr2]
    have h3 : ((q + j + n.log2 + 1022).toNat + 1) * B ≤ 2045 * B := Nat.mul_le_mul_right _ (by omega)
    have h4 := I_eq
    omega

/-- x' is x times 2 to the power of j: both the same zero, or normal; the sign; the exponent of x from lo to hi. -/
inductive Sc (j : Int) (s : Bool) (lo hi : Int) : Nat → Nat → Prop where
  | zero : Sc j s lo hi (W s 0) (W s 0)
  | num (r r' m : Nat) (p : Int) (h1 : r < I) (h2 : r' < I) (h3 : mant r = m) (h4 : mant r' = m) (h5 : B ≤ m) (h6 : (-1074 : Int) + (sh r : Nat) = p) (h7 : (-1074 : Int) + (sh r' : Nat) = p + j) (h8 : lo ≤ p + 52) (h9 : p + 52 ≤ hi) : Sc j s lo hi (W s r) (W s r')

/-- A zero or a normal number; the sign; the exponent from lo to hi. -/
inductive Fx (s : Bool) (lo hi : Int) : Nat → Prop where
  | zero : Fx s lo hi (W s 0)
  | num (r m : Nat) (p : Int) (h1 : r < I) (h3 : mant r = m) (h5 : B ≤ m) (h6 : (-1074 : Int) + (sh r : Nat) = p) (h8 : lo ≤ p + 52) (h9 : p + 52 ≤ hi) : Fx s lo hi (W s r)

theorem log2_mant {m : Nat} (h1 : B ≤ m) (h2 : m < 2 * B) : m.log2 = 52 := by
  apply Nat.le_antisymm
  · exact log2_lt (by have := B_pos; omega) (by have e : 2 * B = 2 ^ (52 + 1) := by decide
                                                omega)
  · exact log2_ge (by rw [← B_pow]; exact h1)

theorem Sc.wider {j : Int} {s : Bool} {lo hi lo' hi' : Int} {x x' : Nat} (h : Sc j s lo hi x x') (h1 : lo' ≤ lo) (h2 : hi ≤ hi') : Sc j s lo' hi' x x' := by
  cases h with
  | zero => exact .zero
  | num r r' m p a b c d e f g h i => exact .num r r' m p a b c d e f g (by omega) (by omega)

theorem Sc.opp {j : Int} {s : Bool} {lo hi : Int} {x x' : Nat} (h : Sc j s lo hi x x') : Sc j (!s) lo hi (opp x) (opp x') := by
  have hG := G_eq
  cases h with
  | zero => rw [opp_W s (by decide)]; exact .zero
  | num r r' m p a b c d e f g h i =>
    rw [opp_W s (by omega), opp_W s (by omega)]
    exact .num r r' m p a b c d e f g h i

/-- A rounded result and its multiple. -/
theorem sc_of (j : Int) (s : Bool) {n : Nat} {q : Int} (hn : n ≠ 0) (h1 : -1022 ≤ q + n.log2) (h2 : q + n.log2 ≤ 1022) (h3 : -1022 ≤ q + j + n.log2) (h4 : q + j + n.log2 ≤ 1022) {lo hi : Int} (h5 : lo ≤ q + n.log2) (h6 : q + n.log2 + 1 ≤ hi) :
    Sc j s lo hi (W s (nr n q)) (W s (nr n (q + j))) := by
  obtain ⟨m, e, m1, m2, he, hj⟩ := nr_norm (q := q) hn
  obtain ⟨a1, a2, a3⟩ := hj 0 (by omega) (by omega)
  obtain ⟨b1, b2, b3⟩ := hj j h3 h4
  rw [Int.add_zero] at a1 a2 a3
  exact .num _ _ m e a1 b1 a2 b2 m1 (by omega) b3 (by omega) (by omega)

theorem W_lt3 (s : Bool) {r : Nat} (h : r < I) : W s r < 2 * G := W_lt2 s (by rw [G_eq]; omega)

/-- A product of a number with its multiple, and of another one. -/
theorem mul_sc {j : Int} {s t : Bool} {lo hi lo2 hi2 : Int} {x x' y : Nat} (hx : Sc j s lo hi x x') (hy : Fx t lo2 hi2 y) (b1 : -1022 ≤ lo + lo2) (b2 : hi + hi2 + 1 ≤ 1022) (b3 : -1022 ≤ lo + lo2 + j) (b4 : hi + hi2 + 1 + j ≤ 1022) :
    ∃ z z', omul (some x) (some y) = some z ∧ omul (some x') (some y) = some z' ∧ Sc j (s ^^ t) (lo + lo2) (hi + hi2 + 2) z z' := by
  have key : ∀ r u, r < I → u < I → omul (some (W s r)) (some (W t u)) = some (W (s ^^ t) (nr (mant r * mant u) (-1074 + (sh r : Nat) + (-1074 + (sh u : Nat))))) := by
    intro r u hr hu
    show Ieee.double.mul (W s r) (W t u) = _
    unfold Ieee.Format.mul
    rw [read_fin hr, read_fin hu]
    simp only [Ieee.Datum.product, Option.map_some, Ieee.Format.write, nearest_eq]
  cases hy with
  | zero =>
    cases hx with
    | zero => exact ⟨_, _, mul_zero_r s t (by decide), mul_zero_r s t (by decide), .zero⟩
    | num r r' m p h1 h2 h3 h4 h5 h6 h7 h8 h9 => exact ⟨_, _, mul_zero_r s t h1, mul_zero_r s t h2, .zero⟩
  | num u n q g1 g3 g5 g6 g8 g9 =>
    cases hx with
    | zero => exact ⟨_, _, mul_zero_l t s g1, mul_zero_l t s g1, .zero⟩
    | num r r' m p h1 h2 h3 h4 h5 h6 h7 h8 h9 =>
      have hB := B_pos
      have mlt := mant_lt r
      have nlt := mant_lt u
      rw [h3] at mlt
      rw [g3] at nlt
      have lm := log2_mant h5 mlt
      have ln := log2_mant g5 nlt
      have hne : m * n ≠ 0 := Nat.mul_ne_zero (by omega) (by omega)
      have l1 : 104 ≤ (m * n).log2 := by
        apply log2_ge
        have e : (2 : Nat) ^ 104 = B * B := by rw [B_pow, ← Nat.pow_add]
        rw [e]; exact Nat.mul_le_mul h5 g5
      have l2 : (m * n).log2 ≤ 105 := by
        apply log2_lt hne
        have e : (2 : Nat) ^ (105 + 1) = (2 * B) * (2 * B) := by
          have : 2 * B = 2 ^ 53 := by decide
          rw [this, ← Nat.pow_add]
        rw [e]; exact Nat.mul_lt_mul'' mlt nlt
      refine ⟨_, _, key r u h1 g1, key r' u h2 g1, ?_⟩
      rw [h3, h4, g3, h6, h7, g6]
      have e : p + j + q = p + q + j := by omega
      rw [e]
      exact sc_of j (s ^^ t) hne (by omega) (by omega) (by omega) (by omega) (by omega) (by omega)

/-- The quotient of a number by another one, and of their multiples: the same. -/
theorem div_sc {j : Int} {s t : Bool} {lo hi lo2 hi2 : Int} {x x' y y' : Nat} (hx : Sc j s lo hi x x') (hy : Sc j t lo2 hi2 y y') (hz : ∀ u, y ≠ W u 0) (b1 : -1022 ≤ lo - hi2 - 1) (b2 : hi - lo2 ≤ 1022) :
    ∃ z, odiv (some x) (some y) = some z ∧ odiv (some x') (some y') = some z ∧ Fx (s ^^ t) (lo - hi2 - 1) (hi - lo2 + 1) z := by
  cases hy with
  | zero => exact absurd rfl (hz t)
  | num u u' n q g1 g2 g3 g4 g5 g6 g7 g8 g9 =>
    have hB := B_pos
    have zu : u ≠ 0 := by intro h; subst h; rw [mant_of_lt (by omega)] at g3; omega
    have zu' : u' ≠ 0 := by intro h; subst h; rw [mant_of_lt (by omega)] at g4; omega
    cases hx with
    | zero => exact ⟨_, div_zero_l s t g1 zu, div_zero_l s t g2 zu', .zero⟩
    | num r r' m p h1 h2 h3 h4 h5 h6 h7 h8 h9 =>
      have mlt := mant_lt r
      have nlt := mant_lt u
      rw [h3] at mlt
      rw [g3] at nlt
      have lm := log2_mant h5 mlt
      have ln := log2_mant g5 nlt
      have hf : Ieee.double.fractionBits = 52 := rfl
      have key : ∀ r u p q, r < I → u < I → mant r = m → mant u = n → (-1074 : Int) + (sh r : Nat) = p → (-1074 : Int) + (sh u : Nat) = q →
          odiv (some (W s r)) (some (W t u)) = some (W (s ^^ t) (nr (2 * (m <<< 54 / n) + (m <<< 54 % n != 0).toNat) (p - q - 54 - 1))) := by
        intro r u p q hr hu e1 e2 e3 e4
        show Ieee.double.div (W s r) (W t u) = _
        unfold Ieee.Format.div
        rw [read_fin hr, read_fin hu, e1, e2, e3, e4]
        have hn0 : n ≠ 0 := by omega
        have em : Ieee.double.fractionBits + 2 + n.log2 - m.log2 = 54 := by rw [hf, lm, ln]
        simp only [Ieee.Datum.quotient, if_neg hn0, em, Option.map_some, Ieee.Format.write, nearest_eq]
        rfl
      refine ⟨_, key r u p q h1 g1 h3 g3 h6 g6, ?_, ?_⟩
      · rw [key r' u' (p + j) (q + j) h2 g2 h4 g4 h7 g7]
        congr 3; omega
      · generalize hN : 2 * (m <<< 54 / n) + (m <<< 54 % n != 0).toNat = N
        have hd : m <<< 54 = m * 2 ^ 54 := shl m 54
        have hq1 : 2 ^ 53 ≤ m <<< 54 / n := by
          rw [Nat.le_div_iff_mul_le (by omega), hd]
          have e : (2 : Nat) ^ 54 = 2 ^ 53 * 2 := by decide
          rw [e, ← Nat.mul_assoc, Nat.mul_comm m, Nat.mul_assoc]
          exact Nat.mul_le_mul_left _ (by omega)
        have hq2 : m <<< 54 / n < 2 ^ 55 := by
          rw [Nat.div_lt_iff_lt_mul (by omega), hd]
          have e : (2 : Nat) ^ 55 = 2 * 2 ^ 54 := by decide
          rw [e, Nat.mul_comm m, Nat.mul_assoc, Nat.mul_comm 2, Nat.mul_assoc]
          exact Nat.mul_lt_mul_of_pos_left (by omega) (by decide)
        have hb := Bool.toNat_le (m <<< 54 % n != 0)
        have l1 : 54 ≤ N.log2 := log2_ge (by rw [← hN]; have e : (2 : Nat) ^ 54 = 2 * 2 ^ 53 := by decide
                                             omega)
        have l2 : N.log2 ≤ 55 := log2_lt (by have := Nat.two_pow_pos 53; omega) (by rw [← hN]; have e : (2 : Nat) ^ (55 + 1) = 2 * 2 ^ 55 := by decide
                                                                                    omega)
        obtain ⟨m', e, m1, m2, he, hj⟩ := nr_norm (n := N) (q := p - q - 54 - 1) (by have := Nat.two_pow_pos 53; omega)
        obtain ⟨a1, a2, a3⟩ := hj 0 (by omega) (by omega)
        rw [Int.add_zero] at a1 a2 a3
        exact .num _ m' e a1 a2 m1 (by omega) (by omega) (by omega)

theorem add_zero_eq_l (s t : Bool) {r : Nat} (h : r < I) (hz : r ≠ 0) : oadd (some (W t 0)) (some (W s r)) = some (W s r) := by
  show Ieee.double.add (W t 0) (W s r) = _
  rw [add_fin (by decide) h, sv_zero, Int.zero_add, sv_abs, nr_val0 (by omega), if_neg (fun h => hz (sv_eq_zero.1 h)), sv_sign hz]
theorem zero_add_zero (s t : Bool) : oadd (some (W s 0)) (some (W t 0)) = some (W (s && t) 0) := by
  show Ieee.double.add (W s 0) (W t 0) = _
  rw [add_fin (by decide) (by decide), sv_zero, sv_zero, Int.add_zero, if_pos rfl, Int.natAbs_zero, nr_zero]

theorem ne_zero_of_mant {r m : Nat} (h3 : mant r = m) (h5 : B ≤ m) : r ≠ 0 := by
  intro h; subst h
  rw [mant_of_lt (by decide)] at h3
  have := B_pos; omega

theorem not_zero (s : Bool) {r : Nat} (h : r < I) (hz : r ≠ 0) (v : Bool) : W s r ≠ W v 0 := by
  intro e
  have h1 := mg_W s (r := r) (by rw [G_eq]; omega)
  rw [e, mg_W v (by decide)] at h1
  exact hz h1.symm

theorem signed_abs (s : Bool) (m k : Nat) : (Ieee.signed s m k).natAbs = m * 2 ^ k := by
  unfold Ieee.signed
  rw [shl]
  generalize m * 2 ^ k = a
  cases s
  · simp only [Bool.false_eq_true, if_false, Int.natAbs_natCast]
  · simp only [if_true, Int.natAbs_neg, Int.natAbs_natCast]
theorem same_sign (s : Bool) {m : Nat} (hm : m ≠ 0) (k n l : Nat) : Ieee.signed s m k + Ieee.signed s n l ≠ 0 := by
  unfold Ieee.signed
  have h : 0 < m <<< k := by rw [shl]; exact Nat.mul_pos (by omega) (Nat.two_pow_pos _)
  generalize m <<< k = a at *
  generalize n <<< l = b
  cases s
  · simp only [Bool.false_eq_true, if_false]; omega
  · simp only [if_true]; omega

/-- The sum of two numbers, and of their multiples. -/
theorem add_sc {j : Int} {s t : Bool} {lo hi lo2 hi2 L H : Int} {x x' y y' : Nat} (hx : Sc j s lo hi x x') (hy : Sc j t lo2 hi2 y y') (l1 : L ≤ lo) (l2 : L ≤ lo2) (h1 : hi ≤ H) (h2 : hi2 ≤ H)
    (b1 : -1022 ≤ L - 52) (b2 : H + 1 ≤ 1022) (b3 : -1022 ≤ L - 52 + j) (b4 : H + 1 + j ≤ 1022) :
    ∃ u z z', oadd (some x) (some y) = some z ∧ oadd (some x') (some y') = some z' ∧ Sc j u (L - 52) (H + 2) z z' ∧ (s = t → (∀ v, x ≠ W v 0) → ∀ v, z ≠ W v 0) := by
  cases hx with
  | zero =>
    cases hy with
    | zero => exact ⟨_, _, _, zero_add_zero s t, zero_add_zero s t, .zero, fun _ h => absurd rfl (h s)⟩
    | num u u' n q g1 g2 g3 g4 g5 g6 g7 g8 g9 =>
      exact ⟨t, _, _, add_zero_eq_l t s g1 (ne_zero_of_mant g3 g5), add_zero_eq_l t s g2 (ne_zero_of_mant g4 g5), .num u u' n q g1 g2 g3 g4 g5 g6 g7 (by omega) (by omega), fun _ h => absurd rfl (h s)⟩
  | num r r' m p e1 e2 e3 e4 e5 e6 e7 e8 e9 =>
    cases hy with
    | zero =>
      exact ⟨s, _, _, add_zero_eq s t e1 (ne_zero_of_mant e3 e5), add_zero_eq s t e2 (ne_zero_of_mant e4 e5), .num r r' m p e1 e2 e3 e4 e5 e6 e7 (by omega) (by omega), fun _ h => h⟩
    | num u u' n q g1 g2 g3 g4 g5 g6 g7 g8 g9 =>
      have hB := B_pos
      have mlt := mant_lt r
      have nlt := mant_lt u
      rw [e3] at mlt
      rw [g3] at nlt
      generalize hT : Ieee.signed s m (p - min p q).toNat + Ieee.signed t n (q - min p q).toNat = T
      have key : ∀ r u p' q', r < I → u < I → mant r = m → mant u = n → (-1074 : Int) + (sh r : Nat) = p' → (-1074 : Int) + (sh u : Nat) = q' → p' - min p' q' = p - min p q → q' - min p' q' = q - min p q →
          oadd (some (W s r)) (some (W t u)) = some (W (if T = 0 then s && t else decide (T < 0)) (nr T.natAbs (min p' q'))) := by
        intro r u p' q' hr hu k1 k2 k3 k4 k5 k6
        show Ieee.double.add (W s r) (W t u) = _
        unfold Ieee.Format.add
        rw [read_fin hr, read_fin hu, k1, k2, k3, k4]
        simp only [Ieee.Datum.sum, Option.map_some, Ieee.Format.write, nearest_eq, k5, k6, hT]
      have r1 := key r u p q e1 g1 e3 g3 e6 g6 rfl rfl
      have r2 := key r' u' (p + j) (q + j) e2 g2 e4 g4 e7 g7 (by omega) (by omega)
      have hb : min (p + j) (q + j) = min p q + j := by omega
      rw [hb] at r2
      by_cases hz : T = 0
      · subst hz
        rw [if_pos rfl, Int.natAbs_zero, nr_zero] at r1 r2
        refine ⟨_, _, _, r1, r2, .zero, fun hst hv => ?_⟩
        -- of one sign the sum is not 0
        exfalso
        subst hst
        exact same_sign s (by omega) _ _ _ hT
      · rw [if_neg hz] at r1 r2
        have hn : T.natAbs ≠ 0 := by omega
        -- how great the sum is
        have hup : T.natAbs < 2 ^ (H + 2 - min p q).toNat := by
          have a1 := signed_abs s m (p - min p q).toNat
          have a2 := signed_abs t n (q - min p q).toNat
          have u1 : m * 2 ^ (p - min p q).toNat < 2 ^ (H + 1 - min p q).toNat := by
            have e : (2 : Nat) ^ (53 + (p - min p q).toNat) ≤ 2 ^ (H + 1 - min p q).toNat := Nat.pow_le_pow_right (by omega) (by omega)
            refine Nat.lt_of_lt_of_le (Nat.mul_lt_mul_of_pos_right mlt (Nat.two_pow_pos _)) ?_
            rw [two_B]; exact e
          have u2 : n * 2 ^ (q - min p q).toNat < 2 ^ (H + 1 - min p q).toNat := by
            have e : (2 : Nat) ^ (53 + (q - min p q).toNat) ≤ 2 ^ (H + 1 - min p q).toNat := Nat.pow_le_pow_right (by omega) (by omega)
            refine Nat.lt_of_lt_of_le (Nat.mul_lt_mul_of_pos_right nlt (Nat.two_pow_pos _)) ?_
            rw [two_B]; exact e
          have e2 : (H + 2 - min p q).toNat = (H + 1 - min p q).toNat + 1 := by omega
          rw [e2, Nat.pow_succ]
          omega
        have hl : T.natAbs.log2 ≤ (H + 1 - min p q).toNat := log2_lt hn (by
          have e2 : (H + 1 - min p q).toNat + 1 = (H + 2 - min p q).toNat := by omega
          rw [e2]; exact hup)
        have hsc := sc_of j (decide (T < 0)) (n := T.natAbs) (q := min p q) (lo := L - 52) (hi := H + 2) hn (by omega) (by omega) (by omega) (by omega) (by omega) (by omega)
        refine ⟨_, _, _, r1, r2, hsc, fun _ _ v => ?_⟩
        generalize hz1 : W (decide (T < 0)) (nr T.natAbs (min p q)) = z1 at hsc
        generalize hz2 : W (decide (T < 0)) (nr T.natAbs (min p q + j)) = z2 at hsc
        obtain ⟨m', e', m1, _, _, hj⟩ := nr_norm (n := T.natAbs) (q := min p q) hn
        obtain ⟨a1, a2, _⟩ := hj 0 (by omega) (by omega)
        rw [Int.add_zero] at a1 a2
        rw [← hz1]
        exact not_zero _ a1 (ne_zero_of_mant a2 m1) v

theorem product_comm (d e : Ieee.Datum) : d.product e = e.product d := by
  cases d <;> cases e <;> simp [Ieee.Datum.product, Bool.xor_comm, Nat.mul_comm, Int.add_comm]
theorem omul_comm (o p : Option Nat) : omul o p = omul p o := by
  cases o with
  | none => cases p <;> rfl
  | some x => cases p with
    | none => rfl
    | some y =>
      show Ieee.double.mul x y = Ieee.double.mul y x
      unfold Ieee.Format.mul; rw [product_comm]

theorem geB_fin (s t : Bool) {r u : Nat} (hr : r < I) (hu : u < I) : geB (W s r) (W t u) = decide (u ≤ r) := by
  unfold geB
  rw [mg_W s (by rw [G_eq]; omega), mg_W t (by rw [G_eq]; omega)]
  have e : Ieee.double.order r u = some (compare (val r : Int) (val u : Int)) := order_fin' hr hu
  rw [e]
  rcases Nat.lt_trichotomy r u with h | h | h
  · have hv := val_lt h
    rw [Int.compare_eq_lt.2 (by omega), decide_eq_false (by omega)]; rfl
  · subst h
    rw [Int.compare_eq_eq.2 rfl, decide_eq_true (Nat.le_refl _)]; rfl
  · have hv := val_lt h
    rw [Int.compare_eq_gt.2 (by omega), decide_eq_true (by omega)]; rfl

theorem rung_shift {r r' m : Nat} {p j : Int} (h3 : mant r = m) (h4 : mant r' = m) (h6 : (-1074 : Int) + (sh r : Nat) = p) (h7 : (-1074 : Int) + (sh r' : Nat) = p + j) : (r' : Int) = r + j * (B : Int) := by
  have e1 := rung_eq r
  have e2 := rung_eq r'
  rw [h3] at e1
  rw [h4] at e2
  have e3 : ((sh r' : Nat) : Int) = (sh r : Nat) + j := by omega
  have e4 : (r' : Int) = (sh r' : Nat) * (B : Int) + m := by
    have : ((sh r' * B + m : Nat) : Int) = (sh r' : Nat) * (B : Int) + m := by rw [Int.natCast_add, Int.natCast_mul]
    omega
  have e5 : (r : Int) = (sh r : Nat) * (B : Int) + m := by
    have : ((sh r * B + m : Nat) : Int) = (sh r : Nat) * (B : Int) + m := by rw [Int.natCast_add, Int.natCast_mul]
    omega
  rw [e4, e3, Int.add_mul]; omega

/-- Multiples stand to each other as the numbers do. -/
theorem geB_sc {j : Int} {s t : Bool} {lo hi lo2 hi2 : Int} {x x' y y' : Nat} (hx : Sc j s lo hi x x') (hy : Sc j t lo2 hi2 y y') : geB x' y' = geB x y := by
  cases hx with
  | zero =>
    cases hy with
    | zero => rfl
    | num u u' n q g1 g2 g3 g4 g5 g6 g7 g8 g9 =>
      have a1 := ne_zero_of_mant g3 g5
      have a2 := ne_zero_of_mant g4 g5
      rw [geB_fin s t (by decide) g1, geB_fin s t (by decide) g2, decide_eq_false (by omega), decide_eq_false (by omega)]
  | num r r' m p e1 e2 e3 e4 e5 e6 e7 e8 e9 =>
    cases hy with
    | zero => rw [geB_fin s t e1 (by decide), geB_fin s t e2 (by decide), decide_eq_true (by omega), decide_eq_true (by omega)]
    | num u u' n q g1 g2 g3 g4 g5 g6 g7 g8 g9 =>
      rw [geB_fin s t e1 g1, geB_fin s t e2 g2]
      have a1 := rung_shift e3 e4 e6 e7
      have a2 := rung_shift g3 g4 g6 g7
      by_cases h : u ≤ r
      · rw [decide_eq_true h, decide_eq_true (by omega)]
      · rw [decide_eq_false h, decide_eq_false (by omega)]

/-- The ratio of the lesser part to the greater one. -/
theorem ratio_sc {j : Int} {s t : Bool} {c c' d d' : Nat} (hc : Sc j s (-200) 199 c c') (hd : Sc j t (-200) 199 d d') (hg : geB c d = true) (hz : ∀ v, c ≠ W v 0) :
    ∃ z, odiv (some d) (some c) = some z ∧ odiv (some d') (some c') = some z ∧ Fx (t ^^ s) (-400) 1 z := by
  cases hc with
  | zero => exact absurd rfl (hz s)
  | num r r' m p e1 e2 e3 e4 e5 e6 e7 e8 e9 =>
    have hc' : Sc j s (p + 52) (p + 52) (W s r) (W s r') := .num r r' m p e1 e2 e3 e4 e5 e6 e7 (Int.le_refl _) (Int.le_refl _)
    have hd' : Sc j t (-200) (p + 52) d d' := by
      cases hd with
      | zero => exact .zero
      | num u u' n q g1 g2 g3 g4 g5 g6 g7 g8 g9 =>
        rw [geB_fin s t e1 g1] at hg
        have hle := of_decide_eq_true hg
        have hs : sh u ≤ sh r := by
          unfold sh
          have := Nat.div_le_div_right (c := B) hle
          omega
        exact .num u u' n q g1 g2 g3 g4 g5 g6 g7 g8 (by omega)
    obtain ⟨z, z1, z2, z3⟩ := div_sc hd' hc' hz (by omega) (by omega)
    refine ⟨z, z1, z2, ?_⟩
    cases z3 with
    | zero => exact .zero
    | num r m p a b c d e f => exact .num r m p a b c d (by omega) (by omega)

theorem Fx.fin {s : Bool} {lo hi : Int} {z : Nat} (h : Fx s lo hi z) : finB z = true := by
  have key : ∀ s r, r < I → finB (W s r) = true := fun s r hr => by
    unfold finB infB; rw [nanB_fin hr, read_fin hr]; rfl
  cases h with
  | zero => exact key _ _ (by decide)
  | num r m p h1 _ _ _ _ _ => exact key _ _ h1

section
variable {j : Int} {sa sb sc sd : Bool} {a a' b b' c c' d d' : Nat}

/-- A number whose parts are multiplied with a power of 2: the same quotient. -/
theorem scale_div (j1 : -50 ≤ j) (j2 : j ≤ 50) (ha : Sc j sa (-200) 199 a a') (hb : Sc j sb (-200) 199 b b') (hc : Sc j sc (-200) 199 c c') (hd : Sc j sd (-200) 199 d d')
    (hz : (∀ v, c ≠ W v 0) ∨ (∀ v, d ≠ W v 0)) :
    ∃ e f, qE a b c d = some e ∧ qF a b c d = some f ∧ qE a' b' c' d' = some e ∧ qF a' b' c' d' = some f ∧ finB e = true ∧ finB f = true := by
  have hgs := geB_sc hc hd
  unfold qE qF
  rw [hgs]
  cases hg : geB c d
  · -- |c| < |d|
    simp only [Bool.false_eq_true, if_false]
    have hdz : ∀ v, d ≠ W v 0 := by
      rcases hz with h | h
      · intro v hv
        cases hd with
        | zero =>
          cases hc with
          | zero => exact h sc rfl
          | num r r' m p e1 e2 e3 e4 e5 e6 e7 e8 e9 => rw [geB_fin sc sd e1 (by decide)] at hg; simp at hg
        | num u u' n q g1 g2 g3 g4 g5 g6 g7 g8 g9 => exact not_zero sd g1 (ne_zero_of_mant g3 g5) v hv
      · exact h
    have hg' : geB d c = true := by
      cases hc with
      | zero =>
        cases hd with
        | zero => exact absurd rfl (hdz sd)
        | num u u' n q g1 g2 g3 g4 g5 g6 g7 g8 g9 => rw [geB_fin sd sc g1 (by decide)]; simp
      | num r r' m p e1 e2 e3 e4 e5 e6 e7 e8 e9 =>
        cases hd with
        | zero => exact absurd rfl (hdz sd)
        | num u u' n q g1 g2 g3 g4 g5 g6 g7 g8 g9 =>
          rw [geB_fin sc sd e1 g1] at hg
          rw [geB_fin sd sc g1 e1]
          have := of_decide_eq_false hg
          exact decide_eq_true (by omega)
    obtain ⟨z, z1, z2, z3⟩ := ratio_sc hd hc hg' hdz
    obtain ⟨y, y', p1, p2, p3⟩ := mul_sc hc z3 (by omega) (by omega) (by omega) (by omega)
    have es : (sc ^^ (sc ^^ sd)) = sd := by cases sc <;> cases sd <;> rfl
    rw [es] at p3
    obtain ⟨u, n, n', q1, q2, q3, q4⟩ := add_sc (L := -600) (H := 202) hd p3 (by omega) (by omega) (by omega) (by omega) (by omega) (by omega) (by omega) (by omega)
    have q5 := q4 rfl hdz
    obtain ⟨ya, ya', a1, a2, a3⟩ := mul_sc ha z3 (by omega) (by omega) (by omega) (by omega)
    obtain ⟨yb, yb', b1, b2, b3⟩ := mul_sc hb z3 (by omega) (by omega) (by omega) (by omega)
    obtain ⟨u2, v, v', v1, v2, v3, _⟩ := add_sc (L := -600) (H := 202) a3 hb (by omega) (by omega) (by omega) (by omega) (by omega) (by omega) (by omega) (by omega)
    obtain ⟨u3, w, w', w1, w2, w3, _⟩ := add_sc (L := -600) (H := 202) b3 ha.opp (by omega) (by omega) (by omega) (by omega) (by omega) (by omega) (by omega) (by omega)
    obtain ⟨e, e1, e2, e3⟩ := div_sc v3 q3 q5 (by omega) (by omega)
    obtain ⟨f, f1, f2, f3⟩ := div_sc w3 q3 q5 (by omega) (by omega)
    have la : a < 2 * G := by cases ha with
      | zero => exact W_lt3 _ (by decide)
      | num r r' m p e1 _ _ _ _ _ _ _ _ => exact W_lt3 _ e1
    have la' : a' < 2 * G := by cases ha with
      | zero => exact W_lt3 _ (by decide)
      | num r r' m p _ e2 _ _ _ _ _ _ _ => exact W_lt3 _ e2
    refine ⟨e, f, ?_, ?_, ?_, ?_, e3.fin, f3.fin⟩
    · rw [z1, omul_comm (some z), p1, q1, a1, v1, e1]
    · rw [z1, omul_comm (some z), p1, q1, b1, osub_eq (Lt.some la)]
      show odiv (oadd (some yb) (some (opp a))) _ = _
      rw [w1, f1]
    · rw [z2, omul_comm (some z), p2, q2, a2, v2, e2]
    · rw [z2, omul_comm (some z), p2, q2, b2, osub_eq (Lt.some la')]
      show odiv (oadd (some yb') (some (opp a'))) _ = _
      rw [w2, f2]
  · -- |c| ≥ |d|
    simp only [if_true]
    have hcz : ∀ v, c ≠ W v 0 := by
      rcases hz with h | h
      · exact h
      · intro v hv
        cases hc with
        | zero =>
          cases hd with
          | zero => exact h sd rfl
          | num u u' n q g1 g2 g3 g4 g5 g6 g7 g8 g9 =>
            rw [geB_fin sc sd (by decide) g1] at hg
            have := of_decide_eq_true hg
            exact ne_zero_of_mant g3 g5 (by omega)
        | num u u' n q g1 g2 g3 g4 g5 g6 g7 g8 g9 => exact not_zero sc g1 (ne_zero_of_mant g3 g5) v hv
    obtain ⟨z, z1, z2, z3⟩ := ratio_sc hc hd hg hcz
    obtain ⟨y, y', p1, p2, p3⟩ := mul_sc hd z3 (by omega) (by omega) (by omega) (by omega)
    have es : (sd ^^ (sd ^^ sc)) = sc := by cases sc <;> cases sd <;> rfl
    rw [es] at p3
    obtain ⟨u, n, n', q1, q2, q3, q4⟩ := add_sc (L := -600) (H := 202) hc p3 (by omega) (by omega) (by omega) (by omega) (by omega) (by omega) (by omega) (by omega)
    have q5 := q4 rfl hcz
    obtain ⟨ya, ya', a1, a2, a3⟩ := mul_sc ha z3 (by omega) (by omega) (by omega) (by omega)
    obtain ⟨yb, yb', b1, b2, b3⟩ := mul_sc hb z3 (by omega) (by omega) (by omega) (by omega)
    obtain ⟨u2, v, v', v1, v2, v3, _⟩ := add_sc (L := -600) (H := 202) ha b3 (by omega) (by omega) (by omega) (by omega) (by omega) (by omega) (by omega) (by omega)
    obtain ⟨u3, w, w', w1, w2, w3, _⟩ := add_sc (L := -600) (H := 202) hb a3.opp (by omega) (by omega) (by omega) (by omega) (by omega) (by omega) (by omega) (by omega)
    obtain ⟨e, e1, e2, e3⟩ := div_sc v3 q3 q5 (by omega) (by omega)
    obtain ⟨f, f1, f2, f3⟩ := div_sc w3 q3 q5 (by omega) (by omega)
    have la : ya < 2 * G := by cases a3 with
      | zero => exact W_lt3 _ (by decide)
      | num r r' m p e1 _ _ _ _ _ _ _ _ => exact W_lt3 _ e1
    have la' : ya' < 2 * G := by cases a3 with
      | zero => exact W_lt3 _ (by decide)
      | num r r' m p _ e2 _ _ _ _ _ _ _ => exact W_lt3 _ e2
    refine ⟨e, f, ?_, ?_, ?_, ?_, e3.fin, f3.fin⟩
    · rw [z1, omul_comm (some z), p1, q1, b1, v1, e1]
    · rw [z1, omul_comm (some z), p1, q1, a1, osub_eq (Lt.some la)]
      show odiv (oadd (some b) (some (opp ya))) _ = _
      rw [w1, f1]
    · rw [z2, omul_comm (some z), p2, q2, b2, v2, e2]
    · rw [z2, omul_comm (some z), p2, q2, a2, osub_eq (Lt.some la')]
      show odiv (oadd (some b') (some (opp ya'))) _ = _
      rw [w2, f2]

end

end Go.Proofs.Ythfhaflbjclmfaa

/-
Binary64 numbers as whole multiples of the least one: what reading, rounding to nearest, sums and comparisons give.
-/
import Ieee.Arith
namespace Go.Proofs.Ytpkhmjfbldoegaa.Fl
open Ieee

/-- Rungs to one binade. -/
def B : Nat := 4503599627370496
/-- The rung of infinity. -/
def I : Nat := 9218868437227405312
/-- What the sign adds. -/
def G : Nat := 9223372036854775808

theorem binade_eq : double.binade = B := by decide
theorem inf_eq : double.infRung = I := by decide
theorem sign_eq : double.signWeight = G := by decide
theorem least_eq : double.leastPlace = -1074 := by decide
theorem B_pow : B = 2 ^ 52 := by decide
theorem G_eq : G = I + B := by decide
theorem I_eq : I = 2047 * B := by decide
theorem B_pos : 0 < B := by decide

/-- The word of a sign and a rung. -/
def W (s : Bool) (r : Nat) : Nat := if s then G + r else r

theorem word_eq (s : Bool) (r : Nat) : double.word s r = W s r := by
  unfold Format.word W; rw [sign_eq]

/-- The significand of a rung. -/
def mant (r : Nat) : Nat := if r < B then r else B + r % B
/-- Its place above the least one. -/
def sh (r : Nat) : Nat := r / B - 1
/-- A rung's number, in units of the least one. -/
def val (r : Nat) : Nat := mant r * 2 ^ sh r

theorem rung_eq (r : Nat) : r = sh r * B + mant r := by
  unfold sh mant
  have hB := B_pos
  split
  · rename_i h
    rw [Nat.div_eq_of_lt h]; simp
  · rename_i h
    have h1 : 1 ≤ r / B := (Nat.le_div_iff_mul_le hB).2 (by omega)
    have h2 := Nat.div_add_mod r B
    have h3 : (r / B - 1) * B + B = B * (r / B) := by
      rw [← Nat.succ_mul, Nat.mul_comm]; congr 1; omega
    omega

theorem mant_lt (r : Nat) : mant r < 2 * B := by
  unfold mant
  have := Nat.mod_lt r B_pos
  split <;> omega

theorem mant_ge {r : Nat} (h : 0 < sh r) : B ≤ mant r := by
  unfold mant
  split
  · rename_i hr
    unfold sh at h; rw [Nat.div_eq_of_lt hr] at h; omega
  · omega

theorem sh_of_lt {r : Nat} (h : r < 2 * B) : sh r = 0 := by
  unfold sh
  have : r / B < 2 := (Nat.div_lt_iff_lt_mul B_pos).2 h
  omega

theorem mant_of_lt {r : Nat} (h : r < 2 * B) : mant r = r := by
  have h1 := rung_eq r
  rw [sh_of_lt h] at h1
  omega

theorem val_of_lt {r : Nat} (h : r < 2 * B) : val r = r := by
  unfold val; rw [mant_of_lt h, sh_of_lt h]; simp

/-- The significand and the place of a rung that is written so. -/
theorem parts_of {m s : Nat} (h1 : m < 2 * B) (h2 : s = 0 ∨ B ≤ m) : sh (s * B + m) = s ∧ mant (s * B + m) = m := by
  have hB := B_pos
  rcases Nat.lt_or_ge m B with hm | hm
  · rcases h2 with rfl | h2
    · simp only [Nat.zero_mul, Nat.zero_add]
      exact ⟨sh_of_lt h1, mant_of_lt h1⟩
    · omega
  · have e : s * B + m = (m - B) + B * (s + 1) := by rw [Nat.mul_succ, Nat.mul_comm]; omega
    have hs : sh (s * B + m) = s := by
      unfold sh
      rw [e, Nat.add_mul_div_left _ _ hB, Nat.div_eq_of_lt (by omega)]; omega
    refine ⟨hs, ?_⟩
    have := rung_eq (s * B + m)
    rw [hs] at this; omega

theorem val_of {m s : Nat} (h1 : m < 2 * B) (h2 : s = 0 ∨ B ≤ m) : val (s * B + m) = m * 2 ^ s := by
  unfold val; rw [(parts_of h1 h2).1, (parts_of h1 h2).2]

theorem val_lt {r t : Nat} (h : r < t) : val r < val t := by
  have e1 := rung_eq r; have e2 := rung_eq t
  have m1 := mant_lt r; have m2 := mant_lt t
  have hB := B_pos
  unfold val
  rcases Nat.lt_trichotomy (sh r) (sh t) with hs | hs | hs
  · have hm := mant_ge (r := t) (by omega)
    have hp : 2 ^ (sh r + 1) ≤ 2 ^ sh t := Nat.pow_le_pow_right (by omega) hs
    have h3 : mant r * 2 ^ sh r < 2 * B * 2 ^ sh r := Nat.mul_lt_mul_of_pos_right m1 (Nat.two_pow_pos _)
    have h4 : 2 * B * 2 ^ sh r = B * 2 ^ (sh r + 1) := by rw [Nat.pow_succ]; simp only [Nat.mul_assoc, Nat.mul_comm]
    have h5 : B * 2 ^ (sh r + 1) ≤ mant t * 2 ^ sh t := Nat.mul_le_mul hm hp
    omega
  · have : mant r < mant t := by rw [hs] at e1; omega
    rw [hs]; exact Nat.mul_lt_mul_of_pos_right this (Nat.two_pow_pos _)
  · exfalso
    have : sh t * B + B ≤ sh r * B := by rw [← Nat.succ_mul]; exact Nat.mul_le_mul_right _ hs
    have := mant_ge (r := r) (by omega)
    omega

theorem val_le {r t : Nat} (h : r ≤ t) : val r ≤ val t := by
  rcases Nat.lt_or_ge r t with h' | h'
  · exact Nat.le_of_lt (val_lt h')
  · have : r = t := by omega
    rw [this]; exact Nat.le_refl _

theorem val_lt_iff {r t : Nat} : val r < val t ↔ r < t := by
  constructor
  · intro h
    rcases Nat.lt_or_ge r t with h' | h'
    · exact h'
    · have := val_le h'; omega
  · exact val_lt

theorem val_le_iff {r t : Nat} : val r ≤ val t ↔ r ≤ t := by
  constructor
  · intro h
    rcases Nat.lt_or_ge t r with h' | h'
    · have := val_lt h'; omega
    · exact h'
  · exact val_le

theorem val_inj {r t : Nat} (h : val r = val t) : r = t :=
  Nat.le_antisymm (val_le_iff.1 (by omega)) (val_le_iff.1 (by omega))

theorem val_zero : val 0 = 0 := by rw [val_of_lt (by decide)]
theorem val_eq_zero {r : Nat} : val r = 0 ↔ r = 0 :=
  ⟨fun h => val_inj (h.trans val_zero.symm), fun h => h ▸ val_zero⟩

/-! ### Reading -/

theorem read_fin {s : Bool} {r : Nat} (h : r < I) : double.read (W s r) = .number s (mant r) (-1074 + (sh r : Nat)) := by
  have e1 : W s r / G % 2 = s.toNat := by
    have := G_eq; have := B_pos
    cases s
    · show r / G % 2 = 0
      rw [Nat.div_eq_of_lt (by omega)]
    · show (G + r) / G % 2 = 1
      rw [Nat.add_div_left _ (by omega), Nat.div_eq_of_lt (by omega)]
  have e2 : W s r % G = r := by
    have := G_eq; have := B_pos
    cases s
    · show r % G = r
      exact Nat.mod_eq_of_lt (by omega)
    · show (G + r) % G = r
      rw [Nat.add_mod_left]; exact Nat.mod_eq_of_lt (by omega)
  unfold Format.read
  simp only [sign_eq, e1, e2, binade_eq, inf_eq, least_eq]
  have hs : (s.toNat == 1) = s := by cases s <;> rfl
  rw [hs]
  by_cases hb : r < B
  · rw [if_pos hb, mant_of_lt (by omega), sh_of_lt (by omega)]; rfl
  · rw [if_neg hb, if_pos h]
    unfold mant sh
    rw [if_neg hb]

theorem read_inf (s : Bool) : double.read (W s I) = .infinity s := by cases s <;> decide

/-- A word is finite, an infinity or a NaN. -/
inductive Kind (x : Nat) : Prop where
  | fin (s : Bool) (r : Nat) (h : r < I) (e : x = W s r)
  | inf (s : Bool) (e : x = W s I)
  | nan (s : Bool) (f : Nat) (h : f ≠ 0) (h' : f < B) (e : x = W s (I + f)) (hr : double.read x = .nan s f)

theorem read_nan {s : Bool} {f : Nat} (h : f ≠ 0) (h' : f < B) : double.read (W s (I + f)) = .nan s f := by
  have hG := G_eq
  have hIB : B ≤ I := by decide
  have e1 : W s (I + f) / G % 2 = s.toNat := by
    cases s
    · show (I + f) / G % 2 = 0
      rw [Nat.div_eq_of_lt (by omega)]
    · show (G + (I + f)) / G % 2 = 1
      rw [Nat.add_div_left _ (by omega), Nat.div_eq_of_lt (by omega)]
  have e2 : W s (I + f) % G = I + f := by
    cases s
    · show (I + f) % G = I + f
      exact Nat.mod_eq_of_lt (by omega)
    · show (G + (I + f)) % G = I + f
      rw [Nat.add_mod_left]; exact Nat.mod_eq_of_lt (by omega)
  unfold Format.read
  simp only [sign_eq, e1, e2, binade_eq, inf_eq, least_eq]
  have hs : (s.toNat == 1) = s := by cases s <;> rfl
  rw [hs, if_neg (by omega), if_neg (by omega), if_neg (by omega), Nat.add_sub_cancel_left]

theorem kind {x : Nat} (hx : x < 2 * G) : Kind x := by
  have hG := G_eq
  have key : ∀ (s : Bool) (r : Nat), r < G → x = W s r → Kind x := by
    intro s r hr e
    rcases Nat.lt_trichotomy r I with h | h | h
    · exact .fin s r h e
    · subst h; exact .inf s e
    · have e' : x = W s (I + (r - I)) := by rw [e, Nat.add_sub_cancel' (Nat.le_of_lt h)]
      exact .nan s (r - I) (by omega) (by omega) e' (by rw [e']; exact read_nan (by omega) (by omega))
  by_cases h : x < G
  · exact key false x h rfl
  · exact key true (x - G) (by omega) (by show x = G + (x - G); omega)

/-! ### Rounding -/

theorem shl (a b : Nat) : a <<< b = a * 2 ^ b := Nat.shiftLeft_eq a b

theorem cut_even (s : Bool) (n d : Nat) : Toward.even.cut s n d = Toward.even.cut false n d := rfl

/-- 'n / 2 ^ d' to the nearest whole number. -/
def near (n d : Nat) : Nat := Toward.even.cut false n d

theorem near_def (n d : Nat) : near n d = n / 2 ^ min d (n.log2 + 2) + (decide (2 ^ min d (n.log2 + 2) < 2 * (n % 2 ^ min d (n.log2 + 2))) || (2 ^ min d (n.log2 + 2) == 2 * (n % 2 ^ min d (n.log2 + 2)) && n / 2 ^ min d (n.log2 + 2) % 2 == 1)).toNat := by
  unfold near Toward.cut
  simp only [shl, Nat.one_mul]

theorem near_le {n d m : Nat} (h : n ≤ m * 2 ^ d) : near n d ≤ m := by
  rw [near_def]
  generalize hg : min d (n.log2 + 2) = g
  have hp : 0 < 2 ^ g := Nat.two_pow_pos g
  by_cases hd : d ≤ n.log2 + 2
  · have : g = d := by omega
    subst this
    have hdm := Nat.div_add_mod n (2 ^ g)
    have hr := Nat.mod_lt n hp
    have hq : n / 2 ^ g ≤ m := by
      rw [Nat.mul_comm m] at h
      exact Nat.le_of_mul_le_mul_left (Nat.le_trans (Nat.mul_div_le n (2 ^ g)) h) hp
    rcases Nat.lt_or_ge (n / 2 ^ g) m with hlt | hge
    · have := Bool.toNat_le (decide (2 ^ g < 2 * (n % 2 ^ g)) || (2 ^ g == 2 * (n % 2 ^ g) && n / 2 ^ g % 2 == 1))
      omega
    · have he : n / 2 ^ g = m := by omega
      have hz : n % 2 ^ g = 0 := by
        rw [he, Nat.mul_comm] at hdm; omega
      rw [hz, he]
      have : (2 ^ g == 2 * 0) = false := by simp
      simp [this]
  · have hgl : g = n.log2 + 2 := by omega
    have hn : n < 2 ^ (n.log2 + 1) := Nat.lt_log2_self
    have h2 : 2 ^ g = 2 * 2 ^ (n.log2 + 1) := by rw [hgl, Nat.pow_succ, Nat.mul_comm]
    rw [Nat.div_eq_of_lt (by omega), Nat.mod_eq_of_lt (by omega)]
    have h3 : ¬ 2 ^ g < 2 * n := by omega
    have h4 : (2 ^ g == 2 * n) = false := by simp; omega
    simp [h3, h4]

theorem le_near {n d m : Nat} (h : m * 2 ^ d ≤ n) : m ≤ near n d := by
  rw [near_def]
  generalize hg : min d (n.log2 + 2) = g
  have hp : 0 < 2 ^ g := Nat.two_pow_pos g
  by_cases hd : d ≤ n.log2 + 2
  · have : g = d := by omega
    subst this
    have := (Nat.le_div_iff_mul_le hp).2 h
    omega
  · have hn : n < 2 ^ (n.log2 + 1) := Nat.lt_log2_self
    have : 2 ^ (n.log2 + 1) ≤ 2 ^ d := Nat.pow_le_pow_right (by omega) (by omega)
    rcases Nat.eq_zero_or_pos m with hm | hm
    · rw [hm]; exact Nat.zero_le _
    · have : 2 ^ d ≤ m * 2 ^ d := Nat.le_mul_of_pos_left _ hm
      exfalso; omega

theorem log2_mul_pow {n : Nat} (h : n ≠ 0) (k : Nat) : (n * 2 ^ k).log2 = n.log2 + k := by
  have h1 := (Nat.le_log2 (n := n) (k := n.log2) h).1 (Nat.le_refl _)
  have h2 : n < 2 ^ (n.log2 + 1) := Nat.lt_log2_self
  have hp : 0 < 2 ^ k := Nat.two_pow_pos k
  have hne : n * 2 ^ k ≠ 0 := Nat.mul_ne_zero h (by omega)
  rw [Nat.log2_eq_iff hne]
  constructor
  · rw [Nat.pow_add]; exact Nat.mul_le_mul_right _ h1
  · rw [show n.log2 + k + 1 = (n.log2 + 1) + k by omega, Nat.pow_add]; exact Nat.mul_lt_mul_of_pos_right h2 hp

theorem near_scale (n d k : Nat) : near (n * 2 ^ k) (d + k) = near n d := by
  by_cases hn : n = 0
  · subst hn
    simp only [Nat.zero_mul]
    have a := near_le (n := 0) (d := d + k) (m := 0) (by omega)
    have b := near_le (n := 0) (d := d) (m := 0) (by omega)
    omega
  · rw [near_def, near_def, log2_mul_pow hn]
    have e : min (d + k) (n.log2 + k + 2) = min d (n.log2 + 2) + k := by omega
    rw [e]
    generalize min d (n.log2 + 2) = g
    have hp : 0 < 2 ^ k := Nat.two_pow_pos k
    rw [Nat.pow_add, Nat.mul_div_mul_right _ _ hp, Nat.mul_mod_mul_right]
    have e1 : (2 ^ g * 2 ^ k < 2 * (n % 2 ^ g * 2 ^ k)) ↔ (2 ^ g < 2 * (n % 2 ^ g)) := by
      rw [← Nat.mul_assoc]; exact Nat.mul_lt_mul_right hp
    have e2 : (2 ^ g * 2 ^ k == 2 * (n % 2 ^ g * 2 ^ k)) = (2 ^ g == 2 * (n % 2 ^ g)) := by
      rw [← Nat.mul_assoc, Bool.eq_iff_iff]; simp only [beq_iff_eq]
      exact Nat.mul_right_cancel_iff hp
    simp only [e1, e2]

/-- The rung nearest to 'n * 2 ^ p'. -/
def nr (n : Nat) (p : Int) : Nat :=
  if n = 0 then 0 else
  min ((max (p + n.log2 - 52) (-1074) - (-1074)).toNat * B + near (n * 2 ^ (p - max (p + n.log2 - 52) (-1074)).toNat) (max (p + n.log2 - 52) (-1074) - p).toNat) I

theorem nearest_eq (s : Bool) (n : Nat) (p : Int) : double.nearest s n p = W s (nr n p) := by
  unfold Format.nearest nr
  split
  · rw [word_eq]
  · simp only [word_eq, least_eq, binade_eq, inf_eq, shl, cut_even]
    rfl

theorem nr_zero (p : Int) : nr 0 p = 0 := by unfold nr; rw [if_pos rfl]

theorem nr_scale (n k : Nat) (p : Int) : nr (n * 2 ^ k) (p - k) = nr n p := by
  by_cases hn : n = 0
  · subst hn; rw [Nat.zero_mul, nr_zero, nr_zero]
  · have hne : n * 2 ^ k ≠ 0 := Nat.mul_ne_zero hn (by have := Nat.two_pow_pos k; omega)
    unfold nr
    rw [if_neg hne, if_neg hn, log2_mul_pow hn]
    have e : p - (k : Int) + ((n.log2 + k : Nat) : Int) - 52 = p + n.log2 - 52 := by omega
    rw [e]
    generalize max (p + (n.log2 : Int) - 52) (-1074) = q
    congr 2
    -- the two ways to write what is cut
    by_cases h1 : q ≤ p - k
    · have e1 : (p - k - q).toNat + k = (p - q).toNat := by omega
      have e2 : (q - (p - k)).toNat = 0 := by omega
      have e3 : (q - p).toNat = 0 := by omega
      rw [e2, e3, Nat.mul_assoc, ← Nat.pow_add, Nat.add_comm k, e1]
    · by_cases h2 : q ≤ p
      · have e0 : (p - k - q).toNat = 0 := by omega
        have e3 : (q - p).toNat = 0 := by omega
        have e2 : (q - (p - k)).toNat = 0 + (q - (p - k)).toNat := by omega
        have e4 : k = (p - q).toNat + (q - (p - k)).toNat := by omega
        rw [e0, e3, e2, Nat.pow_zero, Nat.mul_one]
        conv => lhs; arg 1; rw [e4, Nat.pow_add, ← Nat.mul_assoc]
        exact near_scale _ _ _
      · have e0 : (p - k - q).toNat = 0 := by omega
        have e3 : (p - q).toNat = 0 := by omega
        have e2 : (q - (p - k)).toNat = (q - p).toNat + k := by omega
        rw [e0, e3, e2, Nat.pow_zero, Nat.mul_one, Nat.mul_one]
        exact near_scale _ _ _

/-- Two ways to write one number have one rung. -/
theorem nr_congr {n m j k : Nat} {p q : Int} (h : n * 2 ^ j = m * 2 ^ k) (hp : p - j = q - k) : nr n p = nr m q := by
  rw [← nr_scale n j p, ← nr_scale m k q, h, hp]

theorem two_B (k : Nat) : 2 * B * 2 ^ k = 2 ^ (53 + k) := by
  have : 2 * B = 2 ^ 53 := by decide
  rw [this, ← Nat.pow_add]

theorem log2_lt {n k : Nat} (h : n ≠ 0) (hn : n < 2 ^ (k + 1)) : n.log2 ≤ k := by
  have := (Nat.log2_lt h).2 hn
  omega

/-- What is not less than a rung's number is not rounded below that rung. -/
theorem le_nr {n K r : Nat} (hr : r ≤ I) (h : val r * 2 ^ K ≤ n) : r ≤ nr n (-1074 - K) := by
  by_cases hn : n = 0
  · subst hn
    have : val r * 2 ^ K = 0 := by omega
    have : val r = 0 := by
      rcases Nat.mul_eq_zero.1 this with h | h
      · exact h
      · have := Nat.two_pow_pos K; omega
    rw [val_eq_zero.1 this]; omega
  · unfold nr
    rw [if_neg hn]
    have hB := B_pos
    have hL1 : 2 ^ n.log2 ≤ n := (Nat.le_log2 hn).1 (Nat.le_refl _)
    have hL2 : n < 2 ^ (n.log2 + 1) := Nat.lt_log2_self
    -- the place above the least one
    obtain ⟨q, hq⟩ : ∃ q : Nat, max (-1074 - (K : Int) + n.log2 - 52) (-1074) = -1074 + q := ⟨(max (-1074 - (K : Int) + n.log2 - 52) (-1074) + 1074).toNat, by omega⟩
    rw [hq]
    have e1 : (-1074 + (q : Int) - -1074).toNat = q := by omega
    have e2 : (-1074 - (K : Int) - (-1074 + q)).toNat = 0 := by omega
    have e3 : (-1074 + (q : Int) - (-1074 - K)).toNat = q + K := by omega
    rw [e1, e2, e3, Nat.pow_zero, Nat.mul_one]
    refine Nat.le_min.2 ⟨?_, hr⟩
    have hre := rung_eq r
    have hm := mant_lt r
    unfold val at h
    rw [Nat.mul_assoc, ← Nat.pow_add] at h
    rcases Nat.lt_trichotomy (sh r) q with hs | hs | hs
    · have : B ≤ near n (q + K) := by
        apply le_near
        have : n.log2 = q + K + 52 := by omega
        rw [B_pow, ← Nat.pow_add, show 52 + (q + K) = n.log2 by omega]; exact hL1
      have h3 : sh r * B + B ≤ q * B := by rw [← Nat.succ_mul]; exact Nat.mul_le_mul_right _ hs
      omega
    · have : mant r ≤ near n (q + K) := le_near (by rw [← hs]; exact h)
      rw [← hs] at *; omega
    · exfalso
      have hge := mant_ge (r := r) (by omega)
      have h3 : B * 2 ^ (sh r + K) ≤ n := Nat.le_trans (Nat.mul_le_mul_right _ hge) h
      rw [B_pow, ← Nat.pow_add] at h3
      have := (Nat.le_log2 hn).2 h3
      omega

/-- What is not greater than a rung's number is not rounded above that rung. -/
theorem nr_le {n K r : Nat} (h : n ≤ val r * 2 ^ K) : nr n (-1074 - K) ≤ r := by
  by_cases hn : n = 0
  · subst hn; rw [nr_zero]; omega
  · unfold nr
    rw [if_neg hn]
    have hB := B_pos
    have hL1 : 2 ^ n.log2 ≤ n := (Nat.le_log2 hn).1 (Nat.le_refl _)
    have hL2 : n < 2 ^ (n.log2 + 1) := Nat.lt_log2_self
    obtain ⟨q, hq⟩ : ∃ q : Nat, max (-1074 - (K : Int) + n.log2 - 52) (-1074) = -1074 + q := ⟨(max (-1074 - (K : Int) + n.log2 - 52) (-1074) + 1074).toNat, by omega⟩
    rw [hq]
    have e1 : (-1074 + (q : Int) - -1074).toNat = q := by omega
    have e2 : (-1074 - (K : Int) - (-1074 + q)).toNat = 0 := by omega
    have e3 : (-1074 + (q : Int) - (-1074 - K)).toNat = q + K := by omega
    rw [e1, e2, e3, Nat.pow_zero, Nat.mul_one]
    refine Nat.le_trans (Nat.min_le_left _ _) ?_
    have hre := rung_eq r
    have hm := mant_lt r
    unfold val at h
    rw [Nat.mul_assoc, ← Nat.pow_add] at h
    rcases Nat.lt_trichotomy (sh r) q with hs | hs | hs
    · exfalso
      have hlog : n.log2 = q + K + 52 := by omega
      have h1 : mant r * 2 ^ (sh r + K) < 2 * B * 2 ^ (sh r + K) := Nat.mul_lt_mul_of_pos_right hm (Nat.two_pow_pos _)
      have h2 : 2 * B * 2 ^ (sh r + K) = 2 ^ (53 + (sh r + K)) := two_B _
      have h3 : 2 ^ (53 + (sh r + K)) ≤ 2 ^ n.log2 := Nat.pow_le_pow_right (by omega) (by omega)
      omega
    · have : near n (q + K) ≤ mant r := near_le (by rw [← hs]; exact h)
      rw [← hs] at *; omega
    · have hge := mant_ge (r := r) (by omega)
      have : near n (q + K) ≤ 2 * B := by
        apply near_le
        have : n.log2 ≤ q + K + 52 := by omega
        have h1 : 2 ^ (n.log2 + 1) ≤ 2 ^ (53 + (q + K)) := Nat.pow_le_pow_right (by omega) (by omega)
        have h2 : 2 * B * 2 ^ (q + K) = 2 ^ (53 + (q + K)) := two_B _
        omega
      have h3 : q * B + B ≤ sh r * B := by rw [← Nat.succ_mul]; exact Nat.mul_le_mul_right _ hs
      omega

/-- A number that has a rung is rounded to it. -/
theorem nr_val {r : Nat} (K : Nat) (h : r ≤ I) : nr (val r * 2 ^ K) (-1074 - K) = r :=
  Nat.le_antisymm (nr_le (Nat.le_refl _)) (le_nr h (Nat.le_refl _))

theorem nr_val0 {r : Nat} (h : r ≤ I) : nr (val r) (-1074) = r := by
  have := nr_val 0 h
  simpa using this

theorem nr_le_I (n : Nat) (p : Int) : nr n p ≤ I := by
  unfold nr
  split
  · omega
  · exact Nat.min_le_right _ _

/-! ### Sums and comparisons -/

/-- The number of a sign and a rung, in units of the least one. -/
def sv (s : Bool) (r : Nat) : Int := if s then -(val r : Int) else (val r : Int)

theorem signed_mul (s : Bool) (m k j : Nat) : signed s m k * ((2 ^ j : Nat) : Int) = signed s m (k + j) := by
  unfold signed
  rw [shl, shl, Nat.pow_add, ← Nat.mul_assoc]
  cases s
  · simp
  · simp [Int.neg_mul]

theorem signed_val (s : Bool) (r : Nat) : signed s (mant r) (sh r) = sv s r := by
  unfold signed sv val
  rw [shl]

theorem compare_mul (a b : Int) {c : Int} (hc : 0 < c) : compare (a * c) (b * c) = compare a b := by
  rcases Int.lt_trichotomy a b with h | h | h
  · rw [Int.compare_eq_lt.2 h, Int.compare_eq_lt.2 (Int.mul_lt_mul_of_pos_right h hc)]
  · rw [h, Int.compare_eq_eq.2 rfl, Int.compare_eq_eq.2 rfl]
  · rw [Int.compare_eq_gt.2 h, Int.compare_eq_gt.2 (Int.mul_lt_mul_of_pos_right h hc)]

/-- How two finite words stand to each other. -/
theorem order_fin {s t : Bool} {r u : Nat} (hr : r < I) (hu : u < I) :
    double.order (W s r) (W t u) = some (compare (sv s r) (sv t u)) := by
  unfold Format.order
  rw [read_fin hr, read_fin hu]
  simp only [Datum.order]
  congr 1
  have hb : ∃ b : Nat, min (-1074 + (sh r : Int)) (-1074 + (sh u : Int)) = -1074 + (b : Int) ∧ b ≤ sh r ∧ b ≤ sh u := ⟨min (sh r) (sh u), by omega, by omega, by omega⟩
  obtain ⟨b, hb, h1, h2⟩ := hb
  rw [hb]
  have e1 : (-1074 + (sh r : Int) - (-1074 + b)).toNat = sh r - b := by omega
  have e2 : (-1074 + (sh u : Int) - (-1074 + b)).toNat = sh u - b := by omega
  rw [e1, e2, ← compare_mul _ _ (c := ((2 ^ b : Nat) : Int)) (by have := Nat.two_pow_pos b; omega), signed_mul, signed_mul, Nat.sub_add_cancel h1, Nat.sub_add_cancel h2, signed_val, signed_val]

/-- The sum of two finite words. -/
theorem add_fin {s t : Bool} {r u : Nat} (hr : r < I) (hu : u < I) :
    double.add (W s r) (W t u) = some (W (if sv s r + sv t u = 0 then s && t else decide (sv s r + sv t u < 0)) (nr (sv s r + sv t u).natAbs (-1074))) := by
  unfold Format.add
  rw [read_fin hr, read_fin hu]
  simp only [Datum.sum, Option.map_some, Format.write, nearest_eq]
  have hb : ∃ b : Nat, min (-1074 + (sh r : Int)) (-1074 + (sh u : Int)) = -1074 + (b : Int) ∧ b ≤ sh r ∧ b ≤ sh u := ⟨min (sh r) (sh u), by omega, by omega, by omega⟩
  obtain ⟨b, hb, h1, h2⟩ := hb
  rw [hb]
  have e1 : (-1074 + (sh r : Int) - (-1074 + b)).toNat = sh r - b := by omega
  have e2 : (-1074 + (sh u : Int) - (-1074 + b)).toNat = sh u - b := by omega
  rw [e1, e2]
  have key : (signed s (mant r) (sh r - b) + signed t (mant u) (sh u - b)) * ((2 ^ b : Nat) : Int) = sv s r + sv t u := by
    rw [Int.add_mul, signed_mul, signed_mul, Nat.sub_add_cancel h1, Nat.sub_add_cancel h2, signed_val, signed_val]
  generalize signed s (mant r) (sh r - b) + signed t (mant u) (sh u - b) = T at key
  generalize sv s r + sv t u = S at key
  have hp : (0 : Int) < ((2 ^ b : Nat) : Int) := by have := Nat.two_pow_pos b; omega
  subst key
  have z : (T * ((2 ^ b : Nat) : Int) = 0) = (T = 0) := by
    apply propext
    constructor
    · intro h
      rcases Int.mul_eq_zero.1 h with h | h
      · exact h
      · omega
    · intro h; rw [h, Int.zero_mul]
  have l : (T * ((2 ^ b : Nat) : Int) < 0) = (T < 0) := by
    apply propext
    constructor
    · intro h
      rcases Int.lt_or_le T 0 with h' | h'
      · exact h'
      · have := Int.mul_nonneg h' (Int.le_of_lt hp); omega
    · intro h; exact Int.mul_neg_of_neg_of_pos h hp
  congr 2
  · simp only [z, l]
  · rw [Int.natAbs_mul, Int.natAbs_natCast]
    apply nr_congr (j := b) (k := 0)
    · simp
    · omega

/-- The opposite word. -/
def opp (x : Nat) : Nat := x ^^^ G

theorem opp_W (s : Bool) {r : Nat} (h : r < G) : opp (W s r) = W (!s) r := by
  have hG : G = 2 ^ 63 := by decide
  unfold opp W
  rw [hG] at h
  rw [hG]
  clear hG
  cases s
  · simp only [Bool.not_false, if_true, Bool.false_eq_true, if_false]
    apply Nat.eq_of_testBit_eq
    intro i
    rw [Nat.testBit_xor, Nat.testBit_two_pow]
    by_cases hi : i = 63
    · subst hi
      rw [Nat.testBit_two_pow_add_eq, Nat.testBit_lt_two_pow h]; rfl
    · have h63 : ¬ 63 = i := fun h => hi h.symm
      rw [decide_eq_false h63, Bool.xor_false]
      rcases Nat.lt_or_ge i 63 with hl | hl
      · rw [Nat.testBit_two_pow_add_gt hl]
      · have a1 : r < 2 ^ i := Nat.lt_of_lt_of_le h (Nat.pow_le_pow_right (by omega) hl)
        have a2 : 2 ^ 63 + r < 2 ^ i := by
          have : 2 ^ 64 ≤ 2 ^ i := Nat.pow_le_pow_right (by omega) (by omega)
          have : (2 : Nat) ^ 64 = 2 ^ 63 + 2 ^ 63 := by decide
          omega
        rw [Nat.testBit_lt_two_pow a1, Nat.testBit_lt_two_pow a2]
  · simp only [Bool.not_true, if_true, Bool.false_eq_true, if_false]
    apply Nat.eq_of_testBit_eq
    intro i
    rw [Nat.testBit_xor, Nat.testBit_two_pow]
    by_cases hi : i = 63
    · subst hi
      rw [Nat.testBit_two_pow_add_eq, Nat.testBit_lt_two_pow h]; rfl
    · have h63 : ¬ 63 = i := fun h => hi h.symm
      rw [decide_eq_false h63, Bool.xor_false]
      rcases Nat.lt_or_ge i 63 with hl | hl
      · rw [Nat.testBit_two_pow_add_gt hl]
      · have a1 : r < 2 ^ i := Nat.lt_of_lt_of_le h (Nat.pow_le_pow_right (by omega) hl)
        have a2 : 2 ^ 63 + r < 2 ^ i := by
          have : 2 ^ 64 ≤ 2 ^ i := Nat.pow_le_pow_right (by omega) (by omega)
          have : (2 : Nat) ^ 64 = 2 ^ 63 + 2 ^ 63 := by decide
          omega
        rw [Nat.testBit_lt_two_pow a1, Nat.testBit_lt_two_pow a2]

/-- A difference is the sum with the opposite. -/
theorem sub_fin {s t : Bool} {r u : Nat} (hr : r < I) (hu : u < I) :
    double.sub (W s r) (W t u) = double.add (W s r) (W (!t) u) := by
  unfold Format.sub Format.add
  rw [read_fin hr, read_fin hu, read_fin hu]
  rfl

end Go.Proofs.Ytpkhmjfbldoegaa.Fl

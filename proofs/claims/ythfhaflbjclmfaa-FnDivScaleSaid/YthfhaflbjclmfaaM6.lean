/-
The law FnDivScale.
-/
import Derived.Test.YthfhaflbjclmfaaM4
import Derived.Test.YthfhaflbjclmfaaDs
namespace Go.Proofs.Ythfhaflbjclmfaa
open Go.RowKit Fl

set_option maxRecDepth 100000 in
set_option maxHeartbeats 8000000 in
theorem scale_arg (a b c d n : Nat) (ha : a < 2 * G) (hb : b < 2 * G) (hc : c < 2 * G) (hd : d < 2 * G) (h : midB a = false ∨ (midB a = true ∧ midB b = false) ∨ (midB a = true ∧ midB b = true ∧ midB c = false) ∨ (midB a = true ∧ midB b = true ∧ midB c = true ∧ midB d = false) ∨ (midB a = true ∧ midB b = true ∧ midB c = true ∧ midB d = true ∧ decide (mg c = 0) = true ∧ decide (mg d = 0) = true)) (w : World) :
    Calls Try.prog 9 #[.int .u64 a, .int .u64 b, .int .u64 c, .int .u64 d, .int .u8 n] w fun e w' => e = .returned (.bool true) ∧ Ok w w' := by
  have K := Ok.refl w
  rcases h with f1 | ⟨f1, f2⟩ | ⟨f1, f2, f3⟩ | ⟨f1, f2, f3, f4⟩ | ⟨f1, f2, f3, f4, f5, f6⟩
  all_goals
    go_enter Try.func9, Try.ntmps9
    go_wp2_with (first
      | (go_at_call 16; refine (Double_any _).mono ?_; rintro e w1 ⟨rfl, ok⟩; replace K := K.trans ok)
      | (go_at_call 19; refine (Middle_any _ (by assumption) _).mono ?_; rintro e w1 ⟨rfl, ok⟩; replace K := K.trans ok)
      | (go_at_call 18; refine (IsZero_any _ (by assumption) _).mono ?_; rintro e w1 ⟨rfl, ok⟩; replace K := K.trans ok))
    go_ret
    exact ⟨rfl, K⟩

/-- A number of a middle size times a power of 2. -/
theorem mid_mul {a : Nat} (ha : a < 2 * G) (f : midB a = true) (E : Nat) (e1 : 973 ≤ E) (e2 : E ≤ 1073) :
    ∃ s a', Sc ((E : Int) - 1023) s (-200) 199 a a' ∧ omul (some a) (some (E * 4503599627370496)) = some a' ∧ (decide (mg a = 0) = false → ∀ v, a ≠ W v 0) := by
  have hB := B_pos
  have eB : (4503599627370496 : Nat) = B := rfl
  rw [eB]
  have hT : E * B = W false ((E - 1) * B + B) := by
    show E * B = (E - 1) * B + B
    rw [← Nat.succ_mul]; congr 1; omega
  obtain ⟨t1, t2⟩ := parts_of (m := B) (s := E - 1) (by omega) (Or.inr (Nat.le_refl _))
  have hTI : (E - 1) * B + B < I := by
    rw [I_eq]
    have : (E - 1) * B ≤ 1072 * B := Nat.mul_le_mul_right _ (by omega)
    omega
  rw [hT]
  have hnz : decide (mg a = 0) = false → ∀ v, a ≠ W v 0 := by
    intro h v e
    rw [e, mg_W v (by decide)] at h; simp at h
  cases kind ha with
  | nan s x h1 h2 e hr =>
    exfalso
    unfold midB at f
    subst e
    have hx : I + x < G := by rw [G_eq]; omega
    rw [mg_W s hx, ex_W s hx] at f
    have h3 : (I + x) / B = 2047 := by
      rw [I_eq, Nat.mul_comm, Nat.mul_add_div B_pos, Nat.div_eq_of_lt h2]
    rw [h3] at f
    have h4 : I + x ≠ 0 := by have : 0 < I := by decide
                              omega
    rw [decide_eq_false h4] at f; simp at f
  | inf s e =>
    exfalso
    unfold midB at f
    subst e
    rw [mg_W s (by decide), ex_W s (by decide)] at f
    have h3 : I / B = 2047 := by decide
    have h4 : I ≠ 0 := by decide
    rw [h3, decide_eq_false h4] at f; simp at f
  | fin s r h e =>
    subst e
    have hG : r < G := by rw [G_eq]; omega
    by_cases hz : r = 0
    · subst hz
      refine ⟨s, W s 0, .zero, ?_, hnz⟩
      have := mul_zero_l false s (r := (E - 1) * B + B) hTI
      rw [Bool.xor_false] at this
      exact this
    · unfold midB at f
      rw [mg_W s hG, ex_W s hG, decide_eq_false hz, Bool.false_or, Bool.and_eq_true] at f
      have f1 := of_decide_eq_true f.1
      have f2 := of_decide_eq_true f.2
      have hsh : sh r = r / B - 1 := rfl
      have hm1 := mant_ge (r := r) (by omega)
      have hm2 := mant_lt r
      obtain ⟨p1, p2⟩ := parts_of (m := mant r) (s := sh r + E - 1023) hm2 (Or.inr hm1)
      have hI : (sh r + E - 1023) * B + mant r < I := by
        rw [I_eq]
        have : (sh r + E - 1023) * B ≤ 1272 * B := Nat.mul_le_mul_right _ (by omega)
        omega
      refine ⟨s, W s ((sh r + E - 1023) * B + mant r), .num r _ (mant r) (-1074 + (sh r : Nat)) h hI rfl p2 hm1 rfl (by rw [p1]; omega) (by omega) (by omega), ?_, hnz⟩
      show Ieee.double.mul (W s r) (W false ((E - 1) * B + B)) = _
      unfold Ieee.Format.mul
      rw [read_fin h, read_fin hTI, t1, t2]
      simp only [Ieee.Datum.product, Option.map_some, Ieee.Format.write, nearest_eq, Bool.xor_false]
      have key : nr (mant r * B) (-1074 + (sh r : Nat) + (-1074 + ((E - 1 : Nat) : Int))) = (sh r + E - 1023) * B + mant r := by
        refine (nr_congr (j := sh r + E - 1023) (k := 52) (m := val ((sh r + E - 1023) * B + mant r)) (q := -1074) ?_ (by omega)).trans (nr_val0 (by omega))
        rw [val_of hm2 (Or.inr hm1), B_pow]
        simp only [Nat.mul_assoc, Nat.mul_comm]
      rw [key]

theorem run_mul_of {a c u : Nat} (h : omul (some a) (some c) = some u) (T : TypeId) (w : World) : (binOp .mul T (.float .f64 a) (.float .f64 c)).run Try.prog w = .ok (.float .f64 u) w :=
  run_float_arith w .mul T .f64 a c u h

theorem sc_lt {j : Int} {s : Bool} {lo hi : Int} {x x' : Nat} (h : Sc j s lo hi x x') : x' < 2 * G := by
  cases h with
  | zero => exact W_lt3 _ (by decide)
  | num r r' m p _ e2 _ _ _ _ _ _ _ => exact W_lt3 _ e2

set_option maxRecDepth 100000 in
set_option maxHeartbeats 8000000 in
theorem scale_ok (a b c d n a' b' c' d' e f : Nat) (hn : n ≤ 255) (ha : a < 2 * G) (hb : b < 2 * G) (hc : c < 2 * G) (hd : d < 2 * G) (ha' : a' < 2 * G) (hb' : b' < 2 * G) (hc' : c' < 2 * G) (hd' : d' < 2 * G) (f1 : midB a = true) (f2 : midB b = true) (f3 : midB c = true) (f4 : midB d = true)
    (h : decide (mg c = 0) = false ∨ (decide (mg c = 0) = true ∧ decide (mg d = 0) = false))
    (m1 : omul (some a) (some ((973 + n % 101) * 4503599627370496)) = some a') (m2 : omul (some b) (some ((973 + n % 101) * 4503599627370496)) = some b') (m3 : omul (some c) (some ((973 + n % 101) * 4503599627370496)) = some c') (m4 : omul (some d) (some ((973 + n % 101) * 4503599627370496)) = some d')
    (q1 : dE a b c d = some e) (q2 : dF a b c d = some f) (q3 : dE a' b' c' d' = some e) (q4 : dF a' b' c' d' = some f) (g1 : finB e = true) (g2 : finB f = true)
    (o1 : (FloatKind.f64.format.order e e == some .eq) = true) (o2 : (FloatKind.f64.format.order f f == some .eq) = true) (w : World) :
    Calls Try.prog 9 #[.int .u64 a, .int .u64 b, .int .u64 c, .int .u64 d, .int .u8 n] w fun e w' => e = .returned (.bool true) ∧ Ok w w' := by
  have K := Ok.refl w
  have tok1 : True := trivial
  have D1 := hid (implDiv a b c d ha hb hc hd)
  rw [q1, q2] at D1
  have D2 := hid (implDiv a' b' c' d' ha' hb' hc' hd')
  rw [q3, q4] at D2
  have r1 := run_mul_of m1
  have r2 := run_mul_of m2
  have r3 := run_mul_of m3
  have r4 := run_mul_of m4
  clear m1 m2 m3 m4 q1 q2 q3 q4 ha' hb' hc' hd'
  rcases h with f5 | ⟨f5, f6⟩
  all_goals
    go_enter Try.func9, Try.ntmps9
    go_wp2_with (first
      | (go_at_call 16; refine (Double_any _).mono ?_; rintro e w1 ⟨rfl, ok⟩; replace K := K.trans ok)
      | (go_at_call 19; refine (Middle_any _ (by assumption) _).mono ?_; rintro e w1 ⟨rfl, ok⟩; replace K := K.trans ok)
      | (go_at_call 18; refine (IsZero_any _ (by assumption) _).mono ?_; rintro e w1 ⟨rfl, ok⟩; replace K := K.trans ok)
      | (go_at_call 12; have t := tok1; clear tok1; refine (D1.out _).mono ?_; rintro e w1 ⟨x1, y1, rfl, r1, s1, dr⟩; obtain rfl := r1.some_eq; obtain rfl := s1.some_eq; replace K := K.trans dr.ok)
      | (go_at_call 12; refine (D2.out _).mono ?_; rintro e w1 ⟨x2, y2, rfl, r2, s2, dr⟩; obtain rfl := r2.some_eq; obtain rfl := s2.some_eq; replace K := K.trans dr.ok)
      | (go_at_call 15; refine (implIsFinite _ _).mono ?_; rintro e w1 ⟨rfl, dr⟩; replace K := K.trans dr.ok))
    go_ret
    exact ⟨rfl, K⟩

/-- A uint8 argument as a plain number. -/
theorem u8_nat {a : Int} (h : (Lit.int .u8 a).wf = true) : ∃ x : Nat, a = x ∧ x ≤ 255 := by
  have h1 : 0 ≤ a ∧ a ≤ 255 := by
    simp [Lit.wf, IntKind.min, IntKind.max, IntKind.signed, IntKind.bits] at h
    exact h
  exact ⟨a.toNat, (Int.toNat_of_nonneg h1.1).symm, by omega⟩

theorem eq_refl_of {x : Nat} (h : finB x = true) : (FloatKind.f64.format.order x x == some .eq) = true := zr_eq2 (ZR.refl _) (fin_inf h).2

theorem law_FnDivScale (a0 a1 a2 a3 a4 : Int) (w0 : (Lit.int .u64 a0).wf = true) (w1 : (Lit.int .u64 a1).wf = true) (w2 : (Lit.int .u64 a2).wf = true) (w3 : (Lit.int .u64 a3).wf = true) (w4 : (Lit.int .u8 a4).wf = true) (w : World) :
    Calls Try.prog 9 #[.int .u64 a0, .int .u64 a1, .int .u64 a2, .int .u64 a3, .int .u8 a4] w fun e w' => e = .returned (.bool true) ∧ Grown w w' := by
  obtain ⟨a, rfl, ha⟩ := u64_nat w0
  obtain ⟨b, rfl, hb⟩ := u64_nat w1
  obtain ⟨c, rfl, hc⟩ := u64_nat w2
  obtain ⟨d, rfl, hd⟩ := u64_nat w3
  obtain ⟨n, rfl, hn⟩ := u8_nat w4
  have key : Calls Try.prog 9 #[.int .u64 a, .int .u64 b, .int .u64 c, .int .u64 d, .int .u8 n] w fun e w' => e = .returned (.bool true) ∧ Ok w w' := by
    cases f1 : midB a
    · exact scale_arg a b c d n ha hb hc hd (.inl f1) w
    · cases f2 : midB b
      · exact scale_arg a b c d n ha hb hc hd (.inr (.inl ⟨f1, f2⟩)) w
      · cases f3 : midB c
        · exact scale_arg a b c d n ha hb hc hd (.inr (.inr (.inl ⟨f1, f2, f3⟩))) w
        · cases f4 : midB d
          · exact scale_arg a b c d n ha hb hc hd (.inr (.inr (.inr (.inl ⟨f1, f2, f3, f4⟩)))) w
          · have hcd : (decide (mg c = 0) = true ∧ decide (mg d = 0) = true) ∨ (decide (mg c = 0) = false ∨ (decide (mg c = 0) = true ∧ decide (mg d = 0) = false)) := by
              cases decide (mg c = 0) <;> cases decide (mg d = 0) <;> simp
            rcases hcd with ⟨z1, z2⟩ | hz
            · exact scale_arg a b c d n ha hb hc hd (.inr (.inr (.inr (.inr ⟨f1, f2, f3, f4, z1, z2⟩)))) w
            · obtain ⟨sa, a', s1, m1, _⟩ := mid_mul ha f1 (973 + n % 101) (by omega) (by omega)
              obtain ⟨sb, b', s2, m2, _⟩ := mid_mul hb f2 (973 + n % 101) (by omega) (by omega)
              obtain ⟨sc, c', s3, m3, n3⟩ := mid_mul hc f3 (973 + n % 101) (by omega) (by omega)
              obtain ⟨sd, d', s4, m4, n4⟩ := mid_mul hd f4 (973 + n % 101) (by omega) (by omega)
              have hnz : (∀ v, c ≠ W v 0) ∨ (∀ v, d ≠ W v 0) := by
                rcases hz with h | ⟨_, h⟩
                · exact .inl (n3 h)
                · exact .inr (n4 h)
              obtain ⟨e, f, q1, q2, q3, q4, g1, g2⟩ := scale_div (by omega) (by omega) s1 s2 s3 s4 hnz
              obtain ⟨d1, d2⟩ := main_back q1
              obtain ⟨d3, d4⟩ := main_back q3
              exact scale_ok a b c d n a' b' c' d' e f hn ha hb hc hd (sc_lt s1) (sc_lt s2) (sc_lt s3) (sc_lt s4) f1 f2 f3 f4 hz m1 m2 m3 m4 (d1.trans q1) (d2.trans q2) (d3.trans q3) (d4.trans q4) g1 g2 (eq_refl_of g1) (eq_refl_of g2) w
  exact key.mono fun e w' h => ⟨h.1, h.2.grown⟩

end Go.Proofs.Ythfhaflbjclmfaa

/-
Go's own quotient of complex numbers, as the model has it: the same parts.
-/
import Derived.Test.YthfhaflbjclmfaaDq
import Derived.Laws.ComplexQuo
namespace Go.Proofs.Ythfhaflbjclmfaa
open Go.RowKit Fl

section
variable {P : Program}

theorem c_add (x y : Nat) (W : World) : ∃ r n, (Op.Complex.add x y).run P W = .ok r (W.drewN n) ∧ Rep r (Ieee.double.add x y) := by
  obtain ⟨r, n, h1, h2⟩ := run_add_ex (P := P) x y W
  refine ⟨r, n, ?_, h2⟩
  have h := h1 0
  simp only [binOp] at h
  rw [if_neg (fun hne => hne rfl)] at h
  simp [Op.Complex.add, Op.Complex.arith, h]
theorem c_sub (x y : Nat) (W : World) : ∃ r n, (Op.Complex.sub x y).run P W = .ok r (W.drewN n) ∧ Rep r (Ieee.double.sub x y) := by
  obtain ⟨r, n, h1, h2⟩ := run_sub_ex (P := P) x y W
  refine ⟨r, n, ?_, h2⟩
  have h := h1 0
  simp only [binOp] at h
  rw [if_neg (fun hne => hne rfl)] at h
  simp [Op.Complex.sub, Op.Complex.arith, h]
theorem c_mul (x y : Nat) (W : World) : ∃ r n, (Op.Complex.mul x y).run P W = .ok r (W.drewN n) ∧ Rep r (Ieee.double.mul x y) := by
  obtain ⟨r, n, h1, h2⟩ := run_mul_ex (P := P) x y W
  refine ⟨r, n, ?_, h2⟩
  have h := h1 0
  simp only [binOp] at h
  rw [if_neg (fun hne => hne rfl)] at h
  simp [Op.Complex.mul, Op.Complex.arith, h]
theorem c_quo (x y : Nat) (W : World) : ∃ r n, (Op.Complex.quo x y).run P W = .ok r (W.drewN n) ∧ Rep r (Ieee.double.div x y) := by
  obtain ⟨r, n, h1, h2⟩ := run_quo_ex (P := P) x y W
  refine ⟨r, n, ?_, h2⟩
  have h := h1 0
  simp only [binOp] at h
  rw [if_neg (fun hne => hne rfl)] at h
  simp [Op.Complex.quo, Op.Complex.arith, h]

theorem c_ge (c d : Nat) (W : World) : (Op.Complex.cmp .geq .f64 (Op.Complex.abs c) (Op.Complex.abs d)).run P W = .ok (geB c d) W := by
  simp [Op.Complex.cmp, Op.floatCmp, asBool]
  rfl
theorem c_eq (x y : Nat) (W : World) : (Op.Complex.cmp .eql .f64 x y).run P W = .ok (Ieee.double.order x y == some .eq) W := by
  simp [Op.Complex.cmp, Op.floatCmp, asBool]
  rfl

theorem c_corr (s a b c d : Nat) (hs : s < 2 * G) (ha : a < 2 * G) (hb : b < 2 * G) (hc : c < 2 * G) (hd : d < 2 * G) (W : World) :
    ∃ x y n, (Op.Complex.corrected s a b c d).run P W = .ok (x, y) (W.drewN n) ∧ Rep x (corrE s a b c d) ∧ Rep y (corrF s a b c d) := by
  obtain ⟨r1, n1, h1, p1⟩ := c_mul (P := P) a c W
  obtain ⟨r2, n2, h2, p2⟩ := c_mul (P := P) b d (W.drewN n1)
  obtain ⟨r3, n3, h3, p3⟩ := c_add (P := P) r1 r2 ((W.drewN n1).drewN n2)
  obtain ⟨r4, n4, h4, p4⟩ := c_mul (P := P) s r3 (((W.drewN n1).drewN n2).drewN n3)
  obtain ⟨r5, n5, h5, p5⟩ := c_mul (P := P) b c ((((W.drewN n1).drewN n2).drewN n3).drewN n4)
  obtain ⟨r6, n6, h6, p6⟩ := c_mul (P := P) a d (((((W.drewN n1).drewN n2).drewN n3).drewN n4).drewN n5)
  obtain ⟨r7, n7, h7, p7⟩ := c_sub (P := P) r5 r6 ((((((W.drewN n1).drewN n2).drewN n3).drewN n4).drewN n5).drewN n6)
  obtain ⟨r8, n8, h8, p8⟩ := c_mul (P := P) s r7 (((((((W.drewN n1).drewN n2).drewN n3).drewN n4).drewN n5).drewN n6).drewN n7)
  have q1 := mul_rep (Rep.self ha) (Rep.self hc) p1
  have q2 := mul_rep (Rep.self hb) (Rep.self hd) p2
  have q4 := mul_rep (Rep.self hs) (add_rep q1 q2 p3) p4
  have q5 := mul_rep (Rep.self hb) (Rep.self hc) p5
  have q6 := mul_rep (Rep.self ha) (Rep.self hd) p6
  have q8 := mul_rep (Rep.self hs) (sub_rep q5 q6 p7) p8
  refine ⟨r4, r8, n1 + n2 + n3 + n4 + n5 + n6 + n7 + n8, ?_, q4, q8⟩
  unfold Op.Complex.corrected
  simp only [Sem.run_bind, Result.andThen_ok, Sem.run_pure, h1, h2, h3, h4, h5, h6, h7, h8]
  simp only [World.drewN_drewN]

theorem W_mod (s : Bool) {r : Nat} : W s r = r + s.toNat * G := by
  unfold W; cases s <;> simp; omega
theorem cs_eq (x s : Nat) (hs : s < 2 * G) : Op.Complex.copysign x s = W (sgB s) (mg x) := by
  have hG : (2 : Nat) ^ 63 = G := by decide
  unfold Op.Complex.copysign Op.Complex.abs
  rw [hG, W_mod]
  unfold mg sgB
  congr 2
  by_cases h : G ≤ s
  · rw [decide_eq_true h]
    have : s / G = 1 := by
      have e : s = (s - G) + G := by omega
      rw [e, Nat.add_div_right _ (by decide), Nat.div_eq_of_lt (by omega)]
    rw [this]; rfl
  · rw [decide_eq_false h, Nat.div_eq_of_lt (by omega)]; rfl
theorem inf_eq' (c : Nat) (hc : c < 2 * G) : Op.Complex.copysign Op.Complex.inf c = sInf c := by
  rw [cs_eq _ _ hc]; rfl
theorem one_eq' (x : Nat) (hx : x < 2 * G) : Op.Complex.inf2one x = infOne x := by
  unfold Op.Complex.inf2one infOne
  rw [cs_eq _ _ hx]
  have : Op.Complex.isInf x = infB x := rfl
  rw [this]
  cases infB x <;> rfl


theorem c_quotient (a b c d : Nat) (ha : a < 2 * G) (hb : b < 2 * G) (hc : c < 2 * G) (hd : d < 2 * G) (h1l : ∀ x, infOne x < 2 * G) (h2l : sInf c < 2 * G) (W : World) :
    ∃ x y n, (Op.Complex.quotient a b c d).run P W = .ok (x, y) (W.drewN n) ∧ Rep x (dE a b c d) ∧ Rep y (dF a b c d) := by
  -- the parts by Smith's way
  have main : ∃ e f N, Rep e (qE a b c d) ∧ Rep f (qF a b c d) ∧ ∀ (k : Nat × Nat → Sem (Nat × Nat)),
      (if geB c d = true then (do
        let ratio ← Op.Complex.quo d c
        let denom ← Op.Complex.add c (← Op.Complex.mul ratio d)
        let x ← pure (← Op.Complex.quo (← Op.Complex.add a (← Op.Complex.mul b ratio)) denom, ← Op.Complex.quo (← Op.Complex.sub b (← Op.Complex.mul a ratio)) denom)
        k x)
      else (do
        let ratio ← Op.Complex.quo c d
        let denom ← Op.Complex.add d (← Op.Complex.mul ratio c)
        let x ← pure (← Op.Complex.quo (← Op.Complex.add (← Op.Complex.mul a ratio) b) denom, ← Op.Complex.quo (← Op.Complex.sub (← Op.Complex.mul b ratio) a) denom)
        k x) : Sem (Nat × Nat)).run P W = (k (e, f)).run P (W.drewN N) := by
    unfold qE qF
    cases hg : geB c d
    · simp only [Bool.false_eq_true, if_false]
      obtain ⟨r1, n1, h1, p1⟩ := c_quo (P := P) c d W
      obtain ⟨r2, n2, h2, p2⟩ := c_mul (P := P) r1 c (W.drewN n1)
      obtain ⟨r3, n3, h3, p3⟩ := c_add (P := P) d r2 ((W.drewN n1).drewN n2)
      obtain ⟨r4, n4, h4, p4⟩ := c_mul (P := P) a r1 (((W.drewN n1).drewN n2).drewN n3)
      obtain ⟨r5, n5, h5, p5⟩ := c_add (P := P) r4 b ((((W.drewN n1).drewN n2).drewN n3).drewN n4)
      obtain ⟨r6, n6, h6, p6⟩ := c_quo (P := P) r5 r3 (((((W.drewN n1).drewN n2).drewN n3).drewN n4).drewN n5)
      obtain ⟨r7, n7, h7, p7⟩ := c_mul (P := P) b r1 ((((((W.drewN n1).drewN n2).drewN n3).drewN n4).drewN n5).drewN n6)
      obtain ⟨r8, n8, h8, p8⟩ := c_sub (P := P) r7 a (((((((W.drewN n1).drewN n2).drewN n3).drewN n4).drewN n5).drewN n6).drewN n7)
      obtain ⟨r9, n9, h9, p9⟩ := c_quo (P := P) r8 r3 ((((((((W.drewN n1).drewN n2).drewN n3).drewN n4).drewN n5).drewN n6).drewN n7).drewN n8)
      have q1 := div_rep (Rep.self hc) (Rep.self hd) p1
      have q3 := add_rep (Rep.self hd) (mul_rep q1 (Rep.self hc) p2) p3
      have q6 := div_rep (add_rep (mul_rep (Rep.self ha) q1 p4) (Rep.self hb) p5) q3 p6
      have q9 := div_rep (sub_rep (mul_rep (Rep.self hb) q1 p7) (Rep.self ha) p8) q3 p9
      refine ⟨r6, r9, n1 + n2 + n3 + n4 + n5 + n6 + n7 + n8 + n9, q6, q9, fun k => ?_⟩
      simp only [Sem.run_bind, Result.andThen_ok, Sem.run_pure, h1, h2, h3, h4, h5, h6, h7, h8, h9]
      simp only [World.drewN_drewN]
    · simp only [if_true]
      obtain ⟨r1, n1, h1, p1⟩ := c_quo (P := P) d c W
      obtain ⟨r2, n2, h2, p2⟩ := c_mul (P := P) r1 d (W.drewN n1)
      obtain ⟨r3, n3, h3, p3⟩ := c_add (P := P) c r2 ((W.drewN n1).drewN n2)
      obtain ⟨r4, n4, h4, p4⟩ := c_mul (P := P) b r1 (((W.drewN n1).drewN n2).drewN n3)
      obtain ⟨r5, n5, h5, p5⟩ := c_add (P := P) a r4 ((((W.drewN n1).drewN n2).drewN n3).drewN n4)
      obtain ⟨r6, n6, h6, p6⟩ := c_quo (P := P) r5 r3 (((((W.drewN n1).drewN n2).drewN n3).drewN n4).drewN n5)
      obtain ⟨r7, n7, h7, p7⟩ := c_mul (P := P) a r1 ((((((W.drewN n1).drewN n2).drewN n3).drewN n4).drewN n5).drewN n6)
      obtain ⟨r8, n8, h8, p8⟩ := c_sub (P := P) b r7 (((((((W.drewN n1).drewN n2).drewN n3).drewN n4).drewN n5).drewN n6).drewN n7)
      obtain ⟨r9, n9, h9, p9⟩ := c_quo (P := P) r8 r3 ((((((((W.drewN n1).drewN n2).drewN n3).drewN n4).drewN n5).drewN n6).drewN n7).drewN n8)
      have q1 := div_rep (Rep.self hd) (Rep.self hc) p1
      have q3 := add_rep (Rep.self hc) (mul_rep q1 (Rep.self hd) p2) p3
      have q6 := div_rep (add_rep (Rep.self ha) (mul_rep (Rep.self hb) q1 p4) p5) q3 p6
      have q9 := div_rep (sub_rep (Rep.self hb) (mul_rep (Rep.self ha) q1 p7) p8) q3 p9
      refine ⟨r6, r9, n1 + n2 + n3 + n4 + n5 + n6 + n7 + n8 + n9, q6, q9, fun k => ?_⟩
      simp only [Sem.run_bind, Result.andThen_ok, Sem.run_pure, h1, h2, h3, h4, h5, h6, h7, h8, h9]
      simp only [World.drewN_drewN]
  obtain ⟨e, f, N, re, rf, hmain⟩ := main
  have hne : NN (qE a b c d) := by unfold qE; split <;> exact nn_div _ _
  have hnf : NN (qF a b c d) := by unfold qF; split <;> exact nn_div _ _
  have te := nan_rep re hne
  have tf := nan_rep rf hnf
  unfold Op.Complex.quotient
  simp only [Sem.run_bind, c_ge, Result.andThen_ok]
  -- what remains behind the parts
  have fin : ∀ (o : Sem (Nat × Nat)) (x y : Option Nat), (∃ u v n, o.run P (W.drewN N) = .ok (u, v) ((W.drewN N).drewN n) ∧ Rep u x ∧ Rep v y) → ∃ u v n, o.run P (W.drewN N) = .ok (u, v) (W.drewN n) ∧ Rep u x ∧ Rep v y := by
    rintro o x y ⟨u, v, n, h1, h2, h3⟩
    exact ⟨u, v, N + n, by rw [h1, World.drewN_drewN], h2, h3⟩
  have t1 : (Op.Complex.isNaN e && Op.Complex.isNaN f) = ((qE a b c d).isNone && (qF a b c d).isNone) := by rw [← te, ← tf]; rfl
  have t2 : ((Ieee.double.order c 0 == some .eq) && (Ieee.double.order d 0 == some .eq) && (!Op.Complex.isNaN a || !Op.Complex.isNaN b)) = k1 a b c d := rfl
  have t3 : ((Op.Complex.isInf a || Op.Complex.isInf b) && Op.Complex.isFinite c && Op.Complex.isFinite d) = k2 a b c d := rfl
  have t4 : ((Op.Complex.isInf c || Op.Complex.isInf d) && Op.Complex.isFinite a && Op.Complex.isFinite b) = k3 a b c d := rfl
  rw [hmain]
  simp only [Sem.run_bind, c_eq, Result.andThen_ok, t1, t2, t3, t4, inf_eq' c hc, one_eq' a ha, one_eq' b hb, one_eq' c hc, one_eq' d hd]
  unfold dE dF
  cases hq : ((qE a b c d).isNone && (qF a b c d).isNone)
  · simp only [Bool.not_false, if_true]
    exact ⟨e, f, N, rfl, re, rf⟩
  · simp only [Bool.not_true, Bool.false_eq_true, if_false]
    cases h1 : k1 a b c d
    · simp only [Bool.false_eq_true, if_false]
      cases h2 : k2 a b c d
      · simp only [Bool.false_eq_true, if_false]
        cases h3 : k3 a b c d
        · simp only [Bool.false_eq_true, if_false]
          exact ⟨e, f, N, rfl, re, rf⟩
        · simp only [if_true]
          exact fin _ _ _ (c_corr 0 a b (infOne c) (infOne d) (by decide) ha hb (h1l c) (h1l d) _)
      · simp only [if_true]
        exact fin _ _ _ (c_corr I (infOne a) (infOne b) c d (by decide) (h1l a) (h1l b) hc hd _)
    · simp only [if_true]
      obtain ⟨r1, n1, h1, p1⟩ := c_mul (P := P) (sInf c) a (W.drewN N)
      obtain ⟨r2, n2, h2, p2⟩ := c_mul (P := P) (sInf c) b ((W.drewN N).drewN n1)
      refine ⟨r1, r2, N + n1 + n2, ?_, mul_rep (Rep.self h2l) (Rep.self ha) p1, mul_rep (Rep.self h2l) (Rep.self hb) p2⟩
      simp only [Sem.run_bind, Result.andThen_ok, Sem.run_pure, h1, h2]
      simp only [World.drewN_drewN]

theorem run_cquo (T : TypeId) (a b c d : Nat) (ha : a < 2 * G) (hb : b < 2 * G) (hc : c < 2 * G) (hd : d < 2 * G) (h1l : ∀ x, infOne x < 2 * G) (h2l : sInf c < 2 * G) (W : World) :
    ∃ x y n, (binOp .quo T (.complex .f64 a b) (.complex .f64 c d)).run P W = .ok (.complex .f64 x y) (W.drewN n) ∧ Rep x (dE a b c d) ∧ Rep y (dF a b c d) := by
  obtain ⟨x, y, n, h, r1, r2⟩ := c_quotient (P := P) a b c d ha hb hc hd h1l h2l W
  exact ⟨x, y, n, by simp [binOp, Op.complexOp, Op.Complex.conv, h], r1, r2⟩

end
end Go.Proofs.Ythfhaflbjclmfaa

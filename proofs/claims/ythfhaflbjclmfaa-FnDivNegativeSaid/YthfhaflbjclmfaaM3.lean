/-
The law FnDivNegative.
-/
import Derived.Test.YthfhaflbjclmfaaDe
namespace Go.Proofs.Ythfhaflbjclmfaa
open Go.RowKit Fl

theorem three_ne : (FloatKind.f64.format.order 4613937818241073152 4613937818241073152 != some .eq) = false := by decide

section
variable (a b c d : Nat) (ha : a < 2 * G) (hb : b < 2 * G) (hc : c < 2 * G) (hd : d < 2 * G)

include ha hb hc hd in
set_option maxHeartbeats 8000000 in
/-- Where the quotient or a number is not finite. -/
theorem neg_not (h : okf (dE a b c d) = false ∨ (okf (dE a b c d) = true ∧ okf (dF a b c d) = false) ∨ (okf (dE a b c d) = true ∧ okf (dF a b c d) = true ∧ (finB a = false ∨ (finB a = true ∧ finB b = false) ∨ (finB a = true ∧ finB b = true ∧ finB c = false) ∨ (finB a = true ∧ finB b = true ∧ finB c = true ∧ finB d = false)))) (w : World) :
    Calls Try.prog 6 #[.int .u64 a, .int .u64 b, .int .u64 c, .int .u64 d] w fun e w' => e = .returned (.bool true) ∧ Ok w w' := by
  have K := Ok.refl w
  have tok0 : True := trivial
  have tok1 : True := trivial
  have tok2 : True := trivial
  have tokB : True := trivial
  have tokC : True := trivial
  have D0 := hid (implDiv 4618441417868443648 0 4611686018427387904 0 (by decide) (by decide) (by decide) (by decide))
  rw [three] at D0
  have h3 := three_ne
  have D1 := hid (implDiv a b c d ha hb hc hd)
  have D2 := hid (implDiv (opp a) (opp b) c d (opp_lt ha) (opp_lt hb) hc hd)
  have D3 := hid (implDiv a b (opp c) (opp d) ha hb (opp_lt hc) (opp_lt hd))
  rcases h with h | ⟨h, h'⟩ | ⟨h, h', f1 | ⟨f1, f2⟩ | ⟨f1, f2, f3⟩ | ⟨f1, f2, f3, f4⟩⟩
  all_goals
    go_enter Try.func6, Try.ntmps6
    go_wp2_with (first
      | (go_at_call 12; have t := tok0; clear tok0; refine (D0.out _).mono ?_; rintro e w1 ⟨x0, y0, rfl, r0, s0, dr⟩; obtain rfl := r0.some_eq; replace K := K.trans dr.ok)
      | (go_at_call 12; have t := tok1; clear tok1; refine (D1.out _).mono ?_; rintro e w1 ⟨x1, y1, rfl, r1, s1, dr⟩; replace K := K.trans dr.ok)
      | (go_at_call 12; have t := tok2; clear tok2; refine (D2.out _).mono ?_; rintro e w1 ⟨x2, y2, rfl, r2, s2, dr⟩; replace K := K.trans dr.ok)
      | (go_at_call 12; refine (D3.out _).mono ?_; rintro e w1 ⟨x3, y3, rfl, r3, s3, dr⟩; replace K := K.trans dr.ok)
      | (go_at_call 16; refine (Double_any _).mono ?_; rintro e w1 ⟨rfl, ok⟩; replace K := K.trans ok)
      | (go_at_call 15; have t := tokB; clear tokB; refine (implFin_rep (by assumption) _).mono ?_; rintro e w1 ⟨rfl, dr⟩; obtain ⟨c0, c1, c2, c3, c4, kk⟩ := (Boxed.start _).next dr.ok; replace K := K.trans kk; clear kk dr)
      | (go_at_call 15; have t := tokC; clear tokC; refine (implFin_rep (by assumption) _).mono ?_; rintro e w1 ⟨rfl, dr⟩; have ok := dr.ok; replace c0 := ok.cell c0; replace c1 := ok.cell c1; replace c2 := ok.cell c2; replace c3 := ok.cell c3; replace c4 := ok.cell c4; replace K := K.trans ok; clear ok)
      | (go_at_call 17; refine (Finite_any _ (by assumption) _).mono ?_; rintro e w1 ⟨rfl, ok⟩; replace c0 := ok.cell c0; replace c1 := ok.cell c1; replace c2 := ok.cell c2; replace c3 := ok.cell c3; replace c4 := ok.cell c4; replace K := K.trans ok; clear ok)
      | (go_at_call 15; refine (implFin_rep (by assumption) _).mono ?_; rintro e w1 ⟨rfl, dr⟩; replace K := K.trans dr.ok))
    go_ret
    exact ⟨rfl, K⟩

include ha hb hc hd in
set_option maxHeartbeats 8000000 in
/-- Finite numbers with a finite quotient. -/
theorem neg_ok (hE : okf (dE a b c d) = true) (hF : okf (dF a b c d) = true) (f1 : finB a = true) (f2 : finB b = true) (f3 : finB c = true) (f4 : finB d = true) (w : World) :
    Calls Try.prog 6 #[.int .u64 a, .int .u64 b, .int .u64 c, .int .u64 d] w fun e w' => e = .returned (.bool true) ∧ Ok w w' := by
  have K := Ok.refl w
  have tok0 : True := trivial
  have tok1 : True := trivial
  have tok2 : True := trivial
  have tokB : True := trivial
  have tokC : True := trivial
  have D0 := hid (implDiv 4618441417868443648 0 4611686018427387904 0 (by decide) (by decide) (by decide) (by decide))
  rw [three] at D0
  have h3 := three_ne
  have D1 := hid (implDiv a b c d ha hb hc hd)
  have D2 := hid (implDiv (opp a) (opp b) c d (opp_lt ha) (opp_lt hb) hc hd)
  have D3 := hid (implDiv a b (opp c) (opp d) ha hb (opp_lt hc) (opp_lt hd))
  have ra := Rep.self ha
  have ea : okf (some a) = true := f1
  obtain ⟨m1, m2⟩ := main_of_ok f1 f2 f3 f4 hE
  rw [m1] at hE
  rw [m2] at hF
  have hE' : okf (oopp (qE a b c d)) = true := by rw [okf_opp qE_nn.lt]; exact hE
  have hF' : okf (oopp (qF a b c d)) = true := by rw [okf_opp qF_nn.lt]; exact hF
  obtain ⟨e, f, e', f', q1, q2, q3, q4, q5, q6⟩ := pair_of hE' hF' (negl_E ha hb) (negl_F ha hb)
  obtain ⟨e1, f1', e'', f'', p1, p2, p3, p4, p5, p6⟩ := pair_of hE' hF' (negr_E hc hd hE) (negr_F hc hd hF)
  obtain rfl : e = e1 := by rw [q1] at p1; injection p1
  obtain rfl : f = f1' := by rw [q2] at p2; injection p2
  have q7 : qE a b c d = some (opp e) := by rw [← oopp_oopp (qE a b c d), q1]; rfl
  have q8 : qF a b c d = some (opp f) := by rw [← oopp_oopp (qF a b c d), q2]; rfl
  rw [m1, m2, q7, q8] at D1
  rw [q3, q4] at D2
  rw [p3, p4] at D3
  have g1 : okf (some (opp e)) = true := by rw [← q7]; exact hE
  have g2 : okf (some (opp f)) = true := by rw [← q8]; exact hF
  have g3 := opp_opp f
  have g4 := opp_opp e
  clear hE hF hE' hF' m1 m2 q1 q2 q3 q4 q7 q8 p1 p2 p3 p4
  go_enter Try.func6, Try.ntmps6
  go_wp2_with (first
      | (go_at_call 12; have t := tok0; clear tok0; refine (D0.out _).mono ?_; rintro e w1 ⟨x0, y0, rfl, r0, s0, dr⟩; obtain rfl := r0.some_eq; replace K := K.trans dr.ok)
      | (go_at_call 12; have t := tok1; clear tok1; refine (D1.out _).mono ?_; rintro e w1 ⟨x1, y1, rfl, r1, s1, dr⟩; obtain rfl := r1.some_eq; obtain rfl := s1.some_eq; replace K := K.trans dr.ok)
      | (go_at_call 12; have t := tok2; clear tok2; refine (D2.out _).mono ?_; rintro e w1 ⟨x2, y2, rfl, r2, s2, dr⟩; obtain rfl := r2.some_eq; obtain rfl := s2.some_eq; replace K := K.trans dr.ok)
      | (go_at_call 12; refine (D3.out _).mono ?_; rintro e w1 ⟨x3, y3, rfl, r3, s3, dr⟩; obtain rfl := r3.some_eq; obtain rfl := s3.some_eq; replace K := K.trans dr.ok)
      | (go_at_call 16; refine (Double_any _).mono ?_; rintro e w1 ⟨rfl, ok⟩; replace K := K.trans ok)
      | (go_at_call 15; have t := tokB; clear tokB; refine (implFin_rep (by assumption) _).mono ?_; rintro e w1 ⟨rfl, dr⟩; obtain ⟨c0, c1, c2, c3, c4, kk⟩ := (Boxed.start _).next dr.ok; replace K := K.trans kk; clear kk dr)
      | (go_at_call 15; have t := tokC; clear tokC; refine (implFin_rep (by assumption) _).mono ?_; rintro e w1 ⟨rfl, dr⟩; have ok := dr.ok; replace c0 := ok.cell c0; replace c1 := ok.cell c1; replace c2 := ok.cell c2; replace c3 := ok.cell c3; replace c4 := ok.cell c4; replace K := K.trans ok; clear ok)
      | (go_at_call 17; refine (Finite_any _ (by assumption) _).mono ?_; rintro e w1 ⟨rfl, ok⟩; replace c0 := ok.cell c0; replace c1 := ok.cell c1; replace c2 := ok.cell c2; replace c3 := ok.cell c3; replace c4 := ok.cell c4; replace K := K.trans ok; clear ok)
      | (go_at_call 15; refine (implFin_rep (by assumption) _).mono ?_; rintro e w1 ⟨rfl, dr⟩; replace K := K.trans dr.ok))
  go_ret
  exact ⟨rfl, K⟩

end

theorem law_FnDivNegative (a0 a1 a2 a3 : Int) (w0 : (Lit.int .u64 a0).wf = true) (w1 : (Lit.int .u64 a1).wf = true) (w2 : (Lit.int .u64 a2).wf = true) (w3 : (Lit.int .u64 a3).wf = true) (w : World) :
    Calls Try.prog 6 #[.int .u64 a0, .int .u64 a1, .int .u64 a2, .int .u64 a3] w fun e w' => e = .returned (.bool true) ∧ Grown w w' := by
  obtain ⟨a, rfl, ha⟩ := u64_nat w0
  obtain ⟨b, rfl, hb⟩ := u64_nat w1
  obtain ⟨c, rfl, hc⟩ := u64_nat w2
  obtain ⟨d, rfl, hd⟩ := u64_nat w3
  have key : Calls Try.prog 6 #[.int .u64 a, .int .u64 b, .int .u64 c, .int .u64 d] w fun e w' => e = .returned (.bool true) ∧ Ok w w' := by
    cases hE : okf (dE a b c d)
    · exact neg_not a b c d ha hb hc hd (.inl hE) w
    · cases hF : okf (dF a b c d)
      · exact neg_not a b c d ha hb hc hd (.inr (.inl ⟨hE, hF⟩)) w
      · cases f1 : finB a
        · exact neg_not a b c d ha hb hc hd (.inr (.inr ⟨hE, hF, .inl f1⟩)) w
        · cases f2 : finB b
          · exact neg_not a b c d ha hb hc hd (.inr (.inr ⟨hE, hF, .inr (.inl ⟨f1, f2⟩)⟩)) w
          · cases f3 : finB c
            · exact neg_not a b c d ha hb hc hd (.inr (.inr ⟨hE, hF, .inr (.inr (.inl ⟨f1, f2, f3⟩))⟩)) w
            · cases f4 : finB d
              · exact neg_not a b c d ha hb hc hd (.inr (.inr ⟨hE, hF, .inr (.inr (.inr ⟨f1, f2, f3, f4⟩))⟩)) w
              · exact neg_ok a b c d ha hb hc hd hE hF f1 f2 f3 f4 w
  exact key.mono fun e w' h => ⟨h.1, h.2.grown⟩

end Go.Proofs.Ythfhaflbjclmfaa

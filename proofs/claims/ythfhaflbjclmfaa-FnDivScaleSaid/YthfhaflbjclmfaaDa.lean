/-
The division of complex numbers, whatever the numbers; the functions round it.
-/
import Derived.Test.YthfhaflbjclmfaaDw
import Derived.Test.YthfhaflbjclmfaaDn
import Derived.Test.YthfhaflbjclmfaaFa
namespace Go.Proofs.Ythfhaflbjclmfaa
open Go.RowKit Fl

theorem nan_inf (x : Nat) : (nanB x && infB x) = false := by
  unfold nanB infB
  cases Ieee.double.read x <;> rfl

theorem inf_zero {c : Nat} (h : infB c = true) : (Ieee.double.order c 0 == some .eq) = false := by
  unfold infB at h
  unfold Ieee.Format.order
  have h0 : Ieee.double.read 0 = .number false (mant 0) (-1074 + (sh 0 : Nat)) := read_fin (s := false) (r := 0) (by decide)
  cases hc : Ieee.double.read c with
  | number s m e => rw [hc] at h; simp [Ieee.Datum.isInfinity] at h
  | infinity s => rw [h0]; cases s <;> rfl
  | nan s f => rw [hc] at h; simp [Ieee.Datum.isInfinity] at h

theorem z_inf (c d : Nat) : (zB c d && (infB c || infB d)) = false := by
  cases h : infB c
  · cases h' : infB d
    · simp
    · unfold zB; rw [inf_zero h']; simp
  · unfold zB; rw [inf_zero h]; simp

theorem complex_div (a b c d : Nat) (ha : a < 2 * G) (hb : b < 2 * G) (hc : c < 2 * G) (hd : d < 2 * G) (w : World) :
    Calls Try.prog 30 #[.complex .f64 a b, .complex .f64 c d] w (Quo (dE a b c d) (dF a b c d) w) := by
  unfold dE dF
  cases hn : (qE a b c d).isNone && (qF a b c d).isNone
  · simp only [Bool.not_false, if_true]
    exact div_main a b c d ha hb hc hd hn w
  · simp only [Bool.not_true, Bool.false_eq_true, if_false]
    rw [Bool.and_eq_true] at hn
    obtain ⟨hE, hF⟩ := hn
    have xa := nan_inf a
    have xb := nan_inf b
    have xc := nan_inf c
    have xd := nan_inf d
    have xz := z_inf c d
    cases h1 : k1 a b c d
    · simp only [Bool.false_eq_true, if_false]
      cases h2 : k2 a b c d
      · simp only [Bool.false_eq_true, if_false]
        cases h3 : k3 a b c d
        · simp only [Bool.false_eq_true, if_false]
          have hw := ways (zB c d) (nanB a) (nanB b) (nanB c) (nanB d) (infB a) (infB b) (infB c) (infB d) h1 h2 h3 xa xb xc xd xz
          rcases hw with h | h | h | h | h | h | h | h | h | h | h | h | h | h | h | h | h | h | h
          · exact div_none0 a b c d ha hb hc hd hE hF (.inl h) w
          · exact div_none0 a b c d ha hb hc hd hE hF (.inr (.inl h)) w
          · exact div_none0 a b c d ha hb hc hd hE hF (.inr (.inr (.inl h))) w
          · exact div_none0 a b c d ha hb hc hd hE hF (.inr (.inr (.inr (.inl h)))) w
          · exact div_none0 a b c d ha hb hc hd hE hF (.inr (.inr (.inr (.inr (.inl h))))) w
          · exact div_none0 a b c d ha hb hc hd hE hF (.inr (.inr (.inr (.inr (.inr (.inl h)))))) w
          · exact div_none0 a b c d ha hb hc hd hE hF (.inr (.inr (.inr (.inr (.inr (.inr h)))))) w
          · exact div_none1 a b c d ha hb hc hd hE hF (.inl h) w
          · exact div_none1 a b c d ha hb hc hd hE hF (.inr (.inl h)) w
          · exact div_none1 a b c d ha hb hc hd hE hF (.inr (.inr (.inl h))) w
          · exact div_none1 a b c d ha hb hc hd hE hF (.inr (.inr (.inr (.inl h)))) w
          · exact div_none1 a b c d ha hb hc hd hE hF (.inr (.inr (.inr (.inr (.inl h))))) w
          · exact div_none1 a b c d ha hb hc hd hE hF (.inr (.inr (.inr (.inr (.inr h))))) w
          · exact div_none2 a b c d ha hb hc hd hE hF (.inl h) w
          · exact div_none2 a b c d ha hb hc hd hE hF (.inr (.inl h)) w
          · exact div_none2 a b c d ha hb hc hd hE hF (.inr (.inr (.inl h))) w
          · exact div_none2 a b c d ha hb hc hd hE hF (.inr (.inr (.inr (.inl h)))) w
          · exact div_none2 a b c d ha hb hc hd hE hF (.inr (.inr (.inr (.inr (.inl h))))) w
          · exact div_none2 a b c d ha hb hc hd hE hF (.inr (.inr (.inr (.inr (.inr h))))) w
        · simp only [if_true]
          unfold k3 at h3
          have fa : finB a = true := by cases h : finB a <;> simp [h] at h3 ⊢
          have fb : finB b = true := by cases h : finB b <;> simp [h] at h3 ⊢
          have hi : infB c = true ∨ (infB c = false ∧ infB d = true) := by
            cases h : infB c
            · right; refine ⟨rfl, ?_⟩; cases h' : infB d <;> simp [h, h'] at h3 ⊢
            · exact .inl rfl
          have hz : zB c d = false := by
            cases h : zB c d
            · rfl
            · rcases hi with hi | ⟨hi, hj⟩ <;> simp_all
          have ia : infB a = false := by cases h : infB a <;> simp [finB, h] at fa ⊢
          have ib : infB b = false := by cases h : infB b <;> simp [finB, h] at fb ⊢
          exact div_k3 a b c d ha hb hc hd hE hF hz ia ib hi fa fb w
      · simp only [if_true]
        unfold k2 at h2
        have fc : finB c = true := by cases h : finB c <;> simp [h] at h2 ⊢
        have fd : finB d = true := by cases h : finB d <;> simp [h] at h2 ⊢
        have hi : infB a = true ∨ (infB a = false ∧ infB b = true) := by
          cases h : infB a
          · right; refine ⟨rfl, ?_⟩; cases h' : infB b <;> simp [h, h'] at h2 ⊢
          · exact .inl rfl
        have hz : zB c d = false := by
          cases h : zB c d
          · rfl
          · unfold k1 at h1
            rcases hi with hi | ⟨hi, hj⟩ <;> simp_all
        exact div_k2 a b c d ha hb hc hd hE hF hz hi fc fd w
    · simp only [if_true]
      exact div_k1 a b c d ha hb hc hd hE hF h1 w

set_option maxHeartbeats 400000 in
theorem pkgDiv (a b c d : Nat) (ha : a < 2 * G) (hb : b < 2 * G) (hc : c < 2 * G) (hd : d < 2 * G) (w : World) :
    Calls Try.prog 23 #[.complex .f64 a b, .complex .f64 c d] w (Quo (dE a b c d) (dF a b c d) w) := by
  have H := hid (complex_div a b c d ha hb hc hd)
  go_enter Try.func23, Try.ntmps23
  go_wp2_with (go_at_call 30; refine (H.out _).mono ?_; rintro e w1 ⟨x, y, rfl, rx, ry, n, rfl⟩)
  go_ret
  exact ⟨_, _, rfl, rx, ry, _, rfl⟩

/-- What impl.Div hands back: these parts. -/
def Quo2 (p q : Option Nat) (w : World) (e : Ending) (w' : World) : Prop := ∃ x y, e = .returned (.tuple #[.float .f64 x, .float .f64 y]) ∧ Rep x p ∧ Rep y q ∧ Drew w w'

set_option maxHeartbeats 400000 in
theorem implDiv (a b c d : Nat) (ha : a < 2 * G) (hb : b < 2 * G) (hc : c < 2 * G) (hd : d < 2 * G) (w : World) :
    Calls Try.prog 12 #[.float .f64 a, .float .f64 b, .float .f64 c, .float .f64 d] w (Quo2 (dE a b c d) (dF a b c d) w) := by
  have H := hid (pkgDiv a b c d ha hb hc hd)
  go_enter Try.func12, Try.ntmps12
  go_wp2_with (go_at_call 23; refine (H.out _).mono ?_; rintro e w1 ⟨x, y, rfl, rx, ry, n, rfl⟩)
  go_ret2
  exact ⟨_, _, rfl, rx, ry, _, rfl⟩

end Go.Proofs.Ythfhaflbjclmfaa

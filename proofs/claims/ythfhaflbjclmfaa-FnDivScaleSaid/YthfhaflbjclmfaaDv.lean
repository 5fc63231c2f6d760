/-
The division of complex numbers, by what it hands back.
-/
import Derived.Test.YthfhaflbjclmfaaFs
import Derived.Test.YthfhaflbjclmfaaDq
import Derived.Outline
namespace Go.Proofs.Ythfhaflbjclmfaa
open Go.RowKit Fl

section
variable {o : Oper} {a : Act} {next : Act → World → Prop} {Q : Exit → Act → World → Prop} {x y : Nat} {ox oy : Option Nat} {T : TypeId} {W : World}
theorem upon_add (hx : Rep x ox) (hy : Rep y oy) (h : ∀ r n, Rep r (oadd ox oy) → Oper.upon Try.prog o a next Q (.ok (Next.value (.float .f64 r)) (W.drewN n))) :
    Oper.upon Try.prog o a next Q (((binOp .add T (.float .f64 x) (.float .f64 y)).run Try.prog W).andThen fun v w' => .ok (Next.value v) w') := by
  obtain ⟨r, n, h1, h2⟩ := run_add_ex (P := Try.prog) x y W
  rw [h1]; exact h r n (add_rep hx hy h2)
theorem upon_sub (hx : Rep x ox) (hy : Rep y oy) (h : ∀ r n, Rep r (osub ox oy) → Oper.upon Try.prog o a next Q (.ok (Next.value (.float .f64 r)) (W.drewN n))) :
    Oper.upon Try.prog o a next Q (((binOp .sub T (.float .f64 x) (.float .f64 y)).run Try.prog W).andThen fun v w' => .ok (Next.value v) w') := by
  obtain ⟨r, n, h1, h2⟩ := run_sub_ex (P := Try.prog) x y W
  rw [h1]; exact h r n (sub_rep hx hy h2)
theorem upon_mul (hx : Rep x ox) (hy : Rep y oy) (h : ∀ r n, Rep r (omul ox oy) → Oper.upon Try.prog o a next Q (.ok (Next.value (.float .f64 r)) (W.drewN n))) :
    Oper.upon Try.prog o a next Q (((binOp .mul T (.float .f64 x) (.float .f64 y)).run Try.prog W).andThen fun v w' => .ok (Next.value v) w') := by
  obtain ⟨r, n, h1, h2⟩ := run_mul_ex (P := Try.prog) x y W
  rw [h1]; exact h r n (mul_rep hx hy h2)
theorem upon_quo (hx : Rep x ox) (hy : Rep y oy) (h : ∀ r n, Rep r (odiv ox oy) → Oper.upon Try.prog o a next Q (.ok (Next.value (.float .f64 r)) (W.drewN n))) :
    Oper.upon Try.prog o a next Q (((binOp .quo T (.float .f64 x) (.float .f64 y)).run Try.prog W).andThen fun v w' => .ok (Next.value v) w') := by
  obtain ⟨r, n, h1, h2⟩ := run_quo_ex (P := Try.prog) x y W
  rw [h1]; exact h r n (div_rep hx hy h2)
end

theorem mg_lt2 (x : Nat) : mg x < 2 * G := Nat.lt_trans (mg_lt x) (by decide)

theorem W_lt2 (s : Bool) {r : Nat} (h : r < G) : W s r < 2 * G := by unfold W; split <;> omega
theorem infOne_lt (x : Nat) : infOne x < 2 * G := by
  unfold infOne
  refine W_lt2 _ ?_
  split
  · decide
  · decide
theorem sInf_lt (c : Nat) : sInf c < 2 * G := by
  unfold sInf W
  have : G + I < 2 * G := by decide
  split <;> omega

/-- Of a result of a division: is it a NaN? -/
theorem isNaN_rep {x : Nat} {o : Option Nat} (h : Rep x o) (hn : NN o) (w : World) : Calls Try.prog 33 #[.float .f64 x] w fun e w' => e = .returned (.bool o.isNone) ∧ w = w' := by
  rw [← nan_rep h hn]; exact isNaN_any x w

set_option maxHeartbeats 400000 in
theorem inf_any (w : World) : Calls Try.prog 36 #[] w fun e w' => e = .returned (.float .f64 9218868437227405312) ∧ w = w' := by
  go_enter Try.func36, Try.ntmps36
  go_wp2_with (go_at_call 38; refine (frombits_any _ _).mono ?_; rintro e w' ⟨rfl, rfl⟩)
  go_ret
  exact ⟨rfl, rfl⟩

/-- What is handed back: these parts. -/
def Quo (p q : Option Nat) (w : World) (e : Ending) (w' : World) : Prop := ∃ x y, e = .returned (.complex .f64 x y) ∧ Rep x p ∧ Rep y q ∧ Drew w w'

set_option maxRecDepth 100000 in
set_option maxHeartbeats 8000000 in
theorem div_main (a b c d : Nat) (ha : a < 2 * G) (hb : b < 2 * G) (hc : c < 2 * G) (hd : d < 2 * G) (hn : ((qE a b c d).isNone && (qF a b c d).isNone) = false) (w : World) :
    Calls Try.prog 30 #[.complex .f64 a b, .complex .f64 c d] w (Quo (qE a b c d) (qF a b c d) w) := by
  have ra := Rep.self ha
  have rb := Rep.self hb
  have rc := Rep.self hc
  have rd := Rep.self hd
  have hn' : (qE a b c d).isNone = false ∨ ((qE a b c d).isNone = true ∧ (qF a b c d).isNone = false) := by
    cases h1 : (qE a b c d).isNone
    · exact Or.inl rfl
    · rw [h1] at hn; exact Or.inr ⟨rfl, by simpa using hn⟩
  clear hn
  unfold qE qF at hn' ⊢
  cases hg : geB c d
  all_goals
    have hg' : (FloatKind.f64.format.order (mg c) (mg d) == some .gt || FloatKind.f64.format.order (mg c) (mg d) == some .eq) = geB c d := rfl
    rw [hg] at hg'
    simp only [hg, if_true, Bool.false_eq_true, if_false] at hn' ⊢
    clear hg
    rcases hn' with hE | ⟨hE, hF⟩
  all_goals
    go_enter Try.func30, Try.ntmps30
    go_wp2_with (first
      | (go_at_call 34; refine (abs_eq _ (by assumption) _).mono ?_; rintro e w1 ⟨rfl, rfl⟩)
      | (go_at_call 33; refine (isNaN_rep (by assumption) (nn_div _ _) _).mono ?_; rintro e w1 ⟨rfl, rfl⟩)
      | (with_reducible refine upon_add (by assumption) (by assumption) ?_; intro r n hr)
      | (with_reducible refine upon_sub (by assumption) (by assumption) ?_; intro r n hr)
      | (with_reducible refine upon_mul (by assumption) (by assumption) ?_; intro r n hr)
      | (with_reducible refine upon_quo (by assumption) (by assumption) ?_; intro r n hr))
    go_ret
    exact ⟨_, _, rfl, by assumption, by assumption, _, rfl⟩

set_option maxRecDepth 100000 in
set_option maxHeartbeats 8000000 in
theorem div_k1 (a b c d : Nat) (ha : a < 2 * G) (hb : b < 2 * G) (hc : c < 2 * G) (hd : d < 2 * G) (hE : (qE a b c d).isNone = true) (hF : (qF a b c d).isNone = true) (hk : k1 a b c d = true) (w : World) :
    Calls Try.prog 30 #[.complex .f64 a b, .complex .f64 c d] w (Quo (omul (some (sInf c)) (some a)) (omul (some (sInf c)) (some b)) w) := by
  have ra := Rep.self ha
  have rb := Rep.self hb
  have rc := Rep.self hc
  have rd := Rep.self hd
  have hI : 9218868437227405312 < 2 * G := by decide
  have rs : Rep (W (sgB c) (mg 9218868437227405312)) (some (sInf c)) := by
    have e : W (sgB c) (mg 9218868437227405312) = sInf c := rfl
    rw [e]; exact Rep.self (sInf_lt c)
  have hz : ((FloatKind.f64.format.order c 0 == some .eq) && (FloatKind.f64.format.order d 0 == some .eq)) = true ∧ (nanB a = false ∨ (nanB a = true ∧ nanB b = false)) := by
    unfold k1 zB at hk
    rw [Bool.and_eq_true] at hk
    refine ⟨hk.1, ?_⟩
    have h2 := hk.2
    cases h : nanB a
    · exact Or.inl rfl
    · rw [h] at h2; exact Or.inr ⟨rfl, by simpa using h2⟩
  clear hk
  obtain ⟨hz, hna⟩ := hz
  unfold qE at hE
  unfold qF at hF
  cases hg : geB c d
  all_goals
    have hg' : (FloatKind.f64.format.order (mg c) (mg d) == some .gt || FloatKind.f64.format.order (mg c) (mg d) == some .eq) = geB c d := rfl
    rw [hg] at hg'
    simp only [hg, if_true, Bool.false_eq_true, if_false] at hE hF ⊢
    clear hg
    rcases hna with h1 | ⟨h1, h2⟩
  all_goals
    go_enter Try.func30, Try.ntmps30
    go_wp2_with (first
      | (go_at_call 34; refine (abs_eq _ (by assumption) _).mono ?_; rintro e w1 ⟨rfl, rfl⟩)
      | (go_at_call 33; refine (isNaN_rep (by assumption) (nn_div _ _) _).mono ?_; rintro e w1 ⟨rfl, rfl⟩)
      | (go_at_call 33; refine (isNaN_any _ _).mono ?_; rintro e w1 ⟨rfl, rfl⟩)
      | (go_at_call 32; refine (isInf_any _ _).mono ?_; rintro e w1 ⟨rfl, m, rfl⟩)
      | (go_at_call 31; refine (isFinite_any _ _).mono ?_; rintro e w1 ⟨rfl, m, rfl⟩)
      | (go_at_call 37; refine (inf2one_any _ (by assumption) _).mono ?_; rintro e w1 ⟨rfl, m, rfl⟩)
      | (go_at_call 36; refine (inf_any _).mono ?_; rintro e w1 ⟨rfl, rfl⟩)
      | (go_at_call 35; refine (copysign_eq _ _ (by assumption) (by assumption) _).mono ?_; rintro e w1 ⟨rfl, rfl⟩)
      | (with_reducible refine upon_add (by assumption) (by assumption) ?_; intro r n hr)
      | (with_reducible refine upon_sub (by assumption) (by assumption) ?_; intro r n hr)
      | (with_reducible refine upon_mul (by assumption) (by assumption) ?_; intro r n hr)
      | (with_reducible refine upon_quo (by assumption) (by assumption) ?_; intro r n hr))
    go_ret
    exact ⟨_, _, rfl, by assumption, by assumption, _, rfl⟩

end Go.Proofs.Ythfhaflbjclmfaa

/-
The law FnDivGo: a quotient is that of Go's own operator.
-/
import Derived.Test.YthfhaflbjclmfaaDa
import Derived.Test.YthfhaflbjclmfaaDg
namespace Go.Proofs.Ythfhaflbjclmfaa
open Go.RowKit Fl

section
variable {o : Oper} {a : Act} {next : Act → World → Prop} {Q : Exit → Act → World → Prop} {T : TypeId} {W : World}
theorem upon_cquo {p q r s : Nat} (hp : p < 2 * G) (hq : q < 2 * G) (hr : r < 2 * G) (hs : s < 2 * G) (h : ∀ x y n, Rep x (dE p q r s) → Rep y (dF p q r s) → Oper.upon Try.prog o a next Q (.ok (Next.value (.complex .f64 x y)) (W.drewN n))) :
    Oper.upon Try.prog o a next Q (((binOp .quo T (.complex .f64 p q) (.complex .f64 r s)).run Try.prog W).andThen fun v w' => .ok (Next.value v) w') := by
  obtain ⟨x, y, n, h1, h2, h3⟩ := run_cquo (P := Try.prog) T p q r s hp hq hr hs infOne_lt (sInf_lt r) W
  rw [h1]; exact h x y n h2 h3
end

/-- Two words of one result are alike. -/
theorem alike_rep {x y : Nat} {o : Option Nat} (hx : Rep x o) (hy : Rep y o) : alikeB x y = true := by
  unfold alikeB
  cases o with
  | none => rw [hx.nan, hy.nan]; simp
  | some a => rw [hx.some_eq, hy.some_eq]; simp

set_option maxHeartbeats 4000000 in
theorem go_walk (a b c d : Nat) (ha : a < 2 * G) (hb : b < 2 * G) (hc : c < 2 * G) (hd : d < 2 * G) (w : World) :
    Calls Try.prog 3 #[.int .u64 a, .int .u64 b, .int .u64 c, .int .u64 d] w fun e w' => e = .returned (.bool true) ∧ Ok w w' := by
  have K := Ok.refl w
  have D := hid (implDiv a b c d ha hb hc hd)
  go_enter Try.func3, Try.ntmps3
  go_wp2_with (first
    | (go_at_call 12; refine (D.out _).mono ?_; rintro e w1 ⟨x, y, rfl, rx, ry, n, rfl⟩)
    | (with_reducible refine upon_cquo ha hb hc hd ?_; intro u v m ru rv)
    | (go_at_call 13; have t := K; clear K; refine (alike_any _ _ rx.lt ru.lt _).mono ?_; rintro e w1 ⟨rfl, ok⟩; rw [alike_rep rx ru]; have K1 := ((t.drewN _).trans ok))
    | (go_at_call 13; refine (alike_any _ _ ry.lt rv.lt _).mono ?_; rintro e w1 ⟨rfl, ok⟩; rw [alike_rep ry rv]; replace K1 := K1.trans ok))
  go_ret
  exact ⟨rfl, K1⟩

theorem law_FnDivGo (a0 a1 a2 a3 : Int) (w0 : (Lit.int .u64 a0).wf = true) (w1 : (Lit.int .u64 a1).wf = true) (w2 : (Lit.int .u64 a2).wf = true) (w3 : (Lit.int .u64 a3).wf = true) (w : World) :
    Calls Try.prog 3 #[.int .u64 a0, .int .u64 a1, .int .u64 a2, .int .u64 a3] w fun e w' => e = .returned (.bool true) ∧ Grown w w' := by
  obtain ⟨a, rfl, ha⟩ := u64_nat w0
  obtain ⟨b, rfl, hb⟩ := u64_nat w1
  obtain ⟨c, rfl, hc⟩ := u64_nat w2
  obtain ⟨d, rfl, hd⟩ := u64_nat w3
  exact (go_walk a b c d ha hb hc hd w).mono fun e w' h => ⟨h.1, h.2.grown⟩

end Go.Proofs.Ythfhaflbjclmfaa

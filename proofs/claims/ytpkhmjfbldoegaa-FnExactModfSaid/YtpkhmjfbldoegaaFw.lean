/-
What one operation on floats does in the model: the bits of the result, or, where there is none, some NaN that is drawn.
-/
import Derived.Test.YtpkhmjfbldoegaaFl
import Derived.Deep.Draws
import Derived.Laws.FloatArith
import Derived.WalkKit
namespace Go.Proofs.Ytpkhmjfbldoegaa.Fl
open Ieee Go

/-- Are these bits a NaN? -/
def nanB (x : Nat) : Bool := (double.read x).isNaN

/-- Bits x are what o says: these bits, or, where there are none, a NaN. -/
def Rep (x : Nat) (o : Option Nat) : Prop := x < 2 * G ∧ match o with
  | some b => x = b
  | none => nanB x = true

theorem Rep.lt {x : Nat} {o : Option Nat} (h : Rep x o) : x < 2 * G := h.1
theorem Rep.some_eq {x b : Nat} (h : Rep x (some b)) : x = b := h.2
theorem Rep.nan {x : Nat} (h : Rep x none) : nanB x = true := h.2
theorem Rep.self {x : Nat} (h : x < 2 * G) : Rep x (some x) := ⟨h, rfl⟩

theorem two_G : 2 * G = 2 ^ 64 := by decide

/-- Moved on by draws. -/
def Drew (w w' : World) : Prop := ∃ n, w' = w.drewN n
theorem Drew.refl (w : World) : Drew w w := ⟨0, rfl⟩

/-- The NaN that is drawn is one. -/
theorem cut_nan (x y t : Nat) : nanB ((Question.nanBits .f64 x y).cut t) = true ∧ (Question.nanBits .f64 x y).cut t < 2 * G := by
  have hf : (t / 2) % (2 ^ 52 - 1) < 2 ^ 52 - 1 := Nat.mod_lt _ (by decide)
  have e : (Question.nanBits .f64 x y).cut t = W (t % 2 == 1) (I + ((t / 2) % (2 ^ 52 - 1) + 1)) := by
    show (t % 2) * 2 ^ 63 + 0x7ff0000000000000 + 1 + (t / 2) % (2 ^ 52 - 1) = _
    unfold W
    have hG : G = 2 ^ 63 := by decide
    have hI : I = 0x7ff0000000000000 := by decide
    rw [hG, hI]
    rcases Nat.mod_two_eq_zero_or_one t with h | h <;> rw [h] <;> simp <;> omega
  have hB : B = 2 ^ 52 := by decide
  constructor
  · rw [e]; unfold nanB
    rw [read_nan (by omega) (by rw [hB]; omega)]; rfl
  · rw [e]
    have : I + ((t / 2) % (2 ^ 52 - 1) + 1) < G := by rw [G_eq, hB]; omega
    unfold W; split <;> omega

section
variable {P : Program}

theorem run_ask (k : Nat → Sem Value) (x y : Nat) (w : World) : (Sem.choose (.nanBits .f64 x y) k).run P w = (k ((Question.nanBits .f64 x y).cut (w.tape w.drawn (.nanBits .f64 x y)))).run P (w.drewN 1) := rfl

theorem run_arith_ex (x y : Nat) (op : BinOp) (o : Option Nat) (ho : (match op with
    | .add => some ((Ieee.double).add x y) | .sub => some ((Ieee.double).sub x y) | .mul => some ((Ieee.double).mul x y) | .quo => some ((Ieee.double).div x y) | _ => none) = some o) (hlt : ∀ r, o = some r → r < 2 * G) (w : World) :
    ∃ r n, (∀ t, (binOp op t (.float .f64 x) (.float .f64 y)).run P w = .ok (.float .f64 r) (w.drewN n)) ∧ Rep r o := by
  cases o with
  | some r =>
    refine ⟨r, 0, fun t => ?_, hlt r rfl, rfl⟩
    have : floatBits op .f64 x y = some r := by
      unfold floatBits
      cases op <;> simp only [Option.some.injEq, reduceCtorEq] at ho <;> exact ho
    exact run_float_arith w op t .f64 x y r this
  | none =>
    obtain ⟨h1, h2⟩ := cut_nan x y (w.tape w.drawn (.nanBits .f64 x y))
    refine ⟨_, 1, fun t => ?_, h2, h1⟩
    cases op <;> simp only [Option.some.injEq, reduceCtorEq] at ho
    all_goals
      simp only [binOp, Op.floatArith]
      have hk : FloatKind.f64.format = Ieee.double := rfl
      simp only [hk, ho]
      rfl

theorem run_add_ex (x y : Nat) (w : World) : ∃ r n, (∀ t, (binOp .add t (.float .f64 x) (.float .f64 y)).run P w = .ok (.float .f64 r) (w.drewN n)) ∧ Rep r (Ieee.double.add x y) :=
  run_arith_ex x y .add _ rfl (fun _ h => double.add_lt h) w
theorem run_sub_ex (x y : Nat) (w : World) : ∃ r n, (∀ t, (binOp .sub t (.float .f64 x) (.float .f64 y)).run P w = .ok (.float .f64 r) (w.drewN n)) ∧ Rep r (Ieee.double.sub x y) :=
  run_arith_ex x y .sub _ rfl (fun _ h => double.sub_lt h) w
theorem run_mul_ex (x y : Nat) (w : World) : ∃ r n, (∀ t, (binOp .mul t (.float .f64 x) (.float .f64 y)).run P w = .ok (.float .f64 r) (w.drewN n)) ∧ Rep r (Ieee.double.mul x y) :=
  run_arith_ex x y .mul _ rfl (fun _ h => double.mul_lt h) w
theorem run_quo_ex (x y : Nat) (w : World) : ∃ r n, (∀ t, (binOp .quo t (.float .f64 x) (.float .f64 y)).run P w = .ok (.float .f64 r) (w.drewN n)) ∧ Rep r (Ieee.double.div x y) :=
  run_arith_ex x y .quo _ rfl (fun _ h => double.div_lt h) w
end

/-- '!=' of a float and itself tells a NaN. -/
theorem ne_self (x : Nat) : (double.order x x != some .eq) = nanB x := by
  unfold Format.order nanB
  cases h : double.read x with
  | number s m e => simp [Datum.order, Datum.isNaN]
  | infinity s => cases s <;> simp [Datum.order, Datum.isNaN] <;> decide
  | nan s f => simp [Datum.order, Datum.isNaN]

/-- An infinity? -/
def infB (x : Nat) : Bool := (double.read x).isInfinity
/-- Neither a NaN nor an infinity? -/
def finB (x : Nat) : Bool := !nanB x && !infB x

theorem infB_eq (x : Nat) : (!nanB x && !finB x) = infB x := by
  unfold finB nanB infB
  cases double.read x <;> rfl

/-- A number less itself is 0; of an infinity and a NaN there is no difference. -/
theorem sub_self (x : Nat) : (∃ s r, double.sub x x = some (W s r) ∧ r < I ∧ finB x = true) ∨ (double.sub x x = none ∧ finB x = false) := by
  unfold finB nanB infB
  cases h : double.read x with
  | number s m e =>
    left
    unfold Format.sub
    rw [h]
    simp only [Datum.opposite, Datum.sum, Option.map_some, Format.write, nearest_eq]
    refine ⟨_, _, rfl, ?_, rfl⟩
    have : (signed s m (e - min e e).toNat + signed (!s) m (e - min e e).toNat).natAbs = 0 := by
      unfold signed; cases s <;> simp <;> omega
    rw [this, nr_zero]; decide
  | infinity s =>
    right
    unfold Format.sub
    rw [h]
    cases s <;> exact ⟨rfl, rfl⟩
  | nan s f =>
    right
    unfold Format.sub
    rw [h]
    exact ⟨rfl, rfl⟩

theorem nanB_fin {s : Bool} {r : Nat} (h : r < I) : nanB (W s r) = false := by
  unfold nanB; rw [read_fin h]; rfl

theorem rep_self {x r : Nat} (h : Rep r (double.sub x x)) : (!nanB r) = finB x := by
  rcases sub_self x with ⟨s, q, h1, h2, h3⟩ | ⟨h1, h3⟩
  · rw [h1] at h; rw [h.some_eq, h3, nanB_fin h2]; rfl
  · rw [h1] at h; rw [h.nan, h3]; rfl

end Go.Proofs.Ytpkhmjfbldoegaa.Fl

/-
Quotients of complex numbers by floats that may be no numbers, as plain functions.
-/
import Derived.Test.YthfhaflbjclmfaaFb
namespace Go.Proofs.Ythfhaflbjclmfaa.Fl
open Ieee

def ob (f : Nat → Nat → Option Nat) (x y : Option Nat) : Option Nat := x.bind fun a => y.bind fun b => f a b
def oadd (x y : Option Nat) : Option Nat := ob double.add x y
def osub (x y : Option Nat) : Option Nat := ob double.sub x y
def omul (x y : Option Nat) : Option Nat := ob double.mul x y
def odiv (x y : Option Nat) : Option Nat := ob double.div x y

theorem read_nanB {x : Nat} (h : nanB x = true) : ∃ s f, double.read x = .nan s f := by
  unfold nanB at h
  cases hx : double.read x <;> rw [hx] at h <;> simp [Datum.isNaN] at h
  exact ⟨_, _, rfl⟩

section
variable {x y r : Nat} {o p : Option Nat}

theorem add_nan_left (h : nanB x = true) : double.add x y = none := by
  obtain ⟨s, f, e⟩ := read_nanB h; unfold Format.add; rw [e]; rfl
theorem add_nan_right (h : nanB y = true) : double.add x y = none := by
  obtain ⟨s, f, e⟩ := read_nanB h; unfold Format.add; rw [e]; cases double.read x <;> rfl
theorem sub_nan_left (h : nanB x = true) : double.sub x y = none := by
  obtain ⟨s, f, e⟩ := read_nanB h; unfold Format.sub; rw [e]; rfl
theorem sub_nan_right (h : nanB y = true) : double.sub x y = none := by
  obtain ⟨s, f, e⟩ := read_nanB h; unfold Format.sub; rw [e]; cases double.read x <;> rfl
theorem mul_nan_left (h : nanB x = true) : double.mul x y = none := by
  obtain ⟨s, f, e⟩ := read_nanB h; unfold Format.mul; rw [e]; rfl
theorem mul_nan_right (h : nanB y = true) : double.mul x y = none := by
  obtain ⟨s, f, e⟩ := read_nanB h; unfold Format.mul; rw [e]; cases double.read x <;> rfl
theorem div_nan_left (h : nanB x = true) : double.div x y = none := by
  obtain ⟨s, f, e⟩ := read_nanB h; unfold Format.div; rw [e]; rfl
theorem div_nan_right (h : nanB y = true) : double.div x y = none := by
  obtain ⟨s, f, e⟩ := read_nanB h; unfold Format.div; rw [e]; cases double.read x <;> rfl

theorem ob_rep {f : Nat → Nat → Option Nat} (hl : ∀ x y, nanB x = true → f x y = none) (hr : ∀ x y, nanB y = true → f x y = none) (hx : Rep x o) (hy : Rep y p) : f x y = ob f o p := by
  cases o with
  | none => rw [hl x y hx.nan]; rfl
  | some a =>
    cases p with
    | none => rw [hr x y hy.nan]; rfl
    | some b => rw [hx.some_eq, hy.some_eq]; rfl

theorem add_rep (hx : Rep x o) (hy : Rep y p) (h : Rep r (double.add x y)) : Rep r (oadd o p) := by
  rw [ob_rep (fun _ _ => add_nan_left) (fun _ _ => add_nan_right) hx hy] at h; exact h
theorem sub_rep (hx : Rep x o) (hy : Rep y p) (h : Rep r (double.sub x y)) : Rep r (osub o p) := by
  rw [ob_rep (fun _ _ => sub_nan_left) (fun _ _ => sub_nan_right) hx hy] at h; exact h
theorem mul_rep (hx : Rep x o) (hy : Rep y p) (h : Rep r (double.mul x y)) : Rep r (omul o p) := by
  rw [ob_rep (fun _ _ => mul_nan_left) (fun _ _ => mul_nan_right) hx hy] at h; exact h
theorem div_rep (hx : Rep x o) (hy : Rep y p) (h : Rep r (double.div x y)) : Rep r (odiv o p) := by
  rw [ob_rep (fun _ _ => div_nan_left) (fun _ _ => div_nan_right) hx hy] at h; exact h
end

/-- No result of an operation is a NaN's bits. -/
theorem nanB_write (d : Datum) (h : d.isNaN = false) : nanB (double.write d) = false := by
  cases d with
  | number s m e =>
    show nanB (double.nearest s m e) = false
    rw [nearest_eq]
    have hle := nr_le_I m e
    unfold nanB
    rcases Nat.lt_or_ge (nr m e) I with h1 | h1
    · rw [read_fin h1]; rfl
    · rw [show nr m e = I by omega, read_inf]; rfl
  | infinity s =>
    show nanB (double.word s double.infRung) = false
    rw [word_eq, inf_eq]; unfold nanB; rw [read_inf]; rfl
  | nan s f => cases h

theorem isNaN_sum {a b d : Datum} (h : a.sum b = some d) : d.isNaN = false := by
  cases a <;> cases b <;> simp [Datum.sum] at h
  · subst h; rfl
  · subst h; rfl
  · subst h; rfl
  · obtain ⟨_, rfl⟩ := h; rfl
theorem isNaN_product {a b d : Datum} (h : a.product b = some d) : d.isNaN = false := by
  cases a <;> cases b <;> simp [Datum.product] at h
  · subst h; rfl
  · obtain ⟨_, rfl⟩ := h; rfl
  · obtain ⟨_, rfl⟩ := h; rfl
  · subst h; rfl
theorem isNaN_quotient {k : Nat} {a b d : Datum} (h : a.quotient k b = some d) : d.isNaN = false := by
  cases a <;> cases b <;> simp only [Datum.quotient] at h
  · split at h
    · split at h
      · cases h
      · cases h; rfl
    · cases h; rfl
  · cases h; rfl
  · cases h
  · cases h; rfl
  · cases h
  · cases h
  · cases h
  · cases h
  · cases h

/-- An optional word that is no NaN's. -/
def NN (o : Option Nat) : Prop := ∀ r, o = some r → nanB r = false ∧ r < 2 * G

theorem nn_map {d : Option Datum} (h : ∀ x, d = some x → x.isNaN = false) : NN (d.map double.write) := by
  intro r hr
  cases d with
  | none => cases hr
  | some x => cases hr; exact ⟨nanB_write x (h x rfl), by rw [two_G]; exact double.write_lt x⟩

theorem nn_ob {f : Nat → Nat → Option Nat} (h : ∀ x y, NN (f x y)) (o p : Option Nat) : NN (ob f o p) := by
  cases o with
  | none => intro r hr; cases hr
  | some a => cases p with
    | none => intro r hr; cases hr
    | some b => exact h a b
theorem nn_add (o p : Option Nat) : NN (oadd o p) := nn_ob (fun x y => nn_map (d := (double.read x).sum (double.read y)) fun _ h => isNaN_sum h) o p
theorem nn_sub (o p : Option Nat) : NN (osub o p) := nn_ob (fun x y => nn_map (d := (double.read x).sum (double.read y).opposite) fun _ h => isNaN_sum h) o p
theorem nn_mul (o p : Option Nat) : NN (omul o p) := nn_ob (fun x y => nn_map (d := (double.read x).product (double.read y)) fun _ h => isNaN_product h) o p
theorem nn_div (o p : Option Nat) : NN (odiv o p) := nn_ob (fun x y => nn_map (d := (double.read x).quotient _ (double.read y)) fun _ h => isNaN_quotient h) o p

/-- A word is a NaN just if there are no bits. -/
theorem nan_rep {x : Nat} {o : Option Nat} (h : Rep x o) (hn : NN o) : nanB x = o.isNone := by
  cases o with
  | none => exact h.nan
  | some a => rw [h.some_eq]; exact (hn a rfl).1

/-! ### The quotient -/

/-- |c| ≥ |d|. -/
def geB (c d : Nat) : Bool := double.order (mg c) (mg d) == some .gt || double.order (mg c) (mg d) == some .eq

/-- The parts by Smith's way. -/
def qE (a b c d : Nat) : Option Nat :=
  if geB c d then odiv (oadd (some a) (omul (some b) (odiv (some d) (some c)))) (oadd (some c) (omul (odiv (some d) (some c)) (some d)))
  else odiv (oadd (omul (some a) (odiv (some c) (some d))) (some b)) (oadd (some d) (omul (odiv (some c) (some d)) (some c)))
def qF (a b c d : Nat) : Option Nat :=
  if geB c d then odiv (osub (some b) (omul (some a) (odiv (some d) (some c)))) (oadd (some c) (omul (odiv (some d) (some c)) (some d)))
  else odiv (osub (omul (some b) (odiv (some c) (some d))) (some a)) (oadd (some d) (omul (odiv (some c) (some d)) (some c)))

/-- A complex zero. -/
def zB (c d : Nat) : Bool := (double.order c 0 == some .eq) && (double.order d 0 == some .eq)
/-- The infinity with the sign of c. -/
def sInf (c : Nat) : Nat := W (sgB c) I

/-- Which of the corrections applies. -/
def k1 (a b c d : Nat) : Bool := zB c d && (!nanB a || !nanB b)
def k2 (a b c d : Nat) : Bool := (infB a || infB b) && finB c && finB d
def k3 (a b c d : Nat) : Bool := (infB c || infB d) && finB a && finB b

def corrE (s a b c d : Nat) : Option Nat := omul (some s) (oadd (omul (some a) (some c)) (omul (some b) (some d)))
def corrF (s a b c d : Nat) : Option Nat := omul (some s) (osub (omul (some b) (some c)) (omul (some a) (some d)))

/-- The parts of the quotient; 'none': no number. -/
def dE (a b c d : Nat) : Option Nat :=
  if !((qE a b c d).isNone && (qF a b c d).isNone) then qE a b c d
  else if k1 a b c d then omul (some (sInf c)) (some a)
  else if k2 a b c d then corrE I (infOne a) (infOne b) c d
  else if k3 a b c d then corrE 0 a b (infOne c) (infOne d)
  else qE a b c d
def dF (a b c d : Nat) : Option Nat :=
  if !((qE a b c d).isNone && (qF a b c d).isNone) then qF a b c d
  else if k1 a b c d then omul (some (sInf c)) (some b)
  else if k2 a b c d then corrF I (infOne a) (infOne b) c d
  else if k3 a b c d then corrF 0 a b (infOne c) (infOne d)
  else qF a b c d

end Go.Proofs.Ythfhaflbjclmfaa.Fl

/-
What signs do to sums, products and quotients.
-/
import Derived.Test.YthfhaflbjclmfaaDq
namespace Go.Proofs.Ythfhaflbjclmfaa.Fl
open Ieee

theorem opp_kind {x : Nat} (hx : x < 2 * G) : double.read (opp x) = (double.read x).opposite := by
  cases kind hx with
  | fin s r h e =>
    subst e
    rw [opp_W s (by rw [G_eq]; omega), read_fin h, read_fin h]; rfl
  | inf s e =>
    subst e
    rw [opp_W s (by decide), read_inf, read_inf]; rfl
  | nan s f h h' e hr =>
    subst e
    rw [opp_W s (by rw [G_eq]; omega), read_nan h h', read_nan h h']; rfl

theorem opp_lt {x : Nat} (h : x < 2 * G) : opp x < 2 * G := by
  unfold opp
  rw [two_G] at *
  exact Nat.xor_lt_two_pow h (by decide)
theorem opp_opp (x : Nat) : opp (opp x) = x := by
  unfold opp; rw [Nat.xor_assoc, Nat.xor_self, Nat.xor_zero]
theorem mg_opp (x : Nat) (hx : x < 2 * G) : mg (opp x) = mg x := by
  by_cases h : x < G
  · have e := opp_W false h
    rw [show W false x = x from rfl] at e
    rw [e, mg_W _ h]
    unfold mg; exact (Nat.mod_eq_of_lt h).symm
  · have hl : x - G < G := by omega
    have e : x = W true (x - G) := by show x = G + (x - G); omega
    rw [e, opp_W true hl, mg_W _ hl, mg_W _ hl]

theorem write_opp (d : Datum) (h : d.isNaN = false) : double.write d.opposite = opp (double.write d) := by
  cases d with
  | number s m e =>
    show double.nearest (!s) m e = opp (double.nearest s m e)
    rw [nearest_eq, nearest_eq, opp_W s]
    have := nr_le_I m e
    rw [G_eq]; have := B_pos; omega
  | infinity s =>
    show double.word (!s) double.infRung = opp (double.word s double.infRung)
    rw [word_eq, word_eq, inf_eq, opp_W s (by decide)]
  | nan s f => cases h

theorem xor_not_left (s t : Bool) : ((!s) ^^ t) = !(s ^^ t) := by cases s <;> cases t <;> rfl
theorem xor_not_right (s t : Bool) : (s ^^ !t) = !(s ^^ t) := by cases s <;> cases t <;> rfl

theorem quotient_opp_l (k : Nat) (d e : Datum) : d.opposite.quotient k e = (d.quotient k e).map Datum.opposite := by
  cases d <;> cases e <;> simp only [Datum.opposite, Datum.quotient, Option.map_none, Option.map_some, xor_not_left]
  split
  · split
    · rfl
    · simp [Datum.opposite]
  · simp [Datum.opposite]
theorem quotient_opp_r (k : Nat) (d e : Datum) : d.quotient k e.opposite = (d.quotient k e).map Datum.opposite := by
  cases d <;> cases e <;> simp only [Datum.opposite, Datum.quotient, Option.map_none, Option.map_some, xor_not_right]
  split
  · split
    · rfl
    · simp [Datum.opposite]
  · simp [Datum.opposite]
theorem product_opp_l (d e : Datum) : d.opposite.product e = (d.product e).map Datum.opposite := by
  cases d <;> cases e <;> simp only [Datum.opposite, Datum.product, Option.map_none, Option.map_some, xor_not_left]
  · split <;> simp [Datum.opposite]
  · split <;> simp [Datum.opposite]
theorem product_opp_r (d e : Datum) : d.product e.opposite = (d.product e).map Datum.opposite := by
  cases d <;> cases e <;> simp only [Datum.opposite, Datum.product, Option.map_none, Option.map_some, xor_not_right]
  · split <;> simp [Datum.opposite]
  · split <;> simp [Datum.opposite]

theorem map_write_opp (o : Option Datum) (h : ∀ x, o = some x → x.isNaN = false) : (o.map Datum.opposite).map double.write = (o.map double.write).map opp := by
  cases o with
  | none => rfl
  | some d => simp only [Option.map_some]; rw [write_opp d (h d rfl)]

section
variable {x y : Nat}
theorem div_opp_l (hx : x < 2 * G) : double.div (opp x) y = (double.div x y).map opp := by
  unfold Format.div; rw [opp_kind hx, quotient_opp_l, map_write_opp _ (fun _ h => isNaN_quotient h)]
theorem div_opp_r (hy : y < 2 * G) : double.div x (opp y) = (double.div x y).map opp := by
  unfold Format.div; rw [opp_kind hy, quotient_opp_r, map_write_opp _ (fun _ h => isNaN_quotient h)]
theorem mul_opp_l (hx : x < 2 * G) : double.mul (opp x) y = (double.mul x y).map opp := by
  unfold Format.mul; rw [opp_kind hx, product_opp_l, map_write_opp _ (fun _ h => isNaN_product h)]
theorem mul_opp_r (hy : y < 2 * G) : double.mul x (opp y) = (double.mul x y).map opp := by
  unfold Format.mul; rw [opp_kind hy, product_opp_r, map_write_opp _ (fun _ h => isNaN_product h)]
theorem sub_eq_add (hy : y < 2 * G) : double.sub x y = double.add x (opp y) := by
  unfold Format.sub Format.add; rw [opp_kind hy]
end

/-- An optional word below 2 to the power of 64. -/
def Lt (o : Option Nat) : Prop := ∀ r, o = some r → r < 2 * G
theorem Lt.some {x : Nat} (h : x < 2 * G) : Lt (some x) := by rintro r ⟨⟩; exact h
theorem NN.lt {o : Option Nat} (h : NN o) : Lt o := fun r hr => (h r hr).2
/-- The opposite, where there is one. -/
def oopp (o : Option Nat) : Option Nat := o.map opp
theorem Lt.oopp {o : Option Nat} (h : Lt o) : Lt (oopp o) := by
  cases o with
  | none => rintro r ⟨⟩
  | some x => exact Lt.some (opp_lt (h x rfl))
theorem oopp_oopp (o : Option Nat) : oopp (oopp o) = o := by cases o <;> simp [oopp, opp_opp]

theorem odiv_opp_l {o p : Option Nat} (h : Lt o) : odiv (oopp o) p = oopp (odiv o p) := by
  cases o with
  | none => rfl
  | some x => cases p with
    | none => rfl
    | some y => exact div_opp_l (h x rfl)
theorem odiv_opp_r {o p : Option Nat} (h : Lt p) : odiv o (oopp p) = oopp (odiv o p) := by
  cases o with
  | none => rfl
  | some x => cases p with
    | none => rfl
    | some y => exact div_opp_r (h y rfl)
theorem omul_opp_l {o p : Option Nat} (h : Lt o) : omul (oopp o) p = oopp (omul o p) := by
  cases o with
  | none => rfl
  | some x => cases p with
    | none => rfl
    | some y => exact mul_opp_l (h x rfl)
theorem omul_opp_r {o p : Option Nat} (h : Lt p) : omul o (oopp p) = oopp (omul o p) := by
  cases o with
  | none => rfl
  | some x => cases p with
    | none => rfl
    | some y => exact mul_opp_r (h y rfl)
theorem osub_eq {o p : Option Nat} (h : Lt p) : osub o p = oadd o (oopp p) := by
  cases o with
  | none => rfl
  | some x => cases p with
    | none => rfl
    | some y => exact sub_eq_add (h y rfl)

/-- The same, or two zeros. -/
def ZR (o p : Option Nat) : Prop := o = p ∨ ∃ s t, o = some (W s 0) ∧ p = some (W t 0)
theorem ZR.refl (o : Option Nat) : ZR o o := Or.inl rfl
theorem ZR.symm {o p : Option Nat} (h : ZR o p) : ZR p o := by
  rcases h with rfl | ⟨s, t, h1, h2⟩
  · exact Or.inl rfl
  · exact Or.inr ⟨t, s, h2, h1⟩
theorem ZR.trans {o p q : Option Nat} (h : ZR o p) (k : ZR p q) : ZR o q := by
  rcases h with rfl | ⟨s, t, h1, h2⟩
  · exact k
  · rcases k with rfl | ⟨s', t', k1, k2⟩
    · exact Or.inr ⟨s, t, h1, h2⟩
    · exact Or.inr ⟨s, t', h1, k2⟩
theorem ZR.opp {o p : Option Nat} (h : ZR o p) : ZR (oopp o) (oopp p) := by
  rcases h with rfl | ⟨s, t, rfl, rfl⟩
  · exact Or.inl rfl
  · refine Or.inr ⟨!s, !t, ?_, ?_⟩
    · show some (Fl.opp (W s 0)) = _; rw [opp_W s (by decide)]
    · show some (Fl.opp (W t 0)) = _; rw [opp_W t (by decide)]

theorem signed_not (s : Bool) (m k : Nat) : signed (!s) m k = -signed s m k := by
  unfold signed; cases s <;> simp

/-- A sum of opposites is the opposite sum; a zero's sign may part. -/
theorem oadd_opp {o p : Option Nat} (ho : Lt o) (hp : Lt p) : ZR (oadd (oopp o) (oopp p)) (oopp (oadd o p)) := by
  cases o with
  | none => exact Or.inl rfl
  | some x => cases p with
    | none => exact Or.inl rfl
    | some y =>
      show ZR (double.add (opp x) (opp y)) ((double.add x y).map opp)
      have hx := ho x rfl
      have hy := hp y rfl
      unfold Format.add
      rw [opp_kind hx, opp_kind hy]
      cases h1 : double.read x with
      | nan s f => exact Or.inl rfl
      | infinity s =>
        cases h2 : double.read y with
        | nan t f => exact Or.inl rfl
        | infinity t =>
          left
          simp only [Datum.opposite, Datum.sum]
          by_cases h : s = t
          · subst h; rw [if_pos rfl, if_pos rfl]
            simp only [Option.map_some]
            rw [← write_opp _ rfl]; rfl
          · rw [if_neg h, if_neg (fun h' => h (by cases s <;> cases t <;> simp_all))]; rfl
        | number t n j =>
          left
          simp only [Datum.opposite, Datum.sum, Option.map_some]
          rw [← write_opp _ rfl]; rfl
      | number s m i =>
        cases h2 : double.read y with
        | nan t f => exact Or.inl rfl
        | infinity t =>
          left
          simp only [Datum.opposite, Datum.sum, Option.map_some]
          rw [← write_opp _ rfl]; rfl
        | number t n j =>
          simp only [Datum.opposite, Datum.sum, Option.map_some, signed_not, Format.write, nearest_eq]
          generalize hS : signed s m (i - min i j).toNat + signed t n (j - min i j).toNat = S
          have e : -signed s m (i - min i j).toNat + -signed t n (j - min i j).toNat = -S := by rw [← hS]; omega
          rw [e, Int.natAbs_neg]
          by_cases hz : S = 0
          · right
            subst hz
            refine ⟨!s && !t, !(s && t), by rw [if_pos (by omega), Int.natAbs_zero, nr_zero], ?_⟩
            rw [if_pos rfl, Int.natAbs_zero, nr_zero, opp_W _ (by decide)]
          · left
            rw [if_neg (by omega), if_neg hz]
            have hle := nr_le_I S.natAbs (min i j)
            rw [opp_W _ (by rw [G_eq]; have := B_pos; omega)]
            congr 2
            by_cases hs : S < 0
            · rw [decide_eq_true hs, decide_eq_false (by omega)]; rfl
            · rw [decide_eq_false hs, decide_eq_true (by omega)]; rfl

end Go.Proofs.Ythfhaflbjclmfaa.Fl

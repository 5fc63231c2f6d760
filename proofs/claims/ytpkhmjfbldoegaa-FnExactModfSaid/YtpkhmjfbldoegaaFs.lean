/-
The reference's formats: what their small functions hand back.
-/
import Derived.Test.YtpkhmjfbldoegaaFc
import Derived.Deep.RegionHeld3
import Derived.Deep.QuietTactic
import Derived.BigQuiet
namespace Go.Proofs.Ytpkhmjfbldoegaa
open Go.RowKit Fl

/-- New blocks and draws alone. -/
structure Ok (w w' : World) : Prop where
  below : Below w.heap.size w w'
  frozen : ∀ a, w'.frozen? a = w.frozen? a

theorem Ok.refl (w : World) : Ok w w := ⟨Below.refl _ _, fun _ => rfl⟩
theorem Ok.trans {a b c : World} (h : Ok a b) (k : Ok b c) : Ok a c :=
  ⟨h.below.trans (k.below.mono h.below.size), fun x => (k.frozen x).trans (h.frozen x)⟩
theorem Ok.drewN {a b : World} (h : Ok a b) (n : Nat) : Ok a (b.drewN n) := h.trans ⟨⟨rfl, rfl, rfl, Nat.le_refl _, fun _ _ => rfl⟩, fun _ => rfl⟩
theorem Ok.drew {a b : World} (h : Ok a b) : Ok a b.drew := h.drewN 1
theorem Ok.alloc {a b : World} (h : Ok a b) (c : Array Value) (t : TypeId) : Ok a (b.alloc (.cells c t)) :=
  h.trans ⟨(Below.refl _ _).alloc (Nat.le_refl _) _, fun x => frozen?_alloc_cells _ _ _ x⟩
theorem Ok.setCell {a b : World} (h : Ok a b) {p : Addr} (hp : a.heap.size ≤ p.block) (v : Value) : Ok a (b.setCell p v) :=
  ⟨h.below.setCell hp v, fun x => (World.frozen?_setCell _ _ _ _).trans (h.frozen x)⟩
theorem Ok.grown {a b : World} (h : Ok a b) : Grown a b := ⟨h.below.frame _, h.frozen, h.below.size⟩
theorem Ok.cell {a b : World} (h : Ok a b) {p : Addr} {v : Value} (hc : a.cell? p = some v) : b.cell? p = some v := by
  have hp : p.block < a.heap.size := by
    unfold World.cell? at hc
    split at hc
    · rename_i hb
      exact (Array.getElem?_eq_some_iff.1 hb).1
    · simp at hc
  rw [h.below.cell hp, hc]
theorem Fl.Drew.ok {a b : World} (h : Drew a b) : Ok a b := by
  obtain ⟨n, rfl⟩ := h; exact (Ok.refl a).drewN n

set_option maxHeartbeats 400000 in
theorem Double_any (w : World) : Calls Try.prog 14 #[] w fun e w' => e = .returned (.agg #[.int .i64 53, .int .i64 52, .int .i64 (-1074), .int .u64 2047, .int .u64 9223372036854775808]) ∧ Ok w w' := by
  go_enter Try.func14, Try.ntmps14
  go_wp2
  exact bodyPost_ret (v := .agg #[.int .i64 53, .int .i64 52, .int .i64 (-1074), .int .u64 2047, .int .u64 9223372036854775808]) (by simp [results, Try.results14, go_sem]) rfl ⟨rfl, (Ok.refl w).alloc _ _⟩

/-- The exponent field, the fraction field. -/
def ex (b : Nat) : Nat := b / B % 2048
def fx (b : Nat) : Nat := b % B

theorem exp_bits' (b : Nat) (hb : b < 2 * G) : bits BinOp.and IntKind.u64 (↑b / 4503599627370496) 2047 = ((ex b : Nat) : Int) := by
  have e1 : (b : Int) / 4503599627370496 = ((b / B : Nat) : Int) := by
    show (b : Int) / ((B : Nat) : Int) = _
    exact (Int.natCast_ediv b B).symm
  have e2 : (2047 : Int) = ((2047 : Nat) : Int) := rfl
  have hG : 2047 < 2 * G := by decide
  rw [e1, e2, and_u64 (Nat.lt_of_le_of_lt (Nat.div_le_self _ _) hb) hG]
  have : (2047 : Nat) = 2 ^ 11 - 1 := by decide
  rw [this, Nat.and_two_pow_sub_one_eq_mod]; rfl

set_option maxHeartbeats 400000 in
theorem exp_any (b : Nat) (hb : b < 2 * G) (w : World) : Calls Try.prog 33 #[.agg #[.int .i64 53, .int .i64 52, .int .i64 (-1074), .int .u64 2047, .int .u64 9223372036854775808], .int .u64 b] w fun e w' => e = .returned (.int .u64 ((ex b : Nat) : Int)) ∧ Ok w w' := by
  rw [← exp_bits' b hb]
  go_enter Try.func33, Try.ntmps33
  go_wp2
  go_quiet (fail)
  go_wp2
  go_ret
  exact ⟨rfl, ((Ok.refl w).alloc _ _).drewN _⟩

theorem frac_bits' (b : Nat) (hb : b < 2 * G) : bits BinOp.and IntKind.u64 (↑b) 4503599627370495 = ((fx b : Nat) : Int) := by
  have e2 : (4503599627370495 : Int) = ((B - 1 : Nat) : Int) := by decide
  have hG : B - 1 < 2 * G := by decide
  rw [e2, and_u64 hb hG]; unfold fx; rw [B_pow, Nat.and_two_pow_sub_one_eq_mod]

set_option maxHeartbeats 400000 in
theorem frac_any (b : Nat) (hb : b < 2 * G) (w : World) : Calls Try.prog 34 #[.agg #[.int .i64 53, .int .i64 52, .int .i64 (-1074), .int .u64 2047, .int .u64 9223372036854775808], .int .u64 b] w fun e w' => e = .returned (.int .u64 ((fx b : Nat) : Int)) ∧ Ok w w' := by
  rw [← frac_bits' b hb]
  go_enter Try.func34, Try.ntmps34
  go_wp2
  go_ret
  exact ⟨rfl, ((Ok.refl w).alloc _ _)⟩

/-- A format lies in block k, and the world is w but for new blocks. -/
def Boxed (w : World) (k : Nat) (w' : World) : Prop := w'.cell? ⟨k, 0, none⟩ = some (.int .i64 53) ∧ w'.cell? ⟨k, 1, none⟩ = some (.int .i64 52) ∧ w'.cell? ⟨k, 2, none⟩ = some (.int .i64 (-1074)) ∧ w'.cell? ⟨k, 3, none⟩ = some (.int .u64 2047) ∧ w'.cell? ⟨k, 4, none⟩ = some (.int .u64 9223372036854775808) ∧ Ok w w'

theorem Boxed.start (w : World) : Boxed w w.heap.size (w.alloc (.cells #[.int .i64 53, .int .i64 52, .int .i64 (-1074), .int .u64 2047, .int .u64 9223372036854775808] 26)) :=
  ⟨by simp, by simp, by simp, by simp, by simp, (Ok.refl w).alloc _ _⟩
theorem Boxed.next {w a b : World} {k : Nat} (h : Boxed w k a) (g : Ok a b) : Boxed w k b := by
  obtain ⟨h1, h2, h3, h4, h5, h6⟩ := h
  exact ⟨g.cell h1, g.cell h2, g.cell h3, g.cell h4, g.cell h5, h6.trans g⟩
theorem Boxed.drew {w a : World} {k : Nat} (h : Boxed w k a) : Boxed w k a.drew := h.next (Ok.refl a).drew

/-! What the fields say. -/
theorem ex_W (s : Bool) {r : Nat} (h : r < G) : ex (W s r) = r / B := by
  have hG : G = 2048 * B := by decide
  have hr : r / B < 2048 := (Nat.div_lt_iff_lt_mul B_pos).2 (by rw [← hG]; exact h)
  unfold ex W
  cases s
  · exact Nat.mod_eq_of_lt hr
  · simp only [if_true]
    rw [hG, Nat.mul_comm, Nat.mul_add_div B_pos, Nat.add_mod_left]; exact Nat.mod_eq_of_lt hr
theorem fx_W (s : Bool) {r : Nat} : fx (W s r) = r % B := by
  have hG : G = B * 2048 := by decide
  unfold fx W
  cases s
  · rfl
  · simp only [if_true]
    rw [hG, Nat.mul_add_mod]
theorem ex_fin (s : Bool) {r : Nat} (h : r < I) : ex (W s r) < 2047 := by
  rw [ex_W s (by rw [G_eq]; omega)]
  exact (Nat.div_lt_iff_lt_mul B_pos).2 (by rw [← I_eq]; exact h)
theorem fin_bits {b : Nat} (hb : b < 2 * G) : (((ex b : Nat) : Int) != 2047) = finB b := by
  cases kind hb with
  | fin s r h e =>
    subst e
    have := ex_fin s h
    have h1 : ((((ex (W s r) : Nat) : Int)) != 2047) = true := by simp; omega
    have hi : infB (W s r) = false := by unfold infB; rw [read_fin h]; rfl
    rw [h1]; unfold finB; rw [nanB_fin h, hi]; rfl
  | inf s e =>
    subst e
    rw [ex_W s (by decide)]
    unfold finB infB nanB; rw [read_inf]; rfl
  | nan s f h1 h2 e hr =>
    have h3 : finB b = false := by unfold finB nanB; rw [hr]; rfl
    rw [h3, e, ex_W s (by rw [G_eq]; omega)]
    have : (I + f) / B = 2047 := by
      rw [I_eq, Nat.mul_comm, Nat.mul_add_div B_pos, Nat.div_eq_of_lt h2]
    rw [this]; rfl
theorem nan_bits {b : Nat} (hb : b < 2 * G) : ((((ex b : Nat) : Int) == 2047) && (((fx b : Nat) : Int) != 0)) = nanB b := by
  cases kind hb with
  | fin s r h e =>
    subst e
    have := ex_fin s h
    have h1 : ((((ex (W s r) : Nat) : Int)) == 2047) = false := by simp; omega
    rw [h1, nanB_fin h]; rfl
  | inf s e =>
    subst e
    rw [fx_W s]
    unfold nanB; rw [read_inf]
    have : I % B = 0 := by decide
    rw [this]; simp [Ieee.Datum.isNaN]
  | nan s f h1 h2 e hr =>
    have h3 : nanB b = true := by unfold nanB; rw [hr]; rfl
    rw [h3, e, ex_W s (by rw [G_eq]; omega), fx_W s]
    have : (I + f) / B = 2047 := by
      rw [I_eq, Nat.mul_comm, Nat.mul_add_div B_pos, Nat.div_eq_of_lt h2]
    have h4 : (I + f) % B = f := by
      rw [I_eq, Nat.mul_comm, Nat.mul_add_mod]; exact Nat.mod_eq_of_lt h2
    rw [this, h4]; simp; omega
theorem inf_bits {b : Nat} (hb : b < 2 * G) : ((((ex b : Nat) : Int) == 2047) && (((fx b : Nat) : Int) == 0)) = infB b := by
  have h1 := fin_bits hb
  have h2 := nan_bits hb
  rw [← infB_eq, ← h1, ← h2]
  cases h : (((ex b : Nat) : Int) == 2047) <;> cases h' : (((fx b : Nat) : Int) == 0) <;> simp [bne, h, h']

set_option maxHeartbeats 1000000 in
theorem Finite_any (b : Nat) (hb : b < 2 * G) (w : World) : Calls Try.prog 23 #[.agg #[.int .i64 53, .int .i64 52, .int .i64 (-1074), .int .u64 2047, .int .u64 9223372036854775808], .int .u64 b] w fun e w' => e = .returned (.bool (finB b)) ∧ Ok w w' := by
  rw [← fin_bits hb]
  have H := hid (exp_any b hb)
  go_enter Try.func23, Try.ntmps23
  go_wp2
  go_region_held3 (fun w' => w'.cell? ⟨w.heap.size, 0, none⟩ = some (.int .i64 53) ∧ w'.cell? ⟨w.heap.size, 1, none⟩ = some (.int .i64 52) ∧ w'.cell? ⟨w.heap.size, 2, none⟩ = some (.int .i64 (-1074)) ∧ w'.cell? ⟨w.heap.size, 3, none⟩ = some (.int .u64 2047) ∧ w'.cell? ⟨w.heap.size, 4, none⟩ = some (.int .u64 9223372036854775808) ∧ Ok w w')
    (first | exact (Boxed.start w).drew | exact Boxed.next (w := w) (k := w.heap.size) ‹_ ∧ _› ‹Ok _ _› | go_keep)
    (first | (go_at_call 33; refine (H.out _).mono ?_; rintro e w' ⟨rfl, hok⟩))
  go_wp2
  go_ret
  rename_i hh
  exact ⟨rfl, hh.2.2.2.2.2⟩

set_option maxHeartbeats 1000000 in
theorem IsNaN_any (b : Nat) (hb : b < 2 * G) (w : World) : Calls Try.prog 15 #[.agg #[.int .i64 53, .int .i64 52, .int .i64 (-1074), .int .u64 2047, .int .u64 9223372036854775808], .int .u64 b] w fun e w' => e = .returned (.bool (nanB b)) ∧ Ok w w' := by
  rw [← nan_bits hb]
  have H := hid (exp_any b hb)
  have H2 := hid (frac_any b hb)
  cases h : (((ex b : Nat) : Int) == 2047)
  · have HB := hid (Boxed.start w).drew
    go_enter Try.func15, Try.ntmps15
    go_wp2
    first | (go_region_with (go_at_call 33; refine (H.out _).mono ?_; rintro e w' ⟨rfl, hok⟩; obtain ⟨c0, c1, c2, c3, c4, hk⟩ := HB.out.next hok)) | fail
    all_goals (go_wp2; go_ret; exact ⟨rfl, hk⟩)
  · go_enter Try.func15, Try.ntmps15
    go_wp2
    go_region_held3 (fun w' => w'.cell? ⟨w.heap.size, 0, none⟩ = some (.int .i64 53) ∧ w'.cell? ⟨w.heap.size, 1, none⟩ = some (.int .i64 52) ∧ w'.cell? ⟨w.heap.size, 2, none⟩ = some (.int .i64 (-1074)) ∧ w'.cell? ⟨w.heap.size, 3, none⟩ = some (.int .u64 2047) ∧ w'.cell? ⟨w.heap.size, 4, none⟩ = some (.int .u64 9223372036854775808) ∧ Ok w w')
      (first | exact (Boxed.start w).drew | exact Boxed.next (w := w) (k := w.heap.size) ‹_ ∧ _› ‹Ok _ _› | go_keep)
      (first | (go_at_call 33; refine (H.out _).mono ?_; rintro e w' ⟨rfl, hok⟩) | (go_at_call 34; refine (H2.out _).mono ?_; rintro e w' ⟨rfl, hok⟩))
    go_wp2
    go_ret
    rename_i hh
    exact ⟨rfl, hh.2.2.2.2.2⟩

set_option maxHeartbeats 1000000 in
theorem IsInf_any (b : Nat) (hb : b < 2 * G) (w : World) : Calls Try.prog 21 #[.agg #[.int .i64 53, .int .i64 52, .int .i64 (-1074), .int .u64 2047, .int .u64 9223372036854775808], .int .u64 b] w fun e w' => e = .returned (.bool (infB b)) ∧ Ok w w' := by
  rw [← inf_bits hb]
  have H := hid (exp_any b hb)
  have H2 := hid (frac_any b hb)
  cases h : (((ex b : Nat) : Int) == 2047)
  · have HB := hid (Boxed.start w).drew
    go_enter Try.func21, Try.ntmps21
    go_wp2
    first | (go_region_with (go_at_call 33; refine (H.out _).mono ?_; rintro e w' ⟨rfl, hok⟩; obtain ⟨c0, c1, c2, c3, c4, hk⟩ := HB.out.next hok)) | fail
    all_goals (go_wp2; go_ret; exact ⟨rfl, hk⟩)
  · go_enter Try.func21, Try.ntmps21
    go_wp2
    go_region_held3 (fun w' => w'.cell? ⟨w.heap.size, 0, none⟩ = some (.int .i64 53) ∧ w'.cell? ⟨w.heap.size, 1, none⟩ = some (.int .i64 52) ∧ w'.cell? ⟨w.heap.size, 2, none⟩ = some (.int .i64 (-1074)) ∧ w'.cell? ⟨w.heap.size, 3, none⟩ = some (.int .u64 2047) ∧ w'.cell? ⟨w.heap.size, 4, none⟩ = some (.int .u64 9223372036854775808) ∧ Ok w w')
      (first | exact (Boxed.start w).drew | exact Boxed.next (w := w) (k := w.heap.size) ‹_ ∧ _› ‹Ok _ _› | go_keep)
      (first | (go_at_call 33; refine (H.out _).mono ?_; rintro e w' ⟨rfl, hok⟩) | (go_at_call 34; refine (H2.out _).mono ?_; rintro e w' ⟨rfl, hok⟩))
    go_wp2
    go_ret
    rename_i hh
    exact ⟨rfl, hh.2.2.2.2.2⟩

/-- A uint64 argument as a plain number. -/
theorem u64_nat {a : Int} (h : (Lit.int .u64 a).wf = true) : ∃ x : Nat, a = x ∧ x < 2 * G := by
  have h1 : 0 ≤ a ∧ a ≤ 18446744073709551615 := by
    simp [Lit.wf, IntKind.min, IntKind.max, IntKind.signed, IntKind.bits] at h
    exact h
  refine ⟨a.toNat, (Int.toNat_of_nonneg h1.1).symm, ?_⟩
  have : (2 * G : Nat) = 18446744073709551616 := by decide
  omega

end Go.Proofs.Ytpkhmjfbldoegaa

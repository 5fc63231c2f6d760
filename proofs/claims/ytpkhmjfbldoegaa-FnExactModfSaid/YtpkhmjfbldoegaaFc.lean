/-
The functions of floats, each by what it hands back.
-/
import Derived.Test.YtpkhmjfbldoegaaRows
import Derived.Test.YtpkhmjfbldoegaaFb
import Derived.WalkSpells
import Derived.WalkLawsBesides
import Derived.Laws.Externs
namespace Go.Proofs.Ytpkhmjfbldoegaa
open Go.RowKit Fl

/-- A fact that the walk does not look into. -/
theorem hid {p : Prop} (h : p) : Hid p := h

@[go_sem] theorem run_bits (x : Nat) (w : World) : (callFunc 17 #[.float .f64 x]).run Try.prog w = .ok (.value (.int .u64 x)) w := by
  rw [run_callFunc_extern Try.func17 (by kernel_rfl) (by kernel_rfl) (by kernel_rfl) (e := Extern.MathFloatBits.float64bits) (by kernel_rfl)]
  rfl
@[go_sem] theorem run_frombits (x : Int) (w : World) : (callFunc 13 #[.int .u64 x]).run Try.prog w = .ok (.value (.float .f64 x.toNat)) w := by
  rw [run_callFunc_extern Try.func13 (by kernel_rfl) (by kernel_rfl) (by kernel_rfl) (e := Extern.MathFloatBits.float64frombits) (by kernel_rfl)]
  rfl

/-- '-x' of a float: the other sign. -/
@[go_sem] theorem run_neg (x : Nat) (w : World) : (Op.unary .neg (.float .f64 x)).run Try.prog w = .ok (.float .f64 (opp x)) w := rfl

set_option maxHeartbeats 400000 in
theorem isNaN_any (x : Nat) (w : World) : Calls Try.prog 53 #[.float .f64 x] w fun e w' => e = .returned (.bool (nanB x)) ∧ w = w' := by
  rw [← ne_self]
  go_enter Try.func53, Try.ntmps53
  go_wp2
  go_ret
  exact ⟨rfl, rfl⟩

set_option maxHeartbeats 400000 in
theorem bits_any (x : Nat) (w : World) : Calls Try.prog 68 #[.float .f64 x] w fun e w' => e = .returned (.int .u64 x) ∧ w = w' := by
  go_enter Try.func68, Try.ntmps68
  go_wp2
  go_ret
  exact ⟨rfl, rfl⟩

set_option maxHeartbeats 400000 in
theorem frombits_any (x : Int) (w : World) : Calls Try.prog 67 #[.int .u64 x] w fun e w' => e = .returned (.float .f64 x.toNat) ∧ w = w' := by
  go_enter Try.func67, Try.ntmps67
  go_wp2
  go_ret
  exact ⟨rfl, rfl⟩

/-- What isFinite says: that a float less itself is no NaN. -/
theorem isFinite_any (x : Nat) (w : World) : Calls Try.prog 55 #[.float .f64 x] w fun e w' => e = .returned (.bool (finB x)) ∧ Drew w w' := by
  obtain ⟨r, n, h, hr⟩ := run_sub_ex (P := Try.prog) x x w
  rw [← rep_self hr]
  clear hr
  go_enter Try.func55, Try.ntmps55
  go_wp2_with (go_at_call 53; refine (isNaN_any _ _).mono ?_; rintro e w' ⟨rfl, rfl⟩)
  go_ret
  exact ⟨rfl, n, rfl⟩

theorem isInf_any (x : Nat) (w : World) : Calls Try.prog 54 #[.float .f64 x] w fun e w' => e = .returned (.bool (infB x)) ∧ Drew w w' := by
  rw [← infB_eq]
  cases hn : nanB x
  · go_enter Try.func54, Try.ntmps54
    go_wp2_with (first | (go_at_call 53; refine (isNaN_any _ _).mono ?_; rintro e w' ⟨rfl, rfl⟩) | (go_at_call 55; refine (isFinite_any _ _).mono ?_; rintro e w' ⟨rfl, n, rfl⟩))
    go_ret
    exact ⟨rfl, n, rfl⟩
  · go_enter Try.func54, Try.ntmps54
    go_wp2_with (first | (go_at_call 53; refine (isNaN_any _ _).mono ?_; rintro e w' ⟨rfl, rfl⟩) | (go_at_call 55; refine (isFinite_any _ _).mono ?_; rintro e w' ⟨rfl, n, rfl⟩))
    go_ret
    exact ⟨rfl, 0, rfl⟩

set_option maxHeartbeats 400000 in
theorem abs_eq (x : Nat) (hx : x < 2 * G) (w : World) : Calls Try.prog 51 #[.float .f64 x] w fun e w' => e = .returned (.float .f64 (mg x)) ∧ w = w' := by
  have e1 : mg x = (bits .andNot .u64 (x : Int) 9223372036854775808).toNat := by rw [andNot_sign x hx]; rfl
  rw [e1]
  clear e1
  go_enter Try.func51, Try.ntmps51
  go_wp2_with (first | (go_at_call 68; refine (bits_any _ _).mono ?_; rintro e w' ⟨rfl, rfl⟩) | (go_at_call 67; refine (frombits_any _ _).mono ?_; rintro e w' ⟨rfl, rfl⟩))
  go_ret
  exact ⟨rfl, rfl⟩

set_option maxHeartbeats 400000 in
theorem copysign_eq (x y : Nat) (hx : x < 2 * G) (hy : y < 2 * G) (w : World) : Calls Try.prog 52 #[.float .f64 x, .float .f64 y] w fun e w' => e = .returned (.float .f64 (W (sgB y) (mg x))) ∧ w = w' := by
  have e1 : W (sgB y) (mg x) = (bits .or .u64 (bits .andNot .u64 (x : Int) 9223372036854775808) (bits .and .u64 (y : Int) 9223372036854775808)).toNat := by rw [copy_bits x y hx hy]; rfl
  rw [e1]
  clear e1
  go_enter Try.func52, Try.ntmps52
  go_wp2_with (first | (go_at_call 68; refine (bits_any _ _).mono ?_; rintro e w' ⟨rfl, rfl⟩) | (go_at_call 67; refine (frombits_any _ _).mono ?_; rintro e w' ⟨rfl, rfl⟩))
  go_ret
  exact ⟨rfl, rfl⟩

theorem abs_any (x : Nat) (hx : x < 2 * G) (w : World) : Calls Try.prog 51 #[.float .f64 x] w fun e w' => e = .returned (.float .f64 (mg x)) ∧ Drew w w' :=
  (abs_eq x hx w).mono fun _ _ h => ⟨h.1, 0, h.2.symm⟩
theorem copysign_any (x y : Nat) (hx : x < 2 * G) (hy : y < 2 * G) (w : World) : Calls Try.prog 52 #[.float .f64 x, .float .f64 y] w fun e w' => e = .returned (.float .f64 (W (sgB y) (mg x))) ∧ Drew w w' :=
  (copysign_eq x y hx hy w).mono fun _ _ h => ⟨h.1, 0, h.2.symm⟩

set_option maxHeartbeats 400000 in
theorem inf2one_any (x : Nat) (hx : x < 2 * G) (w : World) : Calls Try.prog 64 #[.float .f64 x] w fun e w' => e = .returned (.float .f64 (infOne x)) ∧ Drew w w' := by
  unfold infOne
  have c0 := hid (copysign_any 0 x (by decide) hx)
  have c1 := hid (copysign_any 4607182418800017408 x (by decide) hx)
  cases h : infB x
  · go_enter Try.func64, Try.ntmps64
    go_wp2_with (first | (go_at_call 54; refine (isInf_any _ _).mono ?_; rintro e w' ⟨rfl, n, rfl⟩) | (go_at_call 52; refine (c0.out _).mono ?_; rintro e w' ⟨rfl, m, rfl⟩))
    go_ret
    exact ⟨rfl, _, rfl⟩
  · go_enter Try.func64, Try.ntmps64
    go_wp2_with (first | (go_at_call 54; refine (isInf_any _ _).mono ?_; rintro e w' ⟨rfl, n, rfl⟩) | (go_at_call 52; refine (c1.out _).mono ?_; rintro e w' ⟨rfl, m, rfl⟩))
    go_ret
    exact ⟨rfl, _, rfl⟩

end Go.Proofs.Ytpkhmjfbldoegaa

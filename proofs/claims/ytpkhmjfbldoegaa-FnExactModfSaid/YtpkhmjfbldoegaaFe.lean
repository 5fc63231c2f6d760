/-
The thin functions round the functions of floats, each by what it hands back.
-/
import Derived.Test.YtpkhmjfbldoegaaFd
namespace Go.Proofs.Ytpkhmjfbldoegaa
open Go.RowKit Fl

set_option maxHeartbeats 400000 in
theorem pkgAbs (x : Nat) (hx : x < 2 * G) (w : World) : Calls Try.prog 35 #[.float .f64 x] w fun e w' => e = .returned (.float .f64 (mg x)) ∧ Drew w w' := by
  have H := hid (abs_any x hx)
  go_enter Try.func35, Try.ntmps35
  go_wp2_with (go_at_call 51; refine (H.out _).mono ?_; rintro e w' ⟨rfl, n, rfl⟩)
  go_ret
  exact ⟨rfl, n, rfl⟩

set_option maxHeartbeats 400000 in
theorem implAbs (x : Nat) (hx : x < 2 * G) (w : World) : Calls Try.prog 16 #[.float .f64 x] w fun e w' => e = .returned (.float .f64 (mg x)) ∧ Drew w w' := by
  have H := hid (pkgAbs x hx)
  go_enter Try.func16, Try.ntmps16
  go_wp2_with (go_at_call 35; refine (H.out _).mono ?_; rintro e w' ⟨rfl, n, rfl⟩)
  go_ret
  exact ⟨rfl, n, rfl⟩

set_option maxHeartbeats 400000 in
theorem pkgCopysign (x y : Nat) (hx : x < 2 * G) (hy : y < 2 * G) (w : World) : Calls Try.prog 36 #[.float .f64 x, .float .f64 y] w fun e w' => e = .returned (.float .f64 (W (sgB y) (mg x))) ∧ Drew w w' := by
  have H := hid (copysign_any x y hx hy)
  go_enter Try.func36, Try.ntmps36
  go_wp2_with (go_at_call 52; refine (H.out _).mono ?_; rintro e w' ⟨rfl, n, rfl⟩)
  go_ret
  exact ⟨rfl, n, rfl⟩

set_option maxHeartbeats 400000 in
theorem implCopysign (x y : Nat) (hx : x < 2 * G) (hy : y < 2 * G) (w : World) : Calls Try.prog 18 #[.float .f64 x, .float .f64 y] w fun e w' => e = .returned (.float .f64 (W (sgB y) (mg x))) ∧ Drew w w' := by
  have H := hid (pkgCopysign x y hx hy)
  go_enter Try.func18, Try.ntmps18
  go_wp2_with (go_at_call 36; refine (H.out _).mono ?_; rintro e w' ⟨rfl, n, rfl⟩)
  go_ret
  exact ⟨rfl, n, rfl⟩

set_option maxHeartbeats 400000 in
theorem pkgIsNaN (x : Nat)  (w : World) : Calls Try.prog 37 #[.float .f64 x] w fun e w' => e = .returned (.bool (nanB x)) ∧ w = w' := by
  have H := hid (isNaN_any x )
  go_enter Try.func37, Try.ntmps37
  go_wp2_with (go_at_call 53; refine (H.out _).mono ?_; rintro e w' ⟨rfl, rfl⟩)
  go_ret
  exact ⟨rfl, rfl⟩

set_option maxHeartbeats 400000 in
theorem implIsNaN (x : Nat)  (w : World) : Calls Try.prog 19 #[.float .f64 x] w fun e w' => e = .returned (.bool (nanB x)) ∧ w = w' := by
  have H := hid (pkgIsNaN x )
  go_enter Try.func19, Try.ntmps19
  go_wp2_with (go_at_call 37; refine (H.out _).mono ?_; rintro e w' ⟨rfl, rfl⟩)
  go_ret
  exact ⟨rfl, rfl⟩

set_option maxHeartbeats 400000 in
theorem pkgIsInf (x : Nat)  (w : World) : Calls Try.prog 38 #[.float .f64 x] w fun e w' => e = .returned (.bool (infB x)) ∧ Drew w w' := by
  have H := hid (isInf_any x )
  go_enter Try.func38, Try.ntmps38
  go_wp2_with (go_at_call 54; refine (H.out _).mono ?_; rintro e w' ⟨rfl, n, rfl⟩)
  go_ret
  exact ⟨rfl, n, rfl⟩

set_option maxHeartbeats 400000 in
theorem implIsInf (x : Nat)  (w : World) : Calls Try.prog 20 #[.float .f64 x] w fun e w' => e = .returned (.bool (infB x)) ∧ Drew w w' := by
  have H := hid (pkgIsInf x )
  go_enter Try.func20, Try.ntmps20
  go_wp2_with (go_at_call 38; refine (H.out _).mono ?_; rintro e w' ⟨rfl, n, rfl⟩)
  go_ret
  exact ⟨rfl, n, rfl⟩

set_option maxHeartbeats 400000 in
theorem pkgIsFinite (x : Nat)  (w : World) : Calls Try.prog 39 #[.float .f64 x] w fun e w' => e = .returned (.bool (finB x)) ∧ Drew w w' := by
  have H := hid (isFinite_any x )
  go_enter Try.func39, Try.ntmps39
  go_wp2_with (go_at_call 55; refine (H.out _).mono ?_; rintro e w' ⟨rfl, n, rfl⟩)
  go_ret
  exact ⟨rfl, n, rfl⟩

set_option maxHeartbeats 400000 in
theorem implIsFinite (x : Nat)  (w : World) : Calls Try.prog 22 #[.float .f64 x] w fun e w' => e = .returned (.bool (finB x)) ∧ Drew w w' := by
  have H := hid (pkgIsFinite x )
  go_enter Try.func22, Try.ntmps22
  go_wp2_with (go_at_call 39; refine (H.out _).mono ?_; rintro e w' ⟨rfl, n, rfl⟩)
  go_ret
  exact ⟨rfl, n, rfl⟩

set_option maxHeartbeats 400000 in
theorem pkgInf2One (x : Nat) (hx : x < 2 * G) (w : World) : Calls Try.prog 47 #[.float .f64 x] w fun e w' => e = .returned (.float .f64 (infOne x)) ∧ Drew w w' := by
  have H := hid (inf2one_any x hx)
  go_enter Try.func47, Try.ntmps47
  go_wp2_with (go_at_call 64; refine (H.out _).mono ?_; rintro e w' ⟨rfl, n, rfl⟩)
  go_ret
  exact ⟨rfl, n, rfl⟩

set_option maxHeartbeats 400000 in
theorem implInf2One (x : Nat) (hx : x < 2 * G) (w : World) : Calls Try.prog 27 #[.float .f64 x] w fun e w' => e = .returned (.float .f64 (infOne x)) ∧ Drew w w' := by
  have H := hid (pkgInf2One x hx)
  go_enter Try.func27, Try.ntmps27
  go_wp2_with (go_at_call 47; refine (H.out _).mono ?_; rintro e w' ⟨rfl, n, rfl⟩)
  go_ret
  exact ⟨rfl, n, rfl⟩

set_option maxHeartbeats 400000 in
theorem pkgFloor (x : Nat) (hx : x < 2 * G) (w : World) : Calls Try.prog 48 #[.float .f64 x] w fun e w' => e = .returned (.float .f64 (flW x)) ∧ Drew w w' := by
  have H := hid (floor_any x hx)
  go_enter Try.func48, Try.ntmps48
  go_wp2_with (go_at_call 65; refine (H.out _).mono ?_; rintro e w' ⟨rfl, n, rfl⟩)
  go_ret
  exact ⟨rfl, n, rfl⟩

set_option maxHeartbeats 400000 in
theorem implFloor (x : Nat) (hx : x < 2 * G) (w : World) : Calls Try.prog 29 #[.float .f64 x] w fun e w' => e = .returned (.float .f64 (flW x)) ∧ Drew w w' := by
  have H := hid (pkgFloor x hx)
  go_enter Try.func29, Try.ntmps29
  go_wp2_with (go_at_call 48; refine (H.out _).mono ?_; rintro e w' ⟨rfl, n, rfl⟩)
  go_ret
  exact ⟨rfl, n, rfl⟩

set_option maxHeartbeats 400000 in
theorem pkgCeil (x : Nat) (hx : x < 2 * G) (w : World) : Calls Try.prog 50 #[.float .f64 x] w fun e w' => e = .returned (.float .f64 (opp (flW (opp x)))) ∧ Drew w w' := by
  have H := hid (ceil_any x hx)
  go_enter Try.func50, Try.ntmps50
  go_wp2_with (go_at_call 66; refine (H.out _).mono ?_; rintro e w' ⟨rfl, n, rfl⟩)
  go_ret
  exact ⟨rfl, n, rfl⟩

set_option maxHeartbeats 400000 in
theorem implCeil (x : Nat) (hx : x < 2 * G) (w : World) : Calls Try.prog 31 #[.float .f64 x] w fun e w' => e = .returned (.float .f64 (opp (flW (opp x)))) ∧ Drew w w' := by
  have H := hid (pkgCeil x hx)
  go_enter Try.func31, Try.ntmps31
  go_wp2_with (go_at_call 50; refine (H.out _).mono ?_; rintro e w' ⟨rfl, n, rfl⟩)
  go_ret
  exact ⟨rfl, n, rfl⟩

set_option maxHeartbeats 400000 in
theorem pkgModf (s : Bool) (r : Nat) (hr : r < I) (w : World) : Calls Try.prog 40 #[.float .f64 (W s r)] w fun e w' => e = .returned (.tuple #[.float .f64 (W s (ti r)), .float .f64 (W s (fr r))]) ∧ w = w' := by
  have H := hid (modf_any s r hr)
  go_enter Try.func40, Try.ntmps40
  go_wp2_with (go_at_call 56; refine (H.out _).mono ?_; rintro e w' ⟨rfl, rfl⟩)
  go_ret2
  exact ⟨rfl, rfl⟩

set_option maxHeartbeats 400000 in
theorem implModf (s : Bool) (r : Nat) (hr : r < I) (w : World) : Calls Try.prog 24 #[.float .f64 (W s r)] w fun e w' => e = .returned (.tuple #[.float .f64 (W s (ti r)), .float .f64 (W s (fr r))]) ∧ w = w' := by
  have H := hid (pkgModf s r hr)
  go_enter Try.func24, Try.ntmps24
  go_wp2_with (go_at_call 40; refine (H.out _).mono ?_; rintro e w' ⟨rfl, rfl⟩)
  go_ret2
  exact ⟨rfl, rfl⟩

end Go.Proofs.Ytpkhmjfbldoegaa

/-
The reference's whole part of a size.
-/
import Derived.Test.YtpkhmjfbldoegaaNt
namespace Go.Proofs.Ytpkhmjfbldoegaa
open Go.RowKit Fl

theorem and_low {m k : Nat} (hm : m < 2 * G) (hk : k < 64) : bits .and .u64 (m : Int) (2 ^ k - 1) = ((m % 2 ^ k : Nat) : Int) := by
  have hp : 0 < 2 ^ k := Nat.two_pow_pos k
  have e : ((2 : Int) ^ k - 1) = ((2 ^ k - 1 : Nat) : Int) := by
    rw [Int.natCast_sub hp]; push_cast; rfl
  have h2 : (2 : Nat) ^ k ≤ 2 ^ 63 := Nat.pow_le_pow_right (by omega) (by omega)
  have h3 : (2 : Nat) ^ 63 = G := by decide
  rw [e, and_u64 hm (by omega), Nat.and_two_pow_sub_one_eq_mod]

set_option maxHeartbeats 1000000 in
theorem whole_any (m k : Nat) (hm : m < 2 ^ 53) (hk : 0 < k) (hk2 : k ≤ 1074) (w : World) :
    Calls Try.prog 42 #[.int .u64 m, .int .i64 (-(k : Int))] w fun e w' => e = .returned (.tuple #[.int .u64 ((m / 2 ^ k : Nat) : Int), .bool (((m % 2 ^ k : Nat) : Int) != 0)]) ∧ Ok w w' := by
  have h53 : (2 : Nat) ^ 53 = 9007199254740992 := by decide
  rw [h53] at hm
  by_cases h : 64 ≤ k
  · have hlt : m < 2 ^ k := by
      have : (2 : Nat) ^ 64 ≤ 2 ^ k := Nat.pow_le_pow_right (by omega) h
      have h64 : (2 : Nat) ^ 64 = 18446744073709551616 := by decide
      omega
    rw [Nat.div_eq_of_lt hlt, Nat.mod_eq_of_lt hlt]
    clear hlt
    go_enter Try.func42, Try.ntmps42
    go_wp2
    exact bodyPost_ret (v := .tuple #[.int .u64 0, .bool ((m : Int) != 0)]) (by simp [results, Try.results42, go_sem]) rfl ⟨rfl, Ok.refl w⟩
  · have ea := and_low (m := m) (k := k) (by show m < 2 * G; have : (2 : Nat) * G = 18446744073709551616 := by decide
                                             omega) (by omega)
    have e1 : (m : Int) / 2 ^ k = ((m / 2 ^ k : Nat) : Int) := by push_cast; rfl
    have e0 : ((2 ^ k : Nat) : Int) = (2 : Int) ^ k := Int.natCast_pow 2 k
    have hp0 : 0 < 2 ^ k := Nat.two_pow_pos k
    have h2 : (2 : Nat) ^ k ≤ 2 ^ 63 := Nat.pow_le_pow_right (by omega) (by omega)
    have h3 : (2 : Nat) ^ 63 = 9223372036854775808 := by decide
    have hp : (1 : Int) ≤ 2 ^ k := by rw [← e0]; omega
    have hp2 : (2 : Int) ^ k ≤ 9223372036854775808 := by rw [← e0]; omega
    clear e0 hp0 h2 h3
    have hq : m / 2 ^ k ≤ m := Nat.div_le_self _ _
    have hr : m % 2 ^ k ≤ m := Nat.mod_le _ _
    generalize m / 2 ^ k = q at *
    generalize m % 2 ^ k = r at *
    go_enter Try.func42, Try.ntmps42
    go_wp2
    go_quiet (fail)
    go_wp2
    exact bodyPost_ret (v := .tuple #[.int .u64 q, .bool ((r : Int) != 0)]) (by simp [results, Try.results42, go_sem]) rfl ⟨rfl, (Ok.refl w).drewN _⟩

end Go.Proofs.Ytpkhmjfbldoegaa

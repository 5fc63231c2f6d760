/-
How many binary digits a natural number has.
-/
import Derived.Test.YtpkhmjfbldoegaaNn
namespace Go.Proofs.Ytpkhmjfbldoegaa
open Go.RowKit Fl

/-- Binary digits. -/
def bl (t : Nat) : Nat := if t = 0 then 0 else t.log2 + 1
theorem bl_zero : bl 0 = 0 := rfl
theorem bl_half {t : Nat} (h : t ≠ 0) : bl t = bl (t / 2) + 1 := by
  unfold bl
  rw [if_neg h]
  by_cases h2 : t / 2 = 0
  · rw [if_pos h2]
    have : t = 1 := by omega
    subst this; rfl
  · rw [if_neg h2]
    have e : t.log2 = (t / 2).log2 + 1 := by
      rw [Nat.log2_def t, if_pos (by omega)]
    omega
theorem bl_le {t k : Nat} (h : t < 2 ^ k) : bl t ≤ k := by
  unfold bl
  split
  · omega
  · rename_i h0
    have := (Nat.log2_lt h0).2 h
    omega

theorem nv_top {ds : List Nat} (h : 0 < ds.length) (hg : Dg ds) (ht : dgt ds (ds.length - 1) ≠ 0) : bl (nv ds) = 32 * (ds.length - 1) + bl (dgt ds (ds.length - 1)) := by
  obtain ⟨n, hn⟩ : ∃ n, ds.length = n + 1 := ⟨ds.length - 1, by omega⟩
  have e : nv ds = nvf (dgt ds) n + dgt ds n * 2 ^ (32 * n) := by unfold nv; rw [hn]; rfl
  have hl := nvf_lt (dgt_lt hg) n
  rw [hn] at ht ⊢
  rw [Nat.add_sub_cancel] at ht ⊢
  rw [e]
  generalize dgt ds n = d at *
  generalize nvf (dgt ds) n = l at *
  have hp : 0 < 2 ^ (32 * n) := Nat.two_pow_pos _
  have hne : l + d * 2 ^ (32 * n) ≠ 0 := by
    have : 0 < d * 2 ^ (32 * n) := Nat.mul_pos (by omega) hp
    omega
  unfold bl
  rw [if_neg hne, if_neg ht]
  have key : (l + d * 2 ^ (32 * n)).log2 = 32 * n + d.log2 := by
    rw [Nat.log2_eq_iff hne]
    have h1 : 2 ^ d.log2 ≤ d := (Nat.le_log2 ht).1 (Nat.le_refl _)
    have h2 : d < 2 ^ (d.log2 + 1) := Nat.lt_log2_self
    constructor
    · rw [Nat.add_comm (32 * n), Nat.pow_add]
      have := Nat.mul_le_mul_right (2 ^ (32 * n)) h1
      omega
    · have e2 : 32 * n + d.log2 + 1 = (d.log2 + 1) + 32 * n := by omega
      rw [e2, Nat.pow_add]
      have := Nat.mul_le_mul_right (2 ^ (32 * n)) (show d + 1 ≤ 2 ^ (d.log2 + 1) by omega)
      rw [Nat.add_mul, Nat.one_mul] at this
      omega
  rw [key]; omega

set_option maxHeartbeats 2000000 in
theorem len_any (A : Option Addr) (ds : List Nat) (c : Nat) (hl : ds.length ≤ 64) (hg : Dg ds) (ht : 0 < ds.length → dgt ds (ds.length - 1) ≠ 0) (w : World) (hr : Rd w A ds) :
    Calls Try.prog 69 #[.slice A ds.length c] w fun e w' => e = .returned (.int .i64 ((bl (nv ds) : Nat) : Int)) ∧ w = w' := by
  by_cases h0 : ds.length = 0
  · have e : bl (nv ds) = 0 := by unfold nv; rw [h0]; rfl
    have e2 := hid e
    clear e hr ht
    rw [h0]
    go_enter Try.func69, Try.ntmps69
    go_wp2
    go_ret
    exact ⟨ret_int (by rw [e2.out]; rfl), rfl⟩
  · obtain ⟨b, o, rfl, hcell⟩ := hr (by omega)
    have hc' := hcell (ds.length - 1) (by omega)
    have hd := dgt_lt hg (ds.length - 1)
    have e := hid (nv_top (by omega) hg (ht (by omega)))
    have hb : bl (dgt ds (ds.length - 1)) ≤ 32 := bl_le (by have e : (2 : Nat) ^ 32 = 4294967296 := by decide
                                                            omega)
    clear hcell ht hg
    have ed : dgt ds (ds.length - 1) = ds.getD (ds.length - 1) 0 := rfl
    rw [← ed] at hc'
    clear ed
    generalize hR : bl (nv ds) = R at e
    clear hR
    have hRle : R ≤ 32 * 64 + 32 := by have := e.out; omega
    generalize dgt ds (ds.length - 1) = d at *
    generalize ds.length = n at *
    clear hb
    have hn1 : ((n : Int) == 0) = false := by simp; omega
    have hn2 : 1 ≤ (n : Int) := by omega
    go_enter Try.func69, Try.ntmps69
    go_wp2
    go_loop [3, 4] (fun x t => ∃ k v : Nat, k ≤ 2080 ∧ v < 4294967296 ∧ x = .int .i64 k ∧ t = .int .u32 v ∧ Hid (R = k + bl v)) (fun _ t => (intOf t).toNat)
    case atStart => exact ⟨32 * (n - 1), d, by omega, hd, by congr 1; omega, rfl, e⟩
    case round =>
      obtain ⟨k, v, hk, hv, rfl, rfl, he⟩ := hrel
      by_cases hz : v = 0
      · subst hz
        have hk2 := hid (show R = k by rw [he.out, bl_zero]; omega)
        go_wp2
        go_ret
        exact ⟨ret_int (by rw [hk2.out]), rfl⟩
      · have he2 : Hid (R = k + 1 + bl (v / 2)) := hid (by rw [he.out, bl_half hz]; omega)
        have hk3 : k + 1 ≤ 2080 := by have := he2.out; omega
        have hv0 : 0 < v := by omega
        clear hz he
        go_wp2
        go_round
        case rel => exact ⟨k + 1, v / 2, hk3, by omega, by go_num, by go_num, he2⟩
        case measure => simp [intOf]; omega

end Go.Proofs.Ytpkhmjfbldoegaa

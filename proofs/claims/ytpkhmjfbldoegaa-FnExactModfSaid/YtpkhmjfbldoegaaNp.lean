/-
Natural numbers as slices of digits: made anew.
-/
import Derived.Test.YtpkhmjfbldoegaaNo
namespace Go.Proofs.Ytpkhmjfbldoegaa
open Go.RowKit Fl

/-- A slice of digits without zeros on top: the number N; no more than eight digits. -/
structure IsNat (w : World) (A : Option Addr) (ds : List Nat) (c : Nat) (N : Nat) : Prop where
  rd : Rd w A ds
  dg : Dg ds
  top : 0 < ds.length → dgt ds (ds.length - 1) ≠ 0
  len : ds.length ≤ 8
  num : nv ds = N

theorem IsNat.bl {w w' : World} {A : Option Addr} {ds : List Nat} {c N : Nat} (h : IsNat w A ds c N) (k : Bl w w') : IsNat w' A ds c N := ⟨h.rd.bl k, h.dg, h.top, h.len, h.num⟩

/-- What is handed back: the number N. -/
def NatRet (N : Nat) (w : World) (e : Ending) (w' : World) : Prop := ∃ A ds c, e = .returned (.slice A ds.length c) ∧ IsNat w' A ds c N ∧ Bl w w'

/-- trim's answer as a number. -/
theorem trimmed_nat {A : Option Addr} {c : Nat} {ds : List Nat} {w : World} {e : Ending} {w' : World} (hr : Rd w A ds) (hg : Dg ds) (hl : ds.length ≤ 8) (h : Trimmed A c ds w e w') : ∃ k, k ≤ ds.length ∧ e = .returned (.slice A (ds.take k).length c) ∧ IsNat w A (ds.take k) c (nv ds) ∧ w = w' := by
  obtain ⟨k, hk, he, hz, ht, hw⟩ := h
  have hlen : (ds.take k).length = k := by rw [List.length_take]; omega
  refine ⟨k, hk, by rw [hlen]; exact he, ⟨hr.take k, hg.take k, ?_, by rw [hlen]; omega, ?_⟩, hw⟩
  · intro hp
    rw [hlen] at hp ⊢
    rw [dgt_take (by omega)]
    exact ht hp
  · rw [nv_take]
    exact (nvf_more (fun i hi => hz i hi) ds.length hk).symm

theorem wrap_u32 (n : Nat) : IntKind.u32.wrap (n : Int) = ((n % 4294967296 : Nat) : Int) := by
  simp [IntKind.wrap, IntKind.bits, IntKind.signed]

set_option maxHeartbeats 2000000 in
theorem NatOf_any (n : Nat) (hn : n < 18446744073709551616) (w : World) : Calls Try.prog 45 #[.int .u64 n] w (NatRet n w) := by
  have e1 : IntKind.u32.wrap ((n : Int) / 4294967296) = ((n / 4294967296 : Nat) : Int) := by
    have : (n : Int) / 4294967296 = ((n / 4294967296 : Nat) : Int) := by omega
    rw [this, wrap_u32, Nat.mod_eq_of_lt (by omega)]
  have e0 := wrap_u32 n
  have hlo : n % 4294967296 < 4294967296 := Nat.mod_lt _ (by decide)
  have hhi : n / 4294967296 < 4294967296 := by omega
  have hnv := hid (show nv [n % 4294967296, n / 4294967296] = n by
    show 0 + n % 4294967296 * 2 ^ (32 * 0) + n / 4294967296 * 2 ^ (32 * 1) = n
    have e : (2 : Nat) ^ (32 * 1) = 4294967296 := by decide
    rw [e]; omega)
  generalize n % 4294967296 = lo at *
  generalize n / 4294967296 = hi at *
  clear hn
  go_enter Try.func45, Try.ntmps45
  go_wp2_with fail
  have hr : Rd (w.alloc (.cells #[.int .u32 lo, .int .u32 hi] 54)) (some ⟨w.heap.size, 0, none⟩) [lo, hi] := by
    intro _
    refine ⟨_, _, rfl, fun i hi => ?_⟩
    match i, hi with
    | 0, _ => simp
    | 1, _ => simp
  have hg : Dg [lo, hi] := by
    intro d hd
    simp at hd
    omega
  refine (trim_any (some ⟨w.heap.size, 0, none⟩) [lo, hi] 2 (by simp) (by unfold maxLen; omega) (by simp) hg _ hr).mono ?_
  intro e w1 ht
  obtain ⟨k, hk, rfl, hN, rfl⟩ := trimmed_nat hr hg (by simp) ht
  rw [hnv.out] at hN
  have HN := hid hN
  clear hN hr ht hk hnv hg
  generalize [lo, hi].take k = ds at *
  go_wp2_with fail
  go_ret
  exact ⟨_, _, _, rfl, HN.out, (Bl.refl w).alloc _⟩

set_option maxHeartbeats 2000000 in
theorem one_any (w : World) : Calls Try.prog 46 #[] w (NatRet 1 w) := by
  go_enter Try.func46, Try.ntmps46
  go_wp2
  have hr : Rd (w.alloc (.cells #[.int .u32 1] 54)) (some ⟨w.heap.size, 0, none⟩) [1] := by
    intro _
    refine ⟨_, _, rfl, fun i hi => ?_⟩
    match i, hi with
    | 0, _ => simp
  have HN := hid (show IsNat (w.alloc (.cells #[.int .u32 1] 54)) (some ⟨w.heap.size, 0, none⟩) [1] 1 1 from
    ⟨hr, fun d hd => by simp at hd; omega, fun _ => by decide, by simp, by decide⟩)
  clear hr
  go_ret
  exact ⟨_, [1], _, rfl, HN.out, (Bl.refl w).alloc _⟩

end Go.Proofs.Ytpkhmjfbldoegaa

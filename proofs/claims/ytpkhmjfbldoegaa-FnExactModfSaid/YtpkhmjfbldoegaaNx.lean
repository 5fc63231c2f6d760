/-
The reference's whole parts: walked.
-/
import Derived.Test.YtpkhmjfbldoegaaNw
namespace Go.Proofs.Ytpkhmjfbldoegaa
open Go.RowKit Fl
set_option maxHeartbeats 2000000 in
theorem Down_fin (s : Bool) (r : Nat) (hr : r < I) (w : World) : Calls Try.prog 25 #[.int .u64 (W s r : Nat)] w fun e w' => e = .returned (.tuple #[.int .u64 ((W s (ti r) : Nat) : Int), .bool (hf r)]) ∧ Bl w w' := by
  have hG : r < G := by rw [G_eq]; omega
  have hx : W s r < 2 * G := by unfold W; cases s <;> simp <;> omega
  have DB := hid (Double_any w)
  have FI := hid (Finite_any (W s r) hx)
  rw [finB_fin s hr] at FI
  have SZ := hid (Size_any (W s r) hx)
  have NG := hid (Neg_any (W s r) hx)
  rw [sgB_W s hG] at NG
  rw [szM_W s hG, szE_W s hG] at SZ
  by_cases hs : 1074 ≤ sh r
  · obtain ⟨e1, e2⟩ := big_ti hr hs
    rw [e1, e2]
    obtain ⟨k, hk⟩ : ∃ k : Nat, ((sh r : Nat) : Int) - 1074 = k := ⟨sh r - 1074, by omega⟩
    rw [hk] at SZ
    clear hs hk e1 e2
    generalize mant r = m at *
    generalize W s r = x at *
    go_enter Try.func25, Try.ntmps25
    go_wp2_with (first
      | (go_at_call 14; refine DB.out.mono ?_; rintro e w1 ⟨rfl, hok⟩; have O1 := hid hok.bl; clear hok)
      | (go_at_call 23; refine (FI.out _).mono ?_; rintro e w2 ⟨rfl, hok⟩; have X2 := hid ((Boxl.start _).next hok.bl); clear hok; obtain ⟨b0, b1, b2, b3, b4, b5⟩ := X2.out; clear b5)
      | (go_at_call 41; refine (SZ.out _).mono ?_; rintro e w3 ⟨rfl, hok⟩; have X3 := hid (X2.out.next hok.bl); clear hok b0 b1 b2 b3 b4))
    exact bodyPost_ret (v := .tuple #[.int .u64 (x : Nat), .bool false]) (by simp [results, Try.results25, go_sem]) rfl ⟨rfl, O1.out.trans X3.out.2.2.2.2.2⟩
  · obtain ⟨k, hk⟩ : ∃ k, sh r + k = 1074 := ⟨1074 - sh r, by omega⟩
    have hk0 : 0 < k := by omega
    have e1 : ((sh r : Nat) : Int) - 1074 = -(k : Int) := by omega
    rw [e1] at SZ
    have WH := hid (whole_any (mant r) k (mant_53 r) hk0 (by omega))
    rw [hf_parts hr hk] at WH
    have hn := n_small (mant_53 r) hk0
    have HT := hid (ti_parts hk)
    have e0 : -((0 : Nat) : Int) = 0 := rfl
    have hT := ti_lt hr
    clear hs hk e1
    generalize mant r / 2 ^ k = n at *
    generalize mant r = m at *
    generalize W s r = x at *
    have RD := hid (fun A C ds es c1 c2 w' => Round_any A C ds es c1 c2 s n 0 (ti r) (by omega) (by omega) HT.out hT w')
    rw [e0] at RD
    generalize W s (ti r) = y at *
    have hn2 : n < 18446744073709551616 := by
      have h3 : (2 : Nat) ^ 53 = 9007199254740992 := by decide
      omega
    have NO := hid (NatOf_any n hn2)
    have ON := hid one_any
    clear hT e0 HT
    go_enter Try.func25, Try.ntmps25
    go_wp2_with (first
      | (go_at_call 14; refine DB.out.mono ?_; rintro e w1 ⟨rfl, hok⟩; have O1 := hid hok.bl; clear hok)
      | (go_at_call 23; refine (FI.out _).mono ?_; rintro e w2 ⟨rfl, hok⟩; have X2 := hid ((Boxl.start _).next hok.bl); clear hok; obtain ⟨b0, b1, b2, b3, b4, b5⟩ := X2.out; clear b5)
      | (go_at_call 41; refine (SZ.out _).mono ?_; rintro e w3 ⟨rfl, hok⟩; have X3 := hid (X2.out.next hok.bl); clear hok b0 b1 b2 b3 b4; obtain ⟨b0, b1, b2, b3, b4, b5⟩ := X3.out; clear b5)
      | (go_at_call 42; refine (WH.out _).mono ?_; rintro e w4 ⟨rfl, hok⟩; have X4 := hid (X3.out.next hok.bl); clear hok b0 b1 b2 b3 b4))
    go_region_held3 (fun w' => w'.cell? ⟨w1.heap.size, 0, none⟩ = some (.int .i64 53) ∧ w'.cell? ⟨w1.heap.size, 1, none⟩ = some (.int .i64 52) ∧ w'.cell? ⟨w1.heap.size, 2, none⟩ = some (.int .i64 (-1074)) ∧ w'.cell? ⟨w1.heap.size, 3, none⟩ = some (.int .u64 2047) ∧ w'.cell? ⟨w1.heap.size, 4, none⟩ = some (.int .u64 9223372036854775808) ∧ Bl w1 w')
      (first | exact X4.out.drew | exact Boxl.next (w := w1) (k := w1.heap.size) ‹_ ∧ _› (Ok.bl ‹Ok _ _›) | exact Boxl.next (w := w1) (k := w1.heap.size) ‹_ ∧ _› ‹Bl _ _› | go_keep)
      (first
        | (go_at_call 44; refine (NG.out _).mono ?_; rintro e w' ⟨rfl, hok⟩)
        | (go_at_call 45; refine (NO.out _).mono ?_; rintro e w5 ⟨A1, ds, c1, rfl, hI, hB⟩; have I1 := hid hI; clear hI)
        | (go_at_call 46; refine (ON.out _).mono ?_; rintro e w6 ⟨A2, es, c2, rfl, hI, hB⟩; have I2 := hid hI; have B2 := hid hB; clear hI)
        | (go_at_call 43; refine (RD.out A1 A2 ds es c1 c2 _ (I1.out.bl B2.out) I2.out).mono ?_; rintro e w7 ⟨rfl, hB⟩))
    rename_i hh
    go_wp2
    exact bodyPost_ret (v := .tuple #[.int .u64 (y : Nat), .bool (hf r)]) (by simp [results, Try.results25, go_sem]) rfl ⟨rfl, O1.out.trans hh.2.2.2.2.2⟩

set_option maxHeartbeats 2000000 in
theorem Down_not (x : Nat) (hx : x < 2 * G) (hf : finB x = false) (w : World) : Calls Try.prog 25 #[.int .u64 x] w fun e w' => e = .returned (.tuple #[.int .u64 x, .bool false]) ∧ Bl w w' := by
  have DB := hid (Double_any w)
  have FI := hid (Finite_any x hx)
  rw [hf] at FI
  clear hf
  go_enter Try.func25, Try.ntmps25
  go_wp2_with (first
    | (go_at_call 14; refine DB.out.mono ?_; rintro e w1 ⟨rfl, hok⟩; have O1 := hid hok.bl; clear hok)
    | (go_at_call 23; refine (FI.out _).mono ?_; rintro e w2 ⟨rfl, hok⟩; have X2 := hid ((Boxl.start _).next hok.bl); clear hok))
  exact bodyPost_ret (v := .tuple #[.int .u64 x, .bool false]) (by simp [results, Try.results25, go_sem]) rfl ⟨rfl, O1.out.trans X2.out.2.2.2.2.2⟩

end Go.Proofs.Ytpkhmjfbldoegaa

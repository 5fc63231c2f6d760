/-
The reference's floor, ceil and fraction: walked.
-/
import Derived.Test.YtpkhmjfbldoegaaNy
import Derived.Test.YtpkhmjfbldoegaaFo
namespace Go.Proofs.Ytpkhmjfbldoegaa
open Go.RowKit Fl

/-- The reference's ceil of a float's bits. -/
def clW (x : Nat) : Nat := if finB x then W (sgB x) (fl (!(sgB x)) (x % G)) else x
theorem clW_fin (s : Bool) {r : Nat} (h : r < I) : clW (W s r) = W s (fl (!s) r) := by
  have hG : r < G := by rw [G_eq]; omega
  unfold clW; rw [finB_fin s h, sgB_W s hG, mod_W s hG]; rfl

theorem fl_whole {r : Nat} (h : hf r = false) (s : Bool) : fl s r = ti r := by
  cases s
  · exact fl_false r
  · rw [fl_true, up_zero (hf_false.1 h)]

set_option maxHeartbeats 2000000 in
theorem Floor_any (x : Nat) (hx : x < 2 * G) (w : World) : Calls Try.prog 30 #[.int .u64 x] w fun e w' => e = .returned (.int .u64 ((flW x : Nat) : Int)) ∧ Bl w w' := by
  have NG := hid (Neg_any x hx)
  have DB := hid Double_any
  cases hfin : finB x
  · have e : flW x = x := by unfold flW; rw [hfin]; rfl
    rw [e]
    have DN := hid (Down_not x hx hfin w)
    clear hfin e
    go_enter Try.func30, Try.ntmps30
    go_wp2_with (go_at_call 25; refine DN.out.mono ?_; rintro e w1 ⟨rfl, hB⟩; have B1 := hid hB; clear hB)
    go_ret
    exact ⟨rfl, B1.out⟩
  · obtain ⟨s, r, hr, rfl⟩ := fin_of hx hfin
    clear hfin
    have hG : r < G := by rw [G_eq]; omega
    rw [flW_fin s hr]
    rw [sgB_W s hG] at NG
    have DN := hid (Down_fin s r hr w)
    cases hh : hf r
    · rw [hh] at DN
      rw [fl_whole hh s]
      clear hh hG
      generalize W s r = x at *
      generalize W s (ti r) = y at *
      go_enter Try.func30, Try.ntmps30
      go_wp2_with (go_at_call 25; refine DN.out.mono ?_; rintro e w1 ⟨rfl, hB⟩; have B1 := hid hB; clear hB)
      go_ret
      exact ⟨rfl, B1.out⟩
    · rw [hh] at DN
      have UP := hid (Up_fin s r hr hh)
      clear hh hG
      cases s
      · rw [fl_false]
        generalize W false r = x at *
        generalize W false (ti r) = y at *
        generalize W false (up r) = z at *
        go_enter Try.func30, Try.ntmps30
        go_wp2_with (first
          | (go_at_call 25; refine DN.out.mono ?_; rintro e w1 ⟨rfl, hB⟩; have B1 := hid hB; clear hB)
          | (go_at_call 14; refine (DB.out _).mono ?_; rintro e w2 ⟨rfl, hok⟩; have B2 := hid (B1.out.trans hok.bl); clear hok)
          | (go_at_call 44; refine (NG.out _).mono ?_; rintro e w3 ⟨rfl, hok⟩; have B3 := hid (B2.out.trans hok.bl); clear hok)
          | (go_at_call 49; refine (UP.out _).mono ?_; rintro e w4 ⟨rfl, hB⟩; have B4 := hid (B3.out.trans hB); clear hB))
        go_ret
        exact ⟨rfl, B3.out⟩
      · rw [fl_true]
        generalize W true r = x at *
        generalize W true (ti r) = y at *
        generalize W true (up r) = z at *
        go_enter Try.func30, Try.ntmps30
        go_wp2_with (first
          | (go_at_call 25; refine DN.out.mono ?_; rintro e w1 ⟨rfl, hB⟩; have B1 := hid hB; clear hB)
          | (go_at_call 14; refine (DB.out _).mono ?_; rintro e w2 ⟨rfl, hok⟩; have B2 := hid (B1.out.trans hok.bl); clear hok)
          | (go_at_call 44; refine (NG.out _).mono ?_; rintro e w3 ⟨rfl, hok⟩; have B3 := hid (B2.out.trans hok.bl); clear hok)
          | (go_at_call 49; refine (UP.out _).mono ?_; rintro e w4 ⟨rfl, hB⟩; have B4 := hid (B3.out.trans hB); clear hB))
        go_ret
        exact ⟨rfl, B4.out⟩

set_option maxHeartbeats 2000000 in
theorem Ceil_any (x : Nat) (hx : x < 2 * G) (w : World) : Calls Try.prog 32 #[.int .u64 x] w fun e w' => e = .returned (.int .u64 ((clW x : Nat) : Int)) ∧ Bl w w' := by
  have NG := hid (Neg_any x hx)
  have DB := hid Double_any
  cases hfin : finB x
  · have e : clW x = x := by unfold clW; rw [hfin]; rfl
    rw [e]
    have DN := hid (Down_not x hx hfin w)
    clear hfin e
    go_enter Try.func32, Try.ntmps32
    go_wp2_with (go_at_call 25; refine DN.out.mono ?_; rintro e w1 ⟨rfl, hB⟩; have B1 := hid hB; clear hB)
    go_ret
    exact ⟨rfl, B1.out⟩
  · obtain ⟨s, r, hr, rfl⟩ := fin_of hx hfin
    clear hfin
    have hG : r < G := by rw [G_eq]; omega
    rw [clW_fin s hr]
    rw [sgB_W s hG] at NG
    have DN := hid (Down_fin s r hr w)
    cases hh : hf r
    · rw [hh] at DN
      rw [fl_whole hh (!s)]
      clear hh hG
      generalize W s r = x at *
      generalize W s (ti r) = y at *
      go_enter Try.func32, Try.ntmps32
      go_wp2_with (go_at_call 25; refine DN.out.mono ?_; rintro e w1 ⟨rfl, hB⟩; have B1 := hid hB; clear hB)
      go_ret
      exact ⟨rfl, B1.out⟩
    · rw [hh] at DN
      have UP := hid (Up_fin s r hr hh)
      clear hh hG
      cases s
      · rw [show (!false) = true from rfl, fl_true]
        generalize W false r = x at *
        generalize W false (ti r) = y at *
        generalize W false (up r) = z at *
        go_enter Try.func32, Try.ntmps32
        go_wp2_with (first
          | (go_at_call 25; refine DN.out.mono ?_; rintro e w1 ⟨rfl, hB⟩; have B1 := hid hB; clear hB)
          | (go_at_call 14; refine (DB.out _).mono ?_; rintro e w2 ⟨rfl, hok⟩; have B2 := hid (B1.out.trans hok.bl); clear hok)
          | (go_at_call 44; refine (NG.out _).mono ?_; rintro e w3 ⟨rfl, hok⟩; have B3 := hid (B2.out.trans hok.bl); clear hok)
          | (go_at_call 49; refine (UP.out _).mono ?_; rintro e w4 ⟨rfl, hB⟩; have B4 := hid (B3.out.trans hB); clear hB))
        go_ret
        exact ⟨rfl, B4.out⟩
      · rw [show (!true) = false from rfl, fl_false]
        generalize W true r = x at *
        generalize W true (ti r) = y at *
        generalize W true (up r) = z at *
        go_enter Try.func32, Try.ntmps32
        go_wp2_with (first
          | (go_at_call 25; refine DN.out.mono ?_; rintro e w1 ⟨rfl, hB⟩; have B1 := hid hB; clear hB)
          | (go_at_call 14; refine (DB.out _).mono ?_; rintro e w2 ⟨rfl, hok⟩; have B2 := hid (B1.out.trans hok.bl); clear hok)
          | (go_at_call 44; refine (NG.out _).mono ?_; rintro e w3 ⟨rfl, hok⟩; have B3 := hid (B2.out.trans hok.bl); clear hok)
          | (go_at_call 49; refine (UP.out _).mono ?_; rintro e w4 ⟨rfl, hB⟩; have B4 := hid (B3.out.trans hB); clear hB))
        go_ret
        exact ⟨rfl, B3.out⟩

theorem sign_and (s : Bool) {r : Nat} (h : r < G) : bits .and .u64 ((W s r : Nat) : Int) 9223372036854775808 = ((W s 0 : Nat) : Int) := by
  have hx : W s r < 2 * G := by unfold W; cases s <;> simp <;> omega
  have e : (9223372036854775808 : Int) = ((G : Nat) : Int) := rfl
  have hG : G < 2 * G := by decide
  rw [e, and_u64 hx hG, and_G _ hx]
  unfold W
  cases s
  · rw [if_neg (by simp; omega)]; rfl
  · rw [if_pos (by simp)]; rfl

set_option maxHeartbeats 2000000 in
theorem Fraction_fin (s : Bool) (r : Nat) (hr : r < I) (w : World) : Calls Try.prog 26 #[.int .u64 (W s r : Nat)] w fun e w' => e = .returned (.int .u64 ((W s (fr r) : Nat) : Int)) ∧ Bl w w' := by
  have hG : r < G := by rw [G_eq]; omega
  have hx : W s r < 2 * G := by unfold W; cases s <;> simp <;> omega
  have DB := hid (Double_any w)
  have SZ := hid (Size_any (W s r) hx)
  have NG := hid (Neg_any (W s r) hx)
  rw [sgB_W s hG] at NG
  rw [szM_W s hG, szE_W s hG] at SZ
  by_cases hs : 1074 ≤ sh r
  · have e2 := hf_false.1 (big_ti hr hs).2
    have ea := sign_and s hG
    rw [e2]
    obtain ⟨k, hk⟩ : ∃ k : Nat, ((sh r : Nat) : Int) - 1074 = k := ⟨sh r - 1074, by omega⟩
    rw [hk] at SZ
    clear hs hk e2
    generalize mant r = m at *
    generalize W s r = x at *
    generalize W s 0 = y at *
    go_enter Try.func26, Try.ntmps26
    go_wp2_with (first
      | (go_at_call 14; refine DB.out.mono ?_; rintro e w1 ⟨rfl, hok⟩; have O1 := hid hok.bl; clear hok)
      | (go_at_call 41; refine (SZ.out _).mono ?_; rintro e w3 ⟨rfl, hok⟩; have X3 := hid ((Boxl.start _).next hok.bl); clear hok; obtain ⟨b0, b1, b2, b3, b4, b5⟩ := X3.out; clear b5))
    go_ret
    exact ⟨rfl, O1.out.trans X3.out.2.2.2.2.2⟩
  obtain ⟨k, hk⟩ : ∃ k, sh r + k = 1074 := ⟨1074 - sh r, by omega⟩
  have hk0 : 0 < k := by omega
  have hk4 : k ≤ 1074 := by omega
  have e1 : ((sh r : Nat) : Int) - 1074 = -(k : Int) := by omega
  rw [e1] at SZ
  have HT := hid (fr_parts hr hk)
  have h53 : mant r < 9007199254740992 := mant_lt r
  have hr2 : mant r % 2 ^ k ≤ mant r := Nat.mod_le _ _
  have hT := fr_lt hr
  obtain ⟨n, hne⟩ : ∃ n, n = mant r % 2 ^ k := ⟨_, rfl⟩
  rw [← hne] at HT hr2
  have RD := hid (fun A C ds es c1 c2 w' => Round_any A C ds es c1 c2 s n k (fr r) (show n < 9007199254740992 by omega) hk4 HT.out hT w')
  have NO := hid (NatOf_any n (by omega))
  have ON := hid one_any
  clear hs hk e1 hT HT
  by_cases h64 : 64 ≤ k
  · have hm : n = mant r := by
      have : (2 : Nat) ^ 64 ≤ 2 ^ k := Nat.pow_le_pow_right (by omega) h64
      have h64 : (2 : Nat) ^ 64 = 18446744073709551616 := by decide
      rw [hne, Nat.mod_eq_of_lt (by omega)]
    rw [← hm] at SZ
    clear hm hne hr2 h53
    generalize W s r = x at *
    generalize W s (fr r) = y at *
    go_enter Try.func26, Try.ntmps26
    go_wp2_with (first
      | (go_at_call 14; refine DB.out.mono ?_; rintro e w1 ⟨rfl, hok⟩; have O1 := hid hok.bl; clear hok)
      | (go_at_call 41; refine (SZ.out _).mono ?_; rintro e w3 ⟨rfl, hok⟩; have X3 := hid ((Boxl.start _).next hok.bl); clear hok; obtain ⟨b0, b1, b2, b3, b4, b5⟩ := X3.out; clear b5))
    go_region_held3 (fun w' => w'.cell? ⟨w1.heap.size, 0, none⟩ = some (.int .i64 53) ∧ w'.cell? ⟨w1.heap.size, 1, none⟩ = some (.int .i64 52) ∧ w'.cell? ⟨w1.heap.size, 2, none⟩ = some (.int .i64 (-1074)) ∧ w'.cell? ⟨w1.heap.size, 3, none⟩ = some (.int .u64 2047) ∧ w'.cell? ⟨w1.heap.size, 4, none⟩ = some (.int .u64 9223372036854775808) ∧ Bl w1 w')
      (first | exact X3.out.drew | exact Boxl.next (w := w1) (k := w1.heap.size) ‹_ ∧ _› (Ok.bl ‹Ok _ _›) | exact Boxl.next (w := w1) (k := w1.heap.size) ‹_ ∧ _› ‹Bl _ _› | go_keep)
      (first
        | (go_at_call 44; refine (NG.out _).mono ?_; rintro e w' ⟨rfl, hok⟩)
        | (go_at_call 45; refine (NO.out _).mono ?_; rintro e w5 ⟨A1, ds, c1, rfl, hI, hB⟩; have I1 := hid hI; clear hI)
        | (go_at_call 46; refine (ON.out _).mono ?_; rintro e w6 ⟨A2, es, c2, rfl, hI, hB⟩; have I2 := hid hI; have B2 := hid hB; clear hI)
        | (go_at_call 43; refine (RD.out A1 A2 ds es c1 c2 _ (I1.out.bl B2.out) I2.out).mono ?_; rintro e w7 ⟨rfl, hB⟩))
    rename_i hh
    go_wp2
    go_ret
    exact ⟨rfl, O1.out.trans hh.2.2.2.2.2⟩
  · have h2G : (2 : Nat) * G = 18446744073709551616 := by decide
    have ea := and_low (m := mant r) (k := k) (by omega) (by omega)
    clear h2G
    rw [← hne] at ea
    clear hne
    have e0 : ((2 ^ k : Nat) : Int) = (2 : Int) ^ k := Int.natCast_pow 2 k
    have hp0 : 0 < 2 ^ k := Nat.two_pow_pos k
    have h2 : (2 : Nat) ^ k ≤ 2 ^ 63 := Nat.pow_le_pow_right (by omega) (by omega)
    have h3 : (2 : Nat) ^ 63 = 9223372036854775808 := by decide
    have hp : (1 : Int) ≤ 2 ^ k := by rw [← e0]; omega
    have hp2 : (2 : Int) ^ k ≤ 9223372036854775808 := by rw [← e0]; omega
    clear e0 hp0 h2 h3
    generalize mant r = m at *
    generalize W s r = x at *
    generalize W s (fr r) = y at *
    go_enter Try.func26, Try.ntmps26
    go_wp2_with (first
      | (go_at_call 14; refine DB.out.mono ?_; rintro e w1 ⟨rfl, hok⟩; have O1 := hid hok.bl; clear hok)
      | (go_at_call 41; refine (SZ.out _).mono ?_; rintro e w3 ⟨rfl, hok⟩; have X3 := hid ((Boxl.start _).next hok.bl); clear hok; obtain ⟨b0, b1, b2, b3, b4, b5⟩ := X3.out; clear b5))
    go_region_held3 (fun w' => w'.cell? ⟨w1.heap.size, 0, none⟩ = some (.int .i64 53) ∧ w'.cell? ⟨w1.heap.size, 1, none⟩ = some (.int .i64 52) ∧ w'.cell? ⟨w1.heap.size, 2, none⟩ = some (.int .i64 (-1074)) ∧ w'.cell? ⟨w1.heap.size, 3, none⟩ = some (.int .u64 2047) ∧ w'.cell? ⟨w1.heap.size, 4, none⟩ = some (.int .u64 9223372036854775808) ∧ Bl w1 w')
      (first | exact X3.out.drew | exact Boxl.next (w := w1) (k := w1.heap.size) ‹_ ∧ _› (Ok.bl ‹Ok _ _›) | exact Boxl.next (w := w1) (k := w1.heap.size) ‹_ ∧ _› ‹Bl _ _› | go_keep)
      (first
        | (go_at_call 44; refine (NG.out _).mono ?_; rintro e w' ⟨rfl, hok⟩)
        | (go_at_call 45; refine (NO.out _).mono ?_; rintro e w5 ⟨A1, ds, c1, rfl, hI, hB⟩; have I1 := hid hI; clear hI)
        | (go_at_call 46; refine (ON.out _).mono ?_; rintro e w6 ⟨A2, es, c2, rfl, hI, hB⟩; have I2 := hid hI; have B2 := hid hB; clear hI)
        | (go_at_call 43; refine (RD.out A1 A2 ds es c1 c2 _ (I1.out.bl B2.out) I2.out).mono ?_; rintro e w7 ⟨rfl, hB⟩))
    rename_i hh
    go_wp2
    go_ret
    exact ⟨rfl, O1.out.trans hh.2.2.2.2.2⟩

end Go.Proofs.Ytpkhmjfbldoegaa

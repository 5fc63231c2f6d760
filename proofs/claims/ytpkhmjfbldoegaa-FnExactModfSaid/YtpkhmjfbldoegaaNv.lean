/-
The reference's rounding of a whole number times a power of 2 that a float has.
-/
import Derived.Test.YtpkhmjfbldoegaaNu
namespace Go.Proofs.Ytpkhmjfbldoegaa
open Go.RowKit Fl

theorem round_parts {N k r : Nat} (hN : 0 < N) (h53 : N < 2 ^ 53) (hk : k ≤ 1074) (hr : val r = N * 2 ^ (1074 - k)) :
    ∃ L Q j : Nat, bl N = L + 1 ∧ L ≤ 52 ∧ ((L + 1022 ≤ k ∧ Q = 0) ∨ (k < L + 1022 ∧ Q + k = L + 1022)) ∧ Q + j + k = 1074 ∧ j ≤ 52 ∧ N * 2 ^ j < 2 ^ 53 ∧ r = Q * B + N * 2 ^ j := by
  have hb := bl_pos hN
  have hb2 := bl_le h53
  have hlt := lt_bl N
  obtain ⟨L, hL⟩ : ∃ L, bl N = L + 1 := ⟨bl N - 1, by omega⟩
  rw [hL] at hb hb2 hlt
  have h2B : 2 * B = 2 ^ 53 := by decide
  have hB : B = 2 ^ 52 := by decide
  by_cases hc : L + 1022 ≤ k
  · have hj : 1074 - k ≤ 52 - L := by omega
    have hn : N * 2 ^ (1074 - k) < 2 ^ 53 := by
      have h1 : N * 2 ^ (1074 - k) < 2 ^ (L + 1) * 2 ^ (1074 - k) := Nat.mul_lt_mul_of_pos_right hlt (Nat.two_pow_pos _)
      rw [← Nat.pow_add] at h1
      exact Nat.lt_of_lt_of_le h1 (Nat.pow_le_pow_right (by decide) (by omega))
    refine ⟨L, 0, 1074 - k, hL, by omega, Or.inl ⟨hc, rfl⟩, by omega, by omega, hn, ?_⟩
    apply val_inj
    rw [val_of (by rw [h2B]; exact hn) (Or.inl rfl), Nat.pow_zero, Nat.mul_one]; exact hr
  · obtain ⟨Q, hQ⟩ : ∃ Q, Q + k = L + 1022 := ⟨L + 1022 - k, by omega⟩
    have hj : 52 - L + Q = 1074 - k := by omega
    have hn : N * 2 ^ (52 - L) < 2 ^ 53 := by
      have h1 : N * 2 ^ (52 - L) < 2 ^ (L + 1) * 2 ^ (52 - L) := Nat.mul_lt_mul_of_pos_right hlt (Nat.two_pow_pos _)
      rw [← Nat.pow_add] at h1
      exact Nat.lt_of_lt_of_le h1 (Nat.pow_le_pow_right (by decide) (by omega))
    have hn2 : B ≤ N * 2 ^ (52 - L) := by
      have h1 : 2 ^ L * 2 ^ (52 - L) ≤ N * 2 ^ (52 - L) := Nat.mul_le_mul_right _ hb.1
      rw [← Nat.pow_add] at h1
      rw [hB]
      exact Nat.le_trans (Nat.pow_le_pow_right (by decide) (by omega)) h1
    refine ⟨L, Q, 52 - L, hL, by omega, Or.inr ⟨by omega, hQ⟩, by omega, by omega, hn, ?_⟩
    apply val_inj
    rw [val_of (by rw [h2B]; exact hn) (Or.inr hn2), hr, Nat.mul_assoc, ← Nat.pow_add, hj]

/-- One digit of the quotient. -/
theorem bit_step (M t : Nat) (hM : M < 2 ^ 53) (ht : t ≤ 53) :
    (2 ^ t ≤ M % 2 ^ (t + 1) → M % 2 ^ (t + 1) - 1 * 2 ^ t = M % 2 ^ t ∧ bits .or .u64 ((M - M % 2 ^ (t + 1) : Nat) : Int) ((2 ^ t : Nat) : Int) = ((M - M % 2 ^ t : Nat) : Int)) ∧
    (M % 2 ^ (t + 1) < 2 ^ t → M % 2 ^ (t + 1) = M % 2 ^ t) := by
  have hp : 0 < 2 ^ t := Nat.two_pow_pos t
  have e2 : (2 : Nat) ^ (t + 1) = 2 ^ t * 2 := Nat.pow_succ 2 t
  have hlt : M % 2 ^ (t + 1) < 2 ^ (t + 1) := Nat.mod_lt _ (by omega)
  have hmm : M % 2 ^ (t + 1) % 2 ^ t = M % 2 ^ t := by
    rw [e2, Nat.mod_mul_right_mod]
  have hdm := Nat.div_add_mod M (2 ^ (t + 1))
  refine ⟨fun h => ?_, fun h => ?_⟩
  · have e3 : M % 2 ^ (t + 1) - 1 * 2 ^ t = M % 2 ^ t := by
      rw [Nat.one_mul, ← hmm, Nat.mod_eq_sub_mod h, Nat.mod_eq_of_lt (a := M % 2 ^ (t + 1) - 2 ^ t) (by omega)]
    refine ⟨e3, ?_⟩
    have e4 : M - M % 2 ^ (t + 1) = 2 ^ (t + 1) * (M / 2 ^ (t + 1)) := by omega
    have h5 : 2 * G = 2 ^ 64 := by decide
    have h53 : (2 : Nat) ^ 53 ≤ 2 ^ 64 := Nat.pow_le_pow_right (by decide) (by decide)
    have ht2 : (2 : Nat) ^ t ≤ 2 ^ 53 := Nat.pow_le_pow_right (by decide) ht
    have h54 : (2 : Nat) ^ 53 < 2 ^ 64 := Nat.pow_lt_pow_right (by decide) (by decide)
    rw [or_u64 (by omega) (by omega), e4, ← Nat.two_pow_add_eq_or_of_lt (show 2 ^ t < 2 ^ (t + 1) by omega)]
    congr 1
    rw [Nat.one_mul] at e3
    omega
  · rw [← hmm, Nat.mod_eq_of_lt h]

/-- The bits that are handed back. -/
theorem round_mess (Q M r : Nat) (hQ : Q ≤ 1074) (hr : r = Q * B + M) (hI : r < I) :
    (if IntKind.u64.wrap 9218868437227405312 < IntKind.u64.wrap (IntKind.u64.wrap (IntKind.u64.wrap (IntKind.i64.wrap (Q : Int)) * 4503599627370496) + (M : Int)) then IntKind.u64.wrap 9218868437227405312
      else IntKind.u64.wrap (IntKind.u64.wrap (IntKind.u64.wrap (IntKind.i64.wrap (Q : Int)) * 4503599627370496) + (M : Int))) = ((r : Nat) : Int) := by
  have hB : B = 4503599627370496 := rfl
  have hII : I = 9218868437227405312 := by decide
  rw [hII] at hI
  rw [hB] at hr
  rw [wrap_i64 (by omega) (by omega)]
  simp only [IntKind.wrap_u64]
  rw [if_neg (by omega)]
  omega

/-- A format lies in block k, and below w nothing has turned. -/
def Boxl (w : World) (k : Nat) (w' : World) : Prop := w'.cell? ⟨k, 0, none⟩ = some (.int .i64 53) ∧ w'.cell? ⟨k, 1, none⟩ = some (.int .i64 52) ∧ w'.cell? ⟨k, 2, none⟩ = some (.int .i64 (-1074)) ∧ w'.cell? ⟨k, 3, none⟩ = some (.int .u64 2047) ∧ w'.cell? ⟨k, 4, none⟩ = some (.int .u64 9223372036854775808) ∧ Bl w w'
theorem Boxl.start (w : World) : Boxl w w.heap.size (w.alloc (.cells #[.int .i64 53, .int .i64 52, .int .i64 (-1074), .int .u64 2047, .int .u64 9223372036854775808] 26)) :=
  ⟨by simp, by simp, by simp, by simp, by simp, (Bl.refl w).alloc _⟩
theorem Boxl.next {w a b : World} {k : Nat} (h : Boxl w k a) (g : Bl a b) : Boxl w k b := by
  obtain ⟨h1, h2, h3, h4, h5, h6⟩ := h
  exact ⟨g.cell h1, g.cell h2, g.cell h3, g.cell h4, g.cell h5, h6.trans g⟩
theorem Boxl.drew {w a : World} {k : Nat} (h : Boxl w k a) : Boxl w k a.drew := h.next (Bl.refl a).drew

set_option maxHeartbeats 1000000 in
theorem Round_any (A C : Option Addr) (ds es : List Nat) (c1 c2 : Nat) (s : Bool) (N k r : Nat) (h53 : N < 2 ^ 53) (hk : k ≤ 1074) (hr : val r = N * 2 ^ (1074 - k)) (hrI : r < I) (w : World) (hN : IsNat w A ds c1 N) (hE : IsNat w C es c2 1) :
    Calls Try.prog 43 #[.agg #[.int .i64 53, .int .i64 52, .int .i64 (-1074), .int .u64 2047, .int .u64 9223372036854775808], .bool s, .slice A ds.length c1, .slice C es.length c2, .int .i64 (-(k : Int))] w fun e w' => e = .returned (.int .u64 ((W s r : Nat) : Int)) ∧ Bl w w' := by
  by_cases h0 : N = 0
  · subst h0
    rw [Nat.zero_mul] at hr
    obtain rfl := val_eq_zero.1 hr
    have hl := hN.zero
    have SG := hid (signed_any s 0 (by decide))
    clear hN hE hr h53 hrI
    generalize W s 0 = W1 at *
    go_enter Try.func43, Try.ntmps43
    go_wp2_with (go_at_call 57; refine (SG.out _).mono ?_; rintro e w' ⟨rfl, hok⟩; have hb := hid (((Bl.refl w).alloc _).trans hok.bl))
    go_ret
    exact ⟨rfl, hb.out⟩
  · have hdl := hN.pos (by omega)
    have hd2 := hN.short (k := 2) (by exact Nat.lt_of_lt_of_le h53 (Nat.pow_le_pow_right (by decide) (by decide)))
    have hel := hE.short (k := 1) (by decide)
    have LG := hid (log_any A C ds es c1 c2 N (by omega) (Nat.lt_of_lt_of_le h53 (Nat.pow_le_pow_right (by decide) (by decide))))
    obtain ⟨L, Q, j, hL, hL2, hQ, hQj, hj, hlt, hre⟩ := round_parts (by omega) h53 hk hr
    rw [hL] at LG
    have eL : (((L + 1 : Nat) : Int) - 1) = (L : Int) := by omega
    rw [eL] at LG
    have HN := hid hN
    have HE := hid hE
    have HR := hid hre
    have HI := hid hrI
    clear hN hE hre hrI hr h53 h0 hL eL
    go_enter Try.func43, Try.ntmps43
    go_wp2_with fail
    go_region_held3 (fun w' => w'.cell? ⟨w.heap.size, 0, none⟩ = some (.int .i64 53) ∧ w'.cell? ⟨w.heap.size, 1, none⟩ = some (.int .i64 52) ∧ w'.cell? ⟨w.heap.size, 2, none⟩ = some (.int .i64 (-1074)) ∧ w'.cell? ⟨w.heap.size, 3, none⟩ = some (.int .u64 2047) ∧ w'.cell? ⟨w.heap.size, 4, none⟩ = some (.int .u64 9223372036854775808) ∧ Bl w w')
      (first | exact (Boxl.start w).drew | exact Boxl.next (w := w) (k := w.heap.size) ‹_ ∧ _› ‹Bl _ _› | go_keep)
      (first | (go_at_call 58; refine (LG.out _ (HN.out.bl (‹_ ∧ _› : Boxl w w.heap.size _).2.2.2.2.2) (HE.out.bl (‹_ ∧ _› : Boxl w w.heap.size _).2.2.2.2.2)).mono ?_; rintro e w' ⟨rfl, hok⟩))
    rename_i hh
    have hLk : -2000 ≤ (L : Int) + -(k : Int) ∧ (L : Int) + -(k : Int) ≤ 52 := by omega
    have em : (if IntKind.i64.wrap (IntKind.i64.wrap (IntKind.i64.wrap ((L : Int) + -(k : Int)) - 53) + 1) < -1074 then -1074 else IntKind.i64.wrap (IntKind.i64.wrap (IntKind.i64.wrap ((L : Int) + -(k : Int)) - 53) + 1)) = (Q : Int) - 1074 := by
      rw [wrap_i64 (z := (L : Int) + -(k : Int)) (by omega) (by omega), wrap_i64 (z := (L : Int) + -(k : Int) - 53) (by omega) (by omega), wrap_i64 (by omega) (by omega)]
      split <;> omega
    rw [em]
    clear em
    generalize IntKind.i64.wrap (IntKind.i64.wrap (IntKind.i64.wrap ((L : Int) + -(k : Int)) - 53) + 1) = z1
    obtain ⟨q, hq⟩ : ∃ q : Int, q = (Q : Int) - 1074 := ⟨_, rfl⟩
    rw [← hq]
    have ej : -(k : Int) - q = j := by omega
    have eq1 : q + 1074 = Q := by omega
    have hqk : q ≤ -(k : Int) := by omega
    have hQ2 : Q ≤ 1074 := by omega
    clear hq hQ hLk
    have SH := hid (fun w' h => shl_any A ds c1 j N (by omega) (by omega) w' h)
    obtain ⟨hc0, hc1, hc2, hc3, hc4, hbl⟩ := hh
    have HB := hid hbl
    clear hbl hok
    go_wp2_with (go_at_call 60; refine (SH.out _ (HN.out.bl HB.out)).mono ?_; rintro e w1 ⟨A', ds', c', rfl, hI, hB⟩; have I' := hid hI; have B' := hid (HB.out.trans hB); replace hc0 := hB.cell hc0; replace hc1 := hB.cell hc1; replace hc2 := hB.cell hc2; replace hc3 := hB.cell hc3; replace hc4 := hB.cell hc4; clear hI hB)
    obtain ⟨M, hM⟩ : ∃ M, M = N * 2 ^ j := ⟨_, rfl⟩
    rw [← hM] at hlt I'
    have HM := hid hM
    have HLT := hid hlt
    clear hM hlt
    have hI0 := I'.out
    go_loopw [2, 12, 13] (fun nu nn i wr => ∃ (t : Nat) (z : Int) (A' : Option Addr) (ds' : List Nat) (c' : Nat), t ≤ 54 ∧ Hid (z = (t : Int) - 1) ∧ i = .int .i64 z ∧ nu = .slice A' ds'.length c' ∧ IsNat wr A' ds' c' (M % 2 ^ t) ∧ nn = .int .u64 ((M - M % 2 ^ t : Nat) : Int) ∧ Hid (Boxl w w.heap.size wr)) (fun _ _ i _ => (intOf i + 1).toNat)
    case atStart =>
      have e : M % 2 ^ 54 = M := Nat.mod_eq_of_lt (Nat.lt_trans HLT.out (Nat.pow_lt_pow_right (by decide) (by decide)))
      exact ⟨54, _, _, _, _, Nat.le_refl _, hid rfl, by simp, rfl, by rw [e]; exact I'.out, by rw [e]; simp, hid ⟨hc0, hc1, hc2, hc3, hc4, B'.out⟩⟩
    case round =>
      obtain ⟨t, z, A', ds', c', ht, hz, rfl, rfl, hI, rfl, hbx⟩ := hrel
      clear hI0 I' hc0 hc1 hc2 hc3 hc4 B'
      have E1 := HE.out.bl hbx.out.2.2.2.2.2
      by_cases ht0 : t = 0
      · subst ht0
        obtain rfl : z = -1 := by have := hz.out; omega
        have e0 : M % 2 ^ 0 = 0 := Nat.mod_one M
        rw [e0] at hI
        rw [e0, Nat.sub_zero]
        have hs0 := hI.zero
        have S1 := hid (show Calls Try.prog 60 #[.slice A' ds'.length c', .int .i64 1] wr (NatRet 0 wr) from shl_any A' ds' c' 1 0 (by omega) (by omega) wr hI)
        clear hs0
        have EE := hid E1
        have hcm : cmpI 0 1 = -1 := by decide
        clear hz E1 hI e0
        have HBX := hid hbx.out
        obtain ⟨hc0, hc1, hc2, hc3, hc4, hbl⟩ := hbx.out
        clear hbl
        go_wp2_with (first
          | (go_at_call 60; refine S1.out.mono ?_; rintro e w1 ⟨A2, d2, k2, rfl, hJ, hB⟩; have J := hid hJ; have B2 := hid hB; replace hc0 := hB.cell hc0; replace hc1 := hB.cell hc1; replace hc2 := hB.cell hc2; replace hc3 := hB.cell hc3; replace hc4 := hB.cell hc4; clear hJ hB)
          | (go_at_call 61; refine (cmp_nat J.out (EE.out.bl B2.out)).mono ?_; rintro e w2 ⟨rfl, rfl⟩; rw [hcm]))
        have SG := hid (fun w' => signed_any s r (Nat.lt_trans HI.out (by decide)) w')
        have HBY := hid (HBX.out.next B2.out)
        have HMS := hid (round_mess Q M r hQ2 (by rw [HM.out]; exact HR.out) HI.out)
        go_region_held3 (fun w' => w'.cell? ⟨w.heap.size, 0, none⟩ = some (.int .i64 53) ∧ w'.cell? ⟨w.heap.size, 1, none⟩ = some (.int .i64 52) ∧ w'.cell? ⟨w.heap.size, 2, none⟩ = some (.int .i64 (-1074)) ∧ w'.cell? ⟨w.heap.size, 3, none⟩ = some (.int .u64 2047) ∧ w'.cell? ⟨w.heap.size, 4, none⟩ = some (.int .u64 9223372036854775808) ∧ Bl w w')
          (first | exact HBY.out.drew | exact Boxl.next (w := w) (k := w.heap.size) ‹_ ∧ _› (Ok.bl ‹Ok _ _›) | go_keep)
          (first | (go_at_call 57; rw [HMS.out]; refine (SG.out _).mono ?_; rintro e w' ⟨rfl, hok⟩))
        rename_i hh
        go_wp2
        go_ret
        exact ⟨rfl, hh.2.2.2.2.2⟩
      · obtain ⟨u, rfl⟩ : ∃ u, t = u + 1 := ⟨t - 1, by omega⟩
        obtain rfl : z = u := by have := hz.out; omega
        have hu : u ≤ 53 := by omega
        have SD := hid (shl_any C es c2 u 1 (by omega) (by omega) wr E1)
        have hbit := bit_step M u HLT.out hu
        have e1 : ((2 ^ u : Nat) : Int) = (2 : Int) ^ u := Int.natCast_pow 2 u
        have hp2 : (2 : Nat) ^ u ≤ 2 ^ 53 := Nat.pow_le_pow_right (by decide) hu
        have hp3 : (2 : Nat) ^ 53 = 9007199254740992 := by decide
        have hp4 : (2 : Int) ^ u ≤ 9007199254740992 := by rw [← e1]; omega
        have hp5 : (0 : Int) ≤ (2 : Int) ^ u := by rw [← e1]; omega
        rw [e1] at hbit
        clear hz ht0 hp2 hp3 e1
        have II := hid hI
        have EE := hid E1
        clear E1 hI
        by_cases hb : 2 ^ u ≤ M % 2 ^ (u + 1)
        · obtain ⟨h1, h2⟩ := hbit.1 hb
          have hcmp : 0 ≤ cmpI (M % 2 ^ (u + 1)) (1 * 2 ^ u) := cmpI_ge (by rw [Nat.one_mul]; exact hb)
          have hpos : 0 < ds'.length := II.out.pos (Nat.lt_of_lt_of_le (Nat.two_pow_pos u) hb)
          have H1 := hid h1
          have HLE := hid hb
          have HPB := hid hpos
          clear hbit h1 hb hpos
          obtain ⟨n2, hn2⟩ : ∃ n2, n2 = M - M % 2 ^ u := ⟨_, rfl⟩
          rw [← hn2] at h2
          have HN2 := hid hn2
          clear hn2
          generalize M - M % 2 ^ (u + 1) = n1 at *
          go_wp2_with (first
            | (go_at_call 60; refine SD.out.mono ?_; rintro e w1 ⟨A2, d2, k2, rfl, hJ, hB⟩; have J := hid hJ; have B2 := hid hB; clear hJ hB)
            | (go_at_call 61; refine (cmp_nat (II.out.bl B2.out) J.out).mono ?_; rintro e w2 ⟨rfl, rfl⟩; generalize cmpI _ _ = cc at *)
            | (go_at_call 62; refine (sub_any A' A2 ds' d2 c' k2 _ _ HPB.out _ (II.out.bl B2.out) J.out (by rw [Nat.one_mul]; exact HLE.out)).mono ?_; rintro e w2 ⟨A3, d3, k3, rfl, hJ, hB⟩; rw [H1.out] at hJ; have J3 := hid hJ; have B3 := hid hB; clear hJ hB))
          go_roundw
          case rel => exact ⟨u, _, A3, d3, k3, by omega, hid rfl, rfl, rfl, J3.out, by rw [HN2.out], hid (hbx.out.next (B2.out.trans B3.out))⟩
          case measure => simp [intOf]
        · have h1 := hbit.2 (by omega)
          have hcmp : cmpI (M % 2 ^ (u + 1)) (1 * 2 ^ u) < 0 := by
            unfold cmpI; rw [if_pos (by rw [Nat.one_mul]; omega)]; omega
          have H1 := hid h1
          clear hbit h1 hb
          obtain ⟨n2, hn2⟩ : ∃ n2, n2 = M - M % 2 ^ (u + 1) := ⟨_, rfl⟩
          rw [← hn2]
          have HN2 := hid hn2
          clear hn2
          go_wp2_with (first
            | (go_at_call 60; refine SD.out.mono ?_; rintro e w1 ⟨A2, d2, k2, rfl, hJ, hB⟩; have J := hid hJ; have B2 := hid hB; clear hJ hB)
            | (go_at_call 61; refine (cmp_nat (II.out.bl B2.out) J.out).mono ?_; rintro e w2 ⟨rfl, rfl⟩; generalize cmpI _ _ = cc at *))
          go_roundw
          case rel => exact ⟨u, _, A', ds', c', by omega, hid rfl, rfl, rfl, by rw [← H1.out]; exact II.out.bl B2.out, by rw [HN2.out, H1.out], hid (hbx.out.next B2.out)⟩
          case measure => simp [intOf]

end Go.Proofs.Ytpkhmjfbldoegaa

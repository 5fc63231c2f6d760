/-
Natural numbers: compared, measured; the logarithm; a sign set; the size of a float's bits.
-/
import Derived.Test.YtpkhmjfbldoegaaNr
namespace Go.Proofs.Ytpkhmjfbldoegaa
open Go.RowKit Fl

theorem cmp_nat {A C : Option Addr} {xs ys : List Nat} {c1 c2 M N : Nat} {w : World} (hM : IsNat w A xs c1 M) (hN : IsNat w C ys c2 N) :
    Calls Try.prog 61 #[.slice A xs.length c1, .slice C ys.length c2] w fun e w' => e = .returned (.int .i64 (cmpI M N)) ∧ w = w' := by
  have h1 := hM.len
  have h2 := hN.len
  have h := cmp_any A C xs ys c1 c2 (by omega) (by omega) hM.dg hN.dg w hM.rd hN.rd
  rw [hM.num, hN.num] at h
  exact h

theorem len_nat {A : Option Addr} {ds : List Nat} {c N : Nat} {w : World} (hN : IsNat w A ds c N) :
    Calls Try.prog 69 #[.slice A ds.length c] w fun e w' => e = .returned (.int .i64 ((bl N : Nat) : Int)) ∧ w = w' := by
  have h1 := hN.len
  have h := len_any A ds c (by omega) hN.dg hN.top w hN.rd
  rw [hN.num] at h
  exact h

theorem bl_pos {N : Nat} (h : 0 < N) : 2 ^ (bl N - 1) ≤ N ∧ 1 ≤ bl N := by
  unfold bl
  rw [if_neg (by omega)]
  exact ⟨Nat.log2_self_le (by omega), by omega⟩
theorem lt_bl (N : Nat) : N < 2 ^ bl N := by
  unfold bl
  by_cases h : N = 0
  · rw [if_pos h, h]; decide
  · rw [if_neg h]; exact Nat.lt_log2_self

theorem cmpI_ge {M N : Nat} (h : N ≤ M) : 0 ≤ cmpI M N := by unfold cmpI; rw [if_neg (by omega)]; split <;> omega

theorem IsNat.pos {w : World} {A : Option Addr} {ds : List Nat} {c N : Nat} (h : IsNat w A ds c N) (hp : 0 < N) : 0 < ds.length := by
  refine Classical.byContradiction fun hn => ?_
  have e : nv ds = 0 := by unfold nv; rw [show ds.length = 0 by omega]; rfl
  rw [h.num] at e
  omega
theorem IsNat.zero {w : World} {A : Option Addr} {ds : List Nat} {c : Nat} (h : IsNat w A ds c 0) : ds.length = 0 := by
  refine Classical.byContradiction fun hn => ?_
  have ht := h.top (by omega)
  have h2 := h.num
  obtain ⟨l, hl⟩ : ∃ l, ds.length = l + 1 := ⟨ds.length - 1, by omega⟩
  have e : nv ds = nvf (dgt ds) l + dgt ds l * 2 ^ (32 * l) := by
    show nvf _ ds.length = _
    rw [hl]; rfl
  rw [hl] at ht
  have h4 : 1 * 2 ^ (32 * l) ≤ dgt ds l * 2 ^ (32 * l) := Nat.mul_le_mul_right _ (by simp at ht; omega)
  have h5 : 0 < (2 : Nat) ^ (32 * l) := Nat.two_pow_pos _
  omega
/-- A number below 2 to the power of 32 k has k digits at most. -/
theorem IsNat.short {w : World} {A : Option Addr} {ds : List Nat} {c N k : Nat} (h : IsNat w A ds c N) (hk : N < 2 ^ (32 * k)) : ds.length ≤ k := by
  refine Classical.byContradiction fun hn => ?_
  have ht := h.top (by omega)
  have h2 := h.num
  obtain ⟨l, hl⟩ : ∃ l, ds.length = l + 1 := ⟨ds.length - 1, by omega⟩
  have e : nv ds = nvf (dgt ds) l + dgt ds l * 2 ^ (32 * l) := by
    show nvf _ ds.length = _
    rw [hl]; rfl
  rw [hl] at ht
  have h4 : 1 * 2 ^ (32 * l) ≤ dgt ds l * 2 ^ (32 * l) := Nat.mul_le_mul_right _ (by simp at ht; omega)
  have h5 : (2 : Nat) ^ (32 * k) ≤ 2 ^ (32 * l) := Nat.pow_le_pow_right (by decide) (by omega)
  omega

set_option maxHeartbeats 2000000 in
theorem log_any (A C : Option Addr) (ds es : List Nat) (c1 c2 N : Nat) (hp : 0 < N) (hN64 : N < 2 ^ 64) (w : World) (hN : IsNat w A ds c1 N) (hE : IsNat w C es c2 1) :
    Calls Try.prog 58 #[.slice A ds.length c1, .slice C es.length c2] w fun e w' => e = .returned (.int .i64 ((bl N : Nat) - 1 : Int)) ∧ Bl w w' := by
  have hb := bl_pos hp
  have hb2 : bl N ≤ 64 := bl_le hN64
  have hes : es.length ≤ 4 := by
    have := hE.short (k := 1) (by decide)
    omega
  obtain ⟨k, hk⟩ : ∃ k, bl N = k + 1 := ⟨bl N - 1, by omega⟩
  have L1 := hid (len_nat hN)
  have L2 := hid (len_nat hE)
  rw [hk] at L1
  have hb1 : bl 1 = 1 := by decide
  rw [hb1] at L2
  rw [hk] at hb ⊢
  have hge : 2 ^ k ≤ N := hb.1
  have S := hid (shl_any C es c2 k 1 (by omega) hes w hE)
  have HN := hid hN
  have HG := hid hge
  have hk64 : k < 64 := by omega
  clear hN hE hb hge hk hb1 hb2
  have tok : True := trivial
  go_enter Try.func58, Try.ntmps58
  go_wp2_with (first
    | (go_at_call 69; have t := tok; clear tok; refine L1.out.mono ?_; rintro e w1 ⟨rfl, rfl⟩)
    | (go_at_call 69; refine L2.out.mono ?_; rintro e w1 ⟨rfl, rfl⟩)
    | (go_at_call 60; refine S.out.mono ?_; rintro e w1 ⟨A', ds', c', rfl, hI, hB⟩; have I' := hid hI; have B' := hid hB; clear hI hB)
    | (go_at_call 61; refine (cmp_nat (HN.out.bl B'.out) I'.out).mono ?_; rintro e w1 ⟨rfl, rfl⟩; have hc := cmpI_ge (show 1 * 2 ^ k ≤ N by rw [Nat.one_mul]; exact HG.out); generalize cmpI _ _ = cc at *))
  go_ret
  exact ⟨ret_int (by omega), B'.out⟩

theorem signed_bits {r : Nat} (h : r < G) : bits .or .u64 9223372036854775808 (r : Int) = ((W true r : Nat) : Int) := by
  have e : (9223372036854775808 : Int) = ((G : Nat) : Int) := rfl
  rw [e, or_u64 (by omega) (by omega)]
  have hg : r < 2 ^ 63 := h
  have := (Nat.two_pow_add_eq_or_of_lt hg 1).symm
  rw [Nat.mul_one] at this
  show ((2 ^ 63 ||| r : Nat) : Int) = _
  rw [this]; rfl

set_option maxHeartbeats 1000000 in
theorem signed_any (s : Bool) (r : Nat) (hr : r < G) (w : World) : Calls Try.prog 57 #[.agg #[.int .i64 53, .int .i64 52, .int .i64 (-1074), .int .u64 2047, .int .u64 9223372036854775808], .bool s, .int .u64 r] w fun e w' => e = .returned (.int .u64 ((W s r : Nat) : Int)) ∧ Ok w w' := by
  have hb := signed_bits hr
  cases s
  · clear hb
    have e : W false r = r := by unfold W; simp
    rw [e]
    go_enter Try.func57, Try.ntmps57
    go_wp2
    go_ret
    exact ⟨rfl, (Ok.refl w).alloc _ _⟩
  · generalize W true r = W1 at *
    go_enter Try.func57, Try.ntmps57
    go_wp2
    go_ret
    exact ⟨rfl, (Ok.refl w).alloc _ _⟩

theorem neg_bits {b : Nat} (hb : b < 2 * G) : ((bits .and .u64 (b : Int) 9223372036854775808) != 0) = sgB b := by
  have e : (9223372036854775808 : Int) = ((G : Nat) : Int) := rfl
  have hG : G < 2 * G := by decide
  rw [e, and_u64 hb hG, and_G b hb]
  unfold sgB
  by_cases h : G ≤ b
  · rw [if_pos h, decide_eq_true h]; decide
  · rw [if_neg h, decide_eq_false h]; decide

set_option maxHeartbeats 1000000 in
theorem Neg_any (b : Nat) (hb : b < 2 * G) (w : World) : Calls Try.prog 44 #[.agg #[.int .i64 53, .int .i64 52, .int .i64 (-1074), .int .u64 2047, .int .u64 9223372036854775808], .int .u64 b] w fun e w' => e = .returned (.bool (sgB b)) ∧ Ok w w' := by
  rw [← neg_bits hb]
  go_enter Try.func44, Try.ntmps44
  go_wp2
  go_ret
  exact ⟨rfl, (Ok.refl w).alloc _ _⟩

/-- The size of a float's bits: a whole number and the power of 2. -/
def szM (b : Nat) : Nat := if ex b = 0 then fx b else B + fx b
def szE (b : Nat) : Int := if ex b = 0 then -1074 else -1075 + ex b

theorem size_bits {f : Nat} (h : f < B) : bits .or .u64 4503599627370496 (f : Int) = ((B + f : Nat) : Int) := by
  have e : (4503599627370496 : Int) = ((B : Nat) : Int) := rfl
  have hB : B < 2 * G := by decide
  rw [e, or_u64 hB (by omega)]
  have hg : f < 2 ^ 52 := h
  have := (Nat.two_pow_add_eq_or_of_lt hg 1).symm
  rw [Nat.mul_one] at this
  show ((2 ^ 52 ||| f : Nat) : Int) = _
  rw [this]; rfl
theorem fx_lt (b : Nat) : fx b < B := Nat.mod_lt _ B_pos
theorem ex_lt (b : Nat) : ex b < 2048 := Nat.mod_lt _ (by decide)

theorem wrap_i64 {z : Int} (h1 : -9223372036854775808 ≤ z) (h2 : z < 9223372036854775808) : IntKind.i64.wrap z = z := by
  simp [IntKind.wrap, IntKind.bits, IntKind.signed]
  split <;> omega

set_option maxHeartbeats 1000000 in
theorem Size_any (b : Nat) (hb : b < 2 * G) (w : World) : Calls Try.prog 41 #[.agg #[.int .i64 53, .int .i64 52, .int .i64 (-1074), .int .u64 2047, .int .u64 9223372036854775808], .int .u64 b] w fun e w' => e = .returned (.tuple #[.int .u64 (szM b), .int .i64 (szE b)]) ∧ Ok w w' := by
  have H := hid (exp_any b hb)
  have H2 := hid (frac_any b hb)
  have hel := ex_lt b
  have hor := size_bits (fx_lt b)
  by_cases h0 : ex b = 0
  · have eM : szM b = fx b := by unfold szM; rw [if_pos h0]
    have eE : szE b = -1074 := by unfold szE; rw [if_pos h0]
    rw [eM, eE]
    rw [h0] at H
    clear hor eM eE h0 hel
    generalize fx b = f at *
    go_enter Try.func41, Try.ntmps41
    go_wp2_with (go_at_call 33; refine (H.out _).mono ?_; rintro e w1 ⟨rfl, hok⟩; have hb1 := hid ((Boxed.start w).next hok))
    go_region_held3 (fun w' => w'.cell? ⟨w.heap.size, 0, none⟩ = some (.int .i64 53) ∧ w'.cell? ⟨w.heap.size, 1, none⟩ = some (.int .i64 52) ∧ w'.cell? ⟨w.heap.size, 2, none⟩ = some (.int .i64 (-1074)) ∧ w'.cell? ⟨w.heap.size, 3, none⟩ = some (.int .u64 2047) ∧ w'.cell? ⟨w.heap.size, 4, none⟩ = some (.int .u64 9223372036854775808) ∧ Ok w w')
      (first | exact hb1.out.drew | exact Boxed.next (w := w) (k := w.heap.size) ‹_ ∧ _› ‹Ok _ _› | go_keep)
      (first | (go_at_call 33; refine (H.out _).mono ?_; rintro e w' ⟨rfl, hok⟩) | (go_at_call 34; refine (H2.out _).mono ?_; rintro e w' ⟨rfl, hok⟩))
    go_wp2
    rename_i hh
    exact bodyPost_ret (v := .tuple #[.int .u64 f, .int .i64 (-1074)]) (by simp [results, Try.results41, go_sem]) rfl ⟨rfl, hh.2.2.2.2.2⟩
  · have eM : szM b = B + fx b := by unfold szM; rw [if_neg h0]
    have eE : szE b = -1075 + ex b := by unfold szE; rw [if_neg h0]
    rw [eM, eE]
    rw [← eM] at hor ⊢
    clear eM eE
    generalize szM b = M at *
    generalize fx b = f at *
    generalize ex b = e0 at *
    have h0' : ((e0 : Int) == 0) = false := by simp; omega
    go_enter Try.func41, Try.ntmps41
    go_wp2_with (go_at_call 33; refine (H.out _).mono ?_; rintro e w1 ⟨rfl, hok⟩; have hb1 := hid ((Boxed.start w).next hok))
    go_region_held3 (fun w' => w'.cell? ⟨w.heap.size, 0, none⟩ = some (.int .i64 53) ∧ w'.cell? ⟨w.heap.size, 1, none⟩ = some (.int .i64 52) ∧ w'.cell? ⟨w.heap.size, 2, none⟩ = some (.int .i64 (-1074)) ∧ w'.cell? ⟨w.heap.size, 3, none⟩ = some (.int .u64 2047) ∧ w'.cell? ⟨w.heap.size, 4, none⟩ = some (.int .u64 9223372036854775808) ∧ Ok w w')
      (first | exact hb1.out.drew | exact Boxed.next (w := w) (k := w.heap.size) ‹_ ∧ _› ‹Ok _ _› | go_keep)
      (first | (go_at_call 33; refine (H.out _).mono ?_; rintro e w' ⟨rfl, hok⟩) | (go_at_call 34; refine (H2.out _).mono ?_; rintro e w' ⟨rfl, hok⟩))
    go_wp2
    rename_i hh
    exact bodyPost_ret (v := .tuple #[.int .u64 M, .int .i64 (-1075 + e0)]) (by
      have a1 : IntKind.i64.wrap (e0 : Int) = e0 := wrap_i64 (by omega) (by omega)
      have a2 : IntKind.i64.wrap (-1074 + (e0 : Int)) = -1074 + (e0 : Int) := wrap_i64 (by omega) (by omega)
      have a3 : IntKind.i64.wrap (-1074 + (e0 : Int) - 1) = -1075 + (e0 : Int) := by rw [wrap_i64 (by omega) (by omega)]; omega
      have a4 : IntKind.u64.wrap 4503599627370496 = 4503599627370496 := by decide
      simp [results, Try.results41, go_sem, a1, a2, a3, a4, hor]) rfl ⟨rfl, hh.2.2.2.2.2⟩

end Go.Proofs.Ytpkhmjfbldoegaa

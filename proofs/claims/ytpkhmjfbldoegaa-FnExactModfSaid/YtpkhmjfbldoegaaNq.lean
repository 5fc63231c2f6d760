/-
Natural numbers as slices of digits: multiplied with a power of 2.
-/
import Derived.Test.YtpkhmjfbldoegaaNp
namespace Go.Proofs.Ytpkhmjfbldoegaa
open Go.RowKit Fl

theorem Try.info_u32 : (Try.prog.info? 54).map (fun i => (i.zero, i.size, i.bytes)) = some (some (.int .u32 0), 1, 4) := by kernel_rfl

/-- Digits as cells. -/
def cellsOf (xs : List Nat) : List Value := xs.map fun d => .int .u32 ((d : Nat) : Int)
theorem cellsOf_snoc (xs : List Nat) (d : Nat) : cellsOf (xs ++ [d]) = cellsOf xs ++ [.int .u32 ((d : Nat) : Int)] := by unfold cellsOf; simp

/-- A row of the call's own reads as its digits. -/
theorem rd_of_own {w : World} {base : Nat} {A : Option Addr} {c : Nat} {xs : List Nat} (h : w.ownsRow base 54 1 (.slice A xs.length c) xs.length (cellsOf xs)) : Rd w A xs := by
  intro hp
  obtain ⟨_, h | ⟨g, cap, cur, hv, _, hh, _, _, _, ht⟩⟩ := h
  · omega
  · injection hv with hA _ _
    subst hA
    refine ⟨g, 0, rfl, fun i hi => ?_⟩
    have e : cur.toList[i]? = some (.int .u32 ((xs.getD i 0 : Nat) : Int)) := by
      have h1 : (cur.toList.take (xs.length * 1))[i]? = (cellsOf xs)[i]? := by rw [ht]
      rw [List.getElem?_take_of_lt (by omega)] at h1
      rw [h1]
      unfold cellsOf
      rw [List.getElem?_map, List.getD_eq_getElem?_getD, List.getElem?_eq_getElem hi]; rfl
    rw [Nat.zero_add]
    simp [World.cell?, hh]
    rw [← Array.getElem?_toList]
    rw [e, List.getD_eq_getElem?_getD]

/-- What NatShl's rounds keep. -/
structure ShlRel (w wr : World) (s n : Nat) (f : Nat → Nat) (k : Nat) (v : Value) (xs : List Nat) (cy : Nat) : Prop where
  own : wr.ownsRow w.heap.size 54 1 v xs.length (cellsOf xs)
  dg : Dg xs
  len : xs.length = n / 32 + k
  low : cy < 2 ^ s
  sum : nv xs + cy * 2 ^ (32 * xs.length) = nvf f k * 2 ^ n
  bel : Bl w wr

/-- A digit appended to the call's own row. -/
theorem appended {w wr w1 : World} {v v' : Value} {xs : List Nat} {x : Nat} {o : Obj}
    (hown : wr.ownsRow w.heap.size 54 1 v xs.length (cellsOf xs)) (hb : Bl w wr)
    (hown' : w1.ownsRow w.heap.size 54 1 v' (xs.length + 1) (cellsOf xs ++ [.int .u32 ((x : Nat) : Int)])) (hgrow : (wr.alloc o).grownBy w1 v.ownBlock) :
    w1.ownsRow w.heap.size 54 1 v' (xs ++ [x]).length (cellsOf (xs ++ [x])) ∧ Bl w w1 := by
  refine ⟨by rw [cellsOf_snoc, List.length_append]; exact hown', ?_⟩
  refine Below.grown (hb.alloc o) hgrow (by have := Below.size hb; simp; omega) fun k ek => ?_
  rcases hown.2 with ⟨rfl, _⟩ | ⟨g, cap, cur, rfl, hg, _⟩
  · simp [Value.ownBlock] at ek
  · obtain rfl : g = k := by simpa [Value.ownBlock] using ek
    exact hg

theorem shl_bits {cn d s : Nat} (hc : cn < 2 ^ s) (hd : d < 4294967296) (hs : s < 32) :
    bits .or .u64 (cn : Int) (IntKind.u64.wrap ((d : Int) * 2 ^ s)) = ((cn + d * 2 ^ s : Nat) : Int) ∧ cn + d * 2 ^ s < 4294967296 * 2 ^ s := by
  have h1 : cn + d * 2 ^ s < 4294967296 * 2 ^ s := by
    have : (d + 1) * 2 ^ s ≤ 4294967296 * 2 ^ s := Nat.mul_le_mul_right _ hd
    rw [Nat.add_mul, Nat.one_mul] at this
    omega
  refine ⟨?_, h1⟩
  have h2 : (2 : Nat) ^ s ≤ 2147483648 := by
    have : (2 : Nat) ^ s ≤ 2 ^ 31 := Nat.pow_le_pow_right (by omega) (by omega)
    exact Nat.le_trans this (by decide)
  have hG : (2 : Nat) * G = 18446744073709551616 := by decide
  have h3 : cn + d * 2 ^ s < 2 * G := by rw [hG]; omega
  have e : (d : Int) * 2 ^ s = ((d * 2 ^ s : Nat) : Int) := by push_cast; rfl
  rw [e, wrap_nat (by omega), or_u64 (by omega) (by omega)]
  congr 1
  rw [Nat.or_comm, Nat.mul_comm d, ← Nat.two_pow_add_eq_or_of_lt hc, Nat.add_comm]

theorem carry_sum (a C M P : Nat) : a + C % M * P + C / M * (M * P) = a + C * P := by
  rw [← Nat.mul_assoc, Nat.add_assoc, ← Nat.add_mul, Nat.mod_add_div']

theorem shl_next {w wr w1 : World} {s n k cn d : Nat} {f : Nat → Nat} {v v' : Value} {xs : List Nat} {o : Obj} (hs : s = n % 32) (R : ShlRel w wr s n f k v xs cn) (hf : f k = d) (hd : d < 4294967296) {C : Nat} (hC : C = cn + d * 2 ^ s)
    (hown' : w1.ownsRow w.heap.size 54 1 v' (xs.length + 1) (cellsOf xs ++ [.int .u32 ((C % 4294967296 : Nat) : Int)])) (hgrow : (wr.alloc o).grownBy w1 v.ownBlock) :
    ShlRel w w1 s n f (k + 1) v' (xs ++ [C % 4294967296]) (C / 4294967296) := by
  obtain ⟨hr, hb⟩ := appended R.own R.bel hown' hgrow
  have hlt := (shl_bits R.low hd (by omega)).2
  rw [← hC] at hlt
  refine ⟨hr, R.dg.snoc (Nat.mod_lt _ (by decide)), by rw [List.length_append, R.len]; rfl, (Nat.div_lt_iff_lt_mul (by decide)).2 (by rw [Nat.mul_comm]; exact hlt), ?_, hb⟩
  rw [nv_snoc, List.length_append]
  show _ + C / 4294967296 * 2 ^ (32 * (xs.length + 1)) = (nvf f k + f k * 2 ^ (32 * k)) * 2 ^ n
  have e1 : (2 : Nat) ^ (32 * (xs.length + 1)) = 4294967296 * 2 ^ (32 * xs.length) := by
    have : 32 * (xs.length + 1) = 32 + 32 * xs.length := by omega
    rw [this, Nat.pow_add]
  have e2 : (2 : Nat) ^ (32 * k) * 2 ^ n = 2 ^ s * 2 ^ (32 * xs.length) := by
    rw [← Nat.pow_add, ← Nat.pow_add, R.len]
    have h : 32 * k + n = s + 32 * (n / 32 + k) := by omega
    rw [h]
  rw [e1, carry_sum, hf, Nat.add_mul, Nat.mul_assoc d, e2, ← R.sum, hC]
  generalize 2 ^ (32 * xs.length) = P
  generalize 2 ^ s = S
  rw [Nat.add_mul, Nat.mul_assoc, Nat.add_assoc]

/-- The last carry appended: the digits of the product. -/
theorem shl_end {w wr w1 : World} {s n cn N c : Nat} {A : Option Addr} {ds : List Nat} {v v' : Value} {xs : List Nat} {o : Obj} (hN : IsNat w A ds c N) (R : ShlRel w wr s n (dgt ds) ds.length v xs cn) (hcn : cn < 4294967296) (hxl : xs.length ≤ 7)
    (hown' : w1.ownsRow w.heap.size 54 1 v' (xs.length + 1) (cellsOf xs ++ [.int .u32 ((cn : Nat) : Int)])) (hgrow : (wr.alloc o).grownBy w1 v.ownBlock) :
    ∃ g cp xs', v' = .slice (some ⟨g, 0, none⟩) xs'.length cp ∧ Rd w1 (some ⟨g, 0, none⟩) xs' ∧ Dg xs' ∧ nv xs' = N * 2 ^ n ∧ Bl w w1 ∧ xs'.length ≤ 8 ∧ xs'.length ≤ cp ∧ cp ≤ maxLen := by
  obtain ⟨hr, hb⟩ := appended R.own R.bel hown' hgrow
  have hv : ∃ g cp, v' = .slice (some ⟨g, 0, none⟩) (xs ++ [cn]).length cp ∧ (xs ++ [cn]).length ≤ cp ∧ cp ≤ maxLen := by
    rcases hr.2 with ⟨_, h⟩ | ⟨g, cp, _, h, _, _, h1, h2, _⟩
    · simp at h
    · exact ⟨g, cp, h, h1, h2⟩
  obtain ⟨g, cp, rfl, hq1, hq2⟩ := hv
  refine ⟨g, cp, xs ++ [cn], rfl, rd_of_own hr, R.dg.snoc hcn, ?_, hb, by rw [List.length_append]; simpa using hxl, hq1, hq2⟩
  rw [nv_snoc, R.sum]
  show nv ds * _ = _
  rw [hN.num]

theorem mk_cells (n : Nat) (hn : n < 64) : ∃ (q : Nat) (cs : Array Value), (n : Int) / 32 = (q : Int) ∧ n / 32 = q ∧ q ≤ 1 ∧ cs.toList = cellsOf (List.replicate q 0) ∧
    ∀ w, (Instr.makeSlice 45 (.int .i64 q) (.int .i64 q)).run Try.prog w = .ok (.slice (some ⟨w.heap.size, 0, none⟩) q q) (w.alloc (.cells cs 54)) := by
  by_cases h : n < 32
  · exact ⟨0, #[], by omega, by omega, by omega, rfl, fun _ => by kernel_rfl⟩
  · exact ⟨1, #[.int .u32 0], by omega, by omega, by omega, rfl, fun _ => by kernel_rfl⟩

set_option maxHeartbeats 4000000 in
theorem shl_any (A : Option Addr) (ds : List Nat) (c n N : Nat) (hn : n < 64) (hl : ds.length ≤ 4) (w : World) (hN : IsNat w A ds c N) :
    Calls Try.prog 60 #[.slice A ds.length c, .int .i64 n] w (NatRet (N * 2 ^ n) w) := by
  obtain ⟨i0, hi, hz0, hz1, hz2⟩ := info_parts Try.info_u32
  obtain ⟨q, cs, hq1, hq2, hq3, hcs, hmk⟩ := mk_cells n hn
  have hs : n % 32 < 32 := Nat.mod_lt _ (by decide)
  obtain ⟨s, hse⟩ : ∃ s, s = n % 32 := ⟨_, rfl⟩
  have hrem : (n : Int) % 32 = (s : Int) := by omega
  have hs32 : s < 32 := by omega
  have HN := hid hN
  have HS := hid hse
  have HQ := hid hq2
  have HC := hid hcs
  clear hN hs hse hq2 hcs
  go_enter Try.func60, Try.ntmps60
  go_wp2_with fail
  have R0 : ShlRel w (w.alloc (.cells cs 54)) s n (dgt ds) 0 (.slice (some ⟨w.heap.size, 0, none⟩) q q) (List.replicate q 0) 0 := by
    refine ⟨?_, ?_, ?_, Nat.two_pow_pos _, ?_, (Bl.refl w).alloc _⟩
    · rw [← HC.out, List.length_replicate]
      exact World.ownsRow_lit (w := w) cs q (Nat.le_refl _) (by unfold maxLen; omega) (by have := congrArg List.length HC.out; simp [cellsOf] at this; simp [this])
    · intro d hd
      have := (List.mem_replicate.1 hd).2
      omega
    · rw [List.length_replicate]; exact HQ.out.symm
    · show nv (List.replicate q 0) + 0 * _ = 0 * _
      have : q = 0 ∨ q = 1 := by omega
      rcases this with rfl | rfl
      · simp; rfl
      · simp; rfl
  go_loopw [5, 6, 7] (fun v cy i wr => ∃ (k cn : Nat) (xs : List Nat), k ≤ ds.length ∧ i = .int .i64 k ∧ cy = .int .u64 cn ∧ ShlRel w wr s n (dgt ds) k v xs cn) (fun _ _ i _ => ds.length - (intOf i).toNat)
  case atStart => exact ⟨0, 0, List.replicate q 0, Nat.zero_le _, rfl, rfl, R0⟩
  case round =>
    obtain ⟨k, cn, xs, hk, rfl, rfl, R⟩ := hrel
    clear R0
    have hxl0 := R.len
    rw [HQ.out] at hxl0
    have HXL := hid hxl0
    clear hxl0
    by_cases hkl : k < ds.length
    · have hNr := HN.out.bl R.bel
      obtain ⟨b, o, rfl, hcell⟩ := hNr.rd (by omega)
      have hc := hcell k hkl
      have hd := dgt_lt hNr.dg k
      have e : ds.getD k 0 = dgt ds k := rfl
      rw [e] at hc
      clear hcell hNr e
      generalize hdk : dgt ds k = d at *
      have HDK := hid hdk
      clear hdk
      obtain ⟨hbits, hlt⟩ := shl_bits R.low hd hs32
      obtain ⟨C, hCe⟩ : ∃ C, C = cn + d * 2 ^ s := ⟨_, rfl⟩
      rw [← hCe] at hbits hlt
      have hC2 : C < 9223372036854775808 := by
        have h2 : (2 : Nat) ^ s ≤ 2 ^ 31 := Nat.pow_le_pow_right (by omega) (by omega)
        have h3 : (2 : Nat) ^ 31 = 2147483648 := by decide
        omega
      have HCE := hid hCe
      have RR := hid R
      have hcn : cn < 9223372036854775808 := by
        have h1 := R.low
        have h2 : (2 : Nat) ^ s ≤ 2 ^ 31 := Nat.pow_le_pow_right (by omega) (by omega)
        have h3 : (2 : Nat) ^ 31 = 2147483648 := by decide
        omega
      have hbl := R.bel.size
      clear hCe hlt R
      go_wp2_with (at_builtin; refine wpList_append_own _ rfl _ _ 45 rfl w.heap.size 54 i0 (.int .u32 0) 1 4 Try.underlying45 hi hz0 hz1 hz2 rfl (by decide) _ _ _ rfl (RR.out.own.alloc _) ⟨wr.heap.size, 0, none⟩ 1 1 [.int .u32 ((C : Int) % 4294967296)] rfl rfl ?c1 ?c2 ?c3 ?c4 ?c5 ?_)
      case c1 =>
        intro j u hj
        match j, hj with
        | 0, hj => simp at hj; subst hj; simp [Addr.add]
      case c2 => intro u hu; simp at hu; subst hu; rfl
      case c3 => have := HXL.out; unfold maxLen; omega
      case c4 => have := HXL.out; omega
      case c5 => simp; omega
      intro v' w1 hown' hgrow _
      have em : (C : Int) % 4294967296 = ((C % 4294967296 : Nat) : Int) := by omega
      rw [em] at hown'
      clear em
      have R1 := hid (shl_next HS.out RR.out HDK.out hd HCE.out hown' hgrow)
      clear hown' hgrow
      go_wp2
      go_roundw
      case rel => exact ⟨k + 1, _, _, by omega, by simp, by simp, R1.out⟩
      case measure => simp [intOf]; omega
    · have RR := hid R
      have hbl := R.bel.size
      have hcn : cn < 4294967296 := by
        have h1 := R.low
        have h2 : (2 : Nat) ^ s ≤ 2 ^ 31 := Nat.pow_le_pow_right (by omega) (by omega)
        have h3 : (2 : Nat) ^ 31 = 2147483648 := by decide
        omega
      clear R
      go_wp2_with (at_builtin; refine wpList_append_own _ rfl _ _ 45 rfl w.heap.size 54 i0 (.int .u32 0) 1 4 Try.underlying45 hi hz0 hz1 hz2 rfl (by decide) _ _ _ rfl (RR.out.own.alloc _) ⟨wr.heap.size, 0, none⟩ 1 1 [.int .u32 (cn : Int)] rfl rfl ?d1 ?d2 ?d3 ?d4 ?d5 ?_)
      case d1 =>
        intro j u hj
        match j, hj with
        | 0, hj => simp at hj; subst hj; simp [Addr.add]
      case d2 => intro u hu; simp at hu; subst hu; rfl
      case d3 => have := HXL.out; unfold maxLen; omega
      case d4 => have := HXL.out; omega
      case d5 => simp; omega
      intro v' w1 hown' hgrow _
      have hk2 : k = ds.length := by omega
      subst hk2
      obtain ⟨g, cp, xs', rfl, hx1, hx2, hx3, hx4, hx5, hx6, hx7⟩ := shl_end HN.out RR.out hcn (by have := HXL.out; omega) hown' hgrow
      clear hown' hgrow
      have HT := hid (trim_any (some ⟨g, 0, none⟩) xs' cp (by omega) hx7 hx6 hx2 w1 hx1)
      have HB := hid hx4
      have HM := hid hx3
      have HR := hid hx1
      have HD := hid hx2
      clear hx1 hx2 hx3 hx4
      go_wp2_with (go_at_call 63; refine HT.out.mono ?_; intro e w2 ht; obtain ⟨j, hj, rfl, hN', rfl⟩ := trimmed_nat HR.out HD.out hx5 ht; rw [HM.out] at hN'; have HN' := hid hN'; clear hN' ht hj; generalize xs'.take j = es at *)
      go_ret
      exact ⟨_, _, _, rfl, HN'.out, HB.out⟩

end Go.Proofs.Ytpkhmjfbldoegaa

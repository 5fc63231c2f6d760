/-
Natural numbers as slices of digits: the difference.
-/
import Derived.Test.YtpkhmjfbldoegaaNq
namespace Go.Proofs.Ytpkhmjfbldoegaa
open Go.RowKit Fl

/-- What NatSub's rounds keep. -/
structure SubRel (w wr : World) (f g : Nat → Nat) (k : Nat) (v : Value) (xs : List Nat) (bw : Nat) : Prop where
  own : wr.ownsRow w.heap.size 54 1 v xs.length (cellsOf xs)
  dg : Dg xs
  len : xs.length = k
  low : bw ≤ 1
  sum : nv xs + nvf g k = nvf f k + bw * 2 ^ (32 * k)
  bel : Bl w wr

theorem sub_next {w wr w1 : World} {k bw x y D : Nat} {f g : Nat → Nat} {v v' : Value} {xs : List Nat} {o : Obj} (R : SubRel w wr f g k v xs bw) (hf : f k = x) (hg : g k = y) (hx : x < 4294967296) (hy : y < 4294967296) (hD : D + y + bw = 4294967296 + x)
    (hown' : w1.ownsRow w.heap.size 54 1 v' (xs.length + 1) (cellsOf xs ++ [.int .u32 ((D % 4294967296 : Nat) : Int)])) (hgrow : (wr.alloc o).grownBy w1 v.ownBlock) :
    SubRel w w1 f g (k + 1) v' (xs ++ [D % 4294967296]) (1 - D / 4294967296) := by
  obtain ⟨hr, hb⟩ := appended R.own R.bel hown' hgrow
  refine ⟨hr, R.dg.snoc (Nat.mod_lt _ (by decide)), by rw [List.length_append, R.len]; rfl, by omega, ?_, hb⟩
  rw [nv_snoc, R.len]
  show _ + (nvf g k + g k * 2 ^ (32 * k)) = (nvf f k + f k * 2 ^ (32 * k)) + _ * 2 ^ (32 * (k + 1))
  have e1 : (2 : Nat) ^ (32 * (k + 1)) = 4294967296 * 2 ^ (32 * k) := by
    have : 32 * (k + 1) = 32 + 32 * k := by omega
    rw [this, Nat.pow_add]
  have hs := R.sum
  have hd : D % 4294967296 + bw + y = x + (1 - D / 4294967296) * 4294967296 := by
    have := R.low
    omega
  have hd2 := congrArg (· * 2 ^ (32 * k)) hd
  rw [e1, hf, hg]
  generalize 2 ^ (32 * k) = P at *
  generalize 1 - D / 4294967296 = b2 at *
  generalize D % 4294967296 = q at *
  simp only [Nat.add_mul] at hd2
  rw [← Nat.mul_assoc]
  omega

theorem sub_end {ms bs : List Nat} {xs : List Nat} {bw : Nat} (ha : Dg ms) (hx : Dg xs) (hlx : xs.length = ms.length) (htop : 0 < bs.length → dgt bs (bs.length - 1) ≠ 0) (hle : nv bs ≤ nv ms) (hb : bw ≤ 1)
    (hs : nv xs + nvf (dgt bs) ms.length = nvf (dgt ms) ms.length + bw * 2 ^ (32 * ms.length)) : nv xs = nv ms - nv bs := by
  have h1 : nv ms < 2 ^ (32 * ms.length) := nvf_lt (dgt_lt ha) _
  have h2 : nv xs < 2 ^ (32 * ms.length) := by
    have := nvf_lt (dgt_lt hx) xs.length
    rw [hlx] at this
    show nvf _ xs.length < _
    rw [hlx]; exact this
  have h3 : bs.length ≤ ms.length := by
    refine Classical.byContradiction fun hn => ?_
    have ht := htop (by omega)
    obtain ⟨l, hl⟩ : ∃ l, bs.length = l + 1 := ⟨bs.length - 1, by omega⟩
    have e : nv bs = nvf (dgt bs) l + dgt bs l * 2 ^ (32 * l) := by
      show nvf _ bs.length = _
      rw [hl]; rfl
    rw [hl] at ht
    have h4 : 1 * 2 ^ (32 * l) ≤ dgt bs l * 2 ^ (32 * l) := Nat.mul_le_mul_right _ (by simp at ht; omega)
    have h5 : (2 : Nat) ^ (32 * ms.length) ≤ 2 ^ (32 * l) := Nat.pow_le_pow_right (by decide) (by omega)
    omega
  rw [← nv_eq ms.length h3] at hs
  have e : nvf (dgt ms) ms.length = nv ms := rfl
  rw [e] at hs
  have h4 : bw = 0 ∨ bw = 1 := by omega
  rcases h4 with rfl | rfl
  · omega
  · omega

theorem sub_row {w wr : World} {f g : Nat → Nat} {k bw : Nat} {v : Value} {xs : List Nat} (R : SubRel w wr f g k v xs bw) (hk : 0 < k) : ∃ a cp, v = .slice (some ⟨a, 0, none⟩) xs.length cp ∧ Rd wr (some ⟨a, 0, none⟩) xs ∧ xs.length ≤ cp ∧ cp ≤ maxLen := by
  have hr := R.own
  have hl := R.len
  rcases hr.2 with ⟨_, h⟩ | ⟨a, cp, _, h, _, _, h1, h2, _⟩
  · omega
  · subst h
    exact ⟨a, cp, rfl, rd_of_own hr, h1, h2⟩

set_option maxHeartbeats 4000000 in
theorem sub_any (A C : Option Addr) (ms bs : List Nat) (c1 c2 M N : Nat) (hp : 0 < ms.length) (w : World) (hM : IsNat w A ms c1 M) (hN : IsNat w C bs c2 N) (hle : N ≤ M) :
    Calls Try.prog 62 #[.slice A ms.length c1, .slice C bs.length c2] w (NatRet (M - N) w) := by
  obtain ⟨i0, hi, hz0, hz1, hz2⟩ := info_parts Try.info_u32
  have hla := hM.len
  have hlb := hN.len
  have X := hid (fun (k : Nat) (hk : k ≤ 8) (w' : World) (hb : Bl w w') => digit_any A ms c1 k (by omega) (by omega) hM.dg w' (hM.rd.bl hb))
  have Y := hid (fun (k : Nat) (hk : k ≤ 8) (w' : World) (hb : Bl w w') => digit_any C bs c2 k (by omega) (by omega) hN.dg w' (hN.rd.bl hb))
  have HM := hid hM
  have HN := hid hN
  have HL := hid hle
  clear hM hN hle
  go_enter Try.func62, Try.ntmps62
  go_wp2
  have R0 : SubRel w w (dgt ms) (dgt bs) 0 (.slice none 0 0) [] 0 :=
    ⟨World.ownsRow_nil _ _ _ _, fun d hd => by simp at hd, rfl, by omega, by show 0 + 0 = 0 + 0 * _; simp, Bl.refl w⟩
  go_loopw [5, 6, 7] (fun v bw i wr => ∃ (k bn : Nat) (xs : List Nat), k ≤ ms.length ∧ i = .int .i64 k ∧ bw = .int .u64 bn ∧ SubRel w wr (dgt ms) (dgt bs) k v xs bn) (fun _ _ i _ => ms.length - (intOf i).toNat)
  case atStart => exact ⟨0, 0, [], Nat.zero_le _, rfl, rfl, R0⟩
  case round =>
    obtain ⟨k, bn, xs, hk, rfl, rfl, R⟩ := hrel
    clear R0
    have hlow := R.low
    have hbl := R.bel.size
    have HXL := hid R.len
    have RR := hid R
    by_cases hkl : k < ms.length
    · have X' := hid (X.out k (by omega) wr R.bel)
      have Y' := hid (Y.out k (by omega) wr R.bel)
      have hx := dgt_lt HM.out.dg k
      have hy := dgt_lt HN.out.dg k
      clear R
      obtain ⟨x, hxe⟩ : ∃ x, dgt ms k = x := ⟨_, rfl⟩
      obtain ⟨y, hye⟩ : ∃ y, dgt bs k = y := ⟨_, rfl⟩
      rw [hxe] at X' hx
      rw [hye] at Y' hy
      have HXE := hid hxe
      have HYE := hid hye
      clear hxe hye
      obtain ⟨D, hD⟩ : ∃ D, D = 4294967296 + x - y - bn := ⟨_, rfl⟩
      have hDe : (4294967296 : Int) + x - y - bn = (D : Int) := by omega
      have hDs : D + y + bn = 4294967296 + x := by omega
      have hDlt : D < 8589934592 := by omega
      have hDS := hid hDs
      clear hD hDs
      have tok : True := trivial
      go_wp2_with (first
        | (go_at_call 70; have t := tok; clear tok; refine X'.out.mono ?_; rintro e w1 ⟨rfl, rfl⟩)
        | (go_at_call 70; refine Y'.out.mono ?_; rintro e w1 ⟨rfl, rfl⟩)
        | (at_builtin; refine wpList_append_own _ rfl _ _ 45 rfl w.heap.size 54 i0 (.int .u32 0) 1 4 Try.underlying45 hi hz0 hz1 hz2 rfl (by decide) _ _ _ rfl (RR.out.own.alloc _) ⟨wr.heap.size, 0, none⟩ 1 1 [.int .u32 ((D : Int) % 4294967296)] rfl rfl ?c1 ?c2 ?c3 ?c4 ?c5 ?_))
      case c1 =>
        intro j u hj
        match j, hj with
        | 0, hj => simp at hj; subst hj; simp [Addr.add]
      case c2 => intro u hu; simp at hu; subst hu; rfl
      case c3 => have := HXL.out; unfold maxLen; omega
      case c4 => have := HXL.out; omega
      case c5 => simp; omega
      intro v' w1 hown' hgrow _
      have em : (D : Int) % 4294967296 = ((D % 4294967296 : Nat) : Int) := by omega
      rw [em] at hown'
      clear em
      have R1 := hid (sub_next RR.out HXE.out HYE.out hx hy hDS.out hown' hgrow)
      clear hown' hgrow
      go_wp2
      go_roundw
      case rel => exact ⟨k + 1, _, _, by omega, by simp, by congr 1; omega, R1.out⟩
      case measure => simp [intOf]; omega
    · have hk2 : k = ms.length := by omega
      subst hk2
      obtain ⟨a, cp, rfl, hx1, hx6, hx7⟩ := sub_row R hp
      have hx5 := R.len
      have hx2 := R.dg
      have he : nv xs = M - N := by
        have h := sub_end HM.out.dg R.dg R.len HN.out.top (by rw [HM.out.num, HN.out.num]; exact HL.out) R.low R.sum
        rw [HM.out.num, HN.out.num] at h
        exact h
      have HT := hid (trim_any (some ⟨a, 0, none⟩) xs cp (by omega) hx7 hx6 hx2 wr hx1)
      have HB := hid R.bel
      have HE := hid he
      have HR := hid hx1
      have HD := hid hx2
      have hx8 : xs.length ≤ 8 := by omega
      clear hx1 hx2 he R hx5 HXL
      go_wp2_with (go_at_call 63; refine HT.out.mono ?_; intro e w2 ht; obtain ⟨j, hj, rfl, hN', rfl⟩ := trimmed_nat HR.out HD.out hx8 ht; rw [HE.out] at hN'; have HN' := hid hN'; clear hN' ht hj; generalize xs.take j = es at *)
      go_ret
      exact ⟨_, _, _, rfl, HN'.out, HB.out⟩

end Go.Proofs.Ytpkhmjfbldoegaa

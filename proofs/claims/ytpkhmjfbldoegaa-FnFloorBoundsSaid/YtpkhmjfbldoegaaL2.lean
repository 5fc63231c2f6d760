/-
Four laws of whole parts.
-/
import Derived.Test.YtpkhmjfbldoegaaFe
import Derived.Test.YtpkhmjfbldoegaaFa
import Derived.Test.YtpkhmjfbldoegaaFo
namespace Go.Proofs.Ytpkhmjfbldoegaa
open Go.RowKit Fl

theorem flW_lt {x : Nat} (hx : x < 2 * G) : flW x < 2 * G := by
  cases h : finB x
  · unfold flW; rw [h]; exact hx
  · obtain ⟨s, r, hr, rfl⟩ := fin_of hx h
    rw [flW_fin s hr]
    have h1 := fl_lt s hr
    have h2 := G_eq
    unfold W; split <;> omega

theorem alike_self (a : Nat) : alikeB a a = true := by unfold alikeB; rw [decide_eq_true rfl]; rfl

/-! ### The opposite of the one is the other of the opposite -/

set_option maxHeartbeats 1000000 in
theorem floorCeil_walk (x : Nat) (hx : x < 2 * G) (w : World) :
    Calls Try.prog 9 #[.int .u64 x] w fun e w' => e = .returned (.bool true) ∧ Ok w w' := by
  have K := Ok.refl w
  have o1 := opp_lt hx
  have o2 := opp_lt (flW_lt hx)
  have hh : 4602678819172646912 < 2 * G := by decide
  have A := alike_self (opp (flW x))
  have C1 := hid (implCeil (opp x) o1)
  rw [opp_opp] at C1
  have C2 := hid (implCeil 4602678819172646912 hh)
  rw [half_facts.2] at C2
  have h1 : (FloatKind.f64.format.order 4607182418800017408 4607182418800017408 == some .eq) = true := by decide
  go_enter Try.func9, Try.ntmps9
  go_wp2_with (first
    | (go_at_call 31; have t := o1; clear o1; refine (C1.out _).mono ?_; rintro e w1 ⟨rfl, ok⟩; replace K := K.trans ok.ok)
    | (go_at_call 31; refine (C2.out _).mono ?_; rintro e w1 ⟨rfl, ok⟩; replace K := K.trans ok.ok)
    | (go_at_call 29; refine (implFloor _ (by assumption) _).mono ?_; rintro e w1 ⟨rfl, ok⟩; replace K := K.trans ok.ok)
    | (go_at_call 28; refine (alike_any _ _ (by assumption) (by assumption) _).mono ?_; rintro e w1 ⟨rfl, ok⟩; replace K := K.trans ok))
  go_ret
  exact ⟨rfl, K⟩

theorem law_FnFloorCeil (a0 : Int) (w0 : (Lit.int .u64 a0).wf = true) (w : World) :
    Calls Try.prog 9 #[.int .u64 a0] w fun e w' => e = .returned (.bool true) ∧ Grown w w' := by
  obtain ⟨x, rfl, hx⟩ := u64_nat w0
  exact (floorCeil_walk x hx w).mono fun e w' h => ⟨h.1, h.2.grown⟩

/-! ### Of two floats the one that is not greater has no greater whole numbers around it -/

/-- Less or equal. -/
def leB (a b : Nat) : Bool := (FloatKind.f64.format.order a b == some .lt) || (FloatKind.f64.format.order a b == some .eq)

theorem leB_num {s t : Bool} {r u : Nat} (hr : r ≤ I) (hu : u ≤ I) : leB (W s r) (W t u) = decide (sv s r ≤ sv t u) := by
  unfold leB
  rw [lt_le hr hu, eq_le hr hu]
  by_cases h : sv s r ≤ sv t u
  · rw [decide_eq_true h]
    by_cases h2 : sv s r < sv t u
    · rw [decide_eq_true h2]; rfl
    · rw [decide_eq_true (show sv s r = sv t u by omega)]; simp
  · rw [decide_eq_false h, decide_eq_false (by omega), decide_eq_false (by omega)]; rfl

theorem leB_nan {a b : Nat} (h : leB a b = true) : nanB a = false ∧ nanB b = false := by
  constructor
  · cases hn : nanB a
    · rfl
    · have : FloatKind.f64.format.order a b = none := order_nan_left hn
      unfold leB at h; rw [this] at h; cases h
  · cases hn : nanB b
    · rfl
    · have : FloatKind.f64.format.order a b = none := order_nan_right hn
      unfold leB at h; rw [this] at h; cases h

/-- What floor hands back of a number: a sign and a rung. -/
theorem flW_num (s : Bool) {r : Nat} (h : r ≤ I) : ∃ q, q ≤ I ∧ flW (W s r) = W s q ∧ (r < I → sv s q = sv s r / (U : Int) * (U : Int) ∧ q < I) ∧ (r = I → q = I) := by
  rcases Nat.lt_or_ge r I with h1 | h1
  · have := fl_lt s h1
    exact ⟨fl s r, by omega, flW_fin s h1, fun _ => ⟨sv_fl s h1, this⟩, fun e => by omega⟩
  · obtain rfl : r = I := by omega
    refine ⟨I, h, ?_, fun h => by omega, fun _ => rfl⟩
    have : finB (W s I) = false := by unfold finB infB; rw [read_inf]; simp [Ieee.Datum.isInfinity]
    unfold flW; rw [this]; rfl

theorem sv_I_ge {s t : Bool} {r : Nat} (hr : r ≤ I) (h : sv s I ≤ sv t r) : s = true ∨ (t = false ∧ r = I) := by
  cases s
  · right
    have h0 : 0 < val I := by rw [← val_zero]; exact val_lt (by decide)
    have := val_le hr
    cases t
    · refine ⟨rfl, ?_⟩
      unfold sv at h; simp only [Bool.false_eq_true, if_false] at h
      exact val_inj (by omega)
    · exfalso
      unfold sv at h; simp only [Bool.false_eq_true, if_false, if_true] at h; omega
  · exact Or.inl rfl

theorem floor_mono {a b : Nat} (ha : a < 2 * G) (hb : b < 2 * G) (h : leB a b = true) : leB (flW a) (flW b) = true := by
  obtain ⟨n1, n2⟩ := leB_nan h
  obtain ⟨s, r, hr, rfl⟩ := num_of ha n1
  obtain ⟨t, u, hu, rfl⟩ := num_of hb n2
  obtain ⟨q, hq, e1, f1, g1⟩ := flW_num s hr
  obtain ⟨p, hp, e2, f2, g2⟩ := flW_num t hu
  rw [leB_num hr hu] at h
  have h := of_decide_eq_true h
  rw [e1, e2, leB_num hq hp]
  apply decide_eq_true
  have vI : ∀ {k}, k ≤ I → val k ≤ val I := fun hk => val_le hk
  rcases Nat.lt_or_ge r I with hr' | hr'
  · rcases Nat.lt_or_ge u I with hu' | hu'
    · rw [(f1 hr').1, (f2 hu').1]
      have hU := U_pos
      exact Int.mul_le_mul_of_nonneg_right (Int.ediv_le_ediv (by omega) h) (by omega)
    · obtain rfl : u = I := by omega
      rw [g2 rfl]
      have h1 := vI hq
      have h2 := val_lt hr'
      cases t
      · unfold sv; cases s <;> simp <;> omega
      · exfalso; unfold sv at h; cases s <;> simp at h <;> omega
  · obtain rfl : r = I := by omega
    rw [g1 rfl]
    rcases sv_I_ge hu h with rfl | ⟨rfl, rfl⟩
    · have h1 := vI hp
      unfold sv; cases t <;> simp <;> omega
    · rw [g2 rfl]
      cases s
      · exact Int.le_refl _
      · unfold sv; simp <;> omega

theorem opp_le {a b : Nat} (ha : a < 2 * G) (hb : b < 2 * G) (h : leB a b = true) : leB (opp b) (opp a) = true := by
  obtain ⟨n1, n2⟩ := leB_nan h
  obtain ⟨s, r, hr, rfl⟩ := num_of ha n1
  obtain ⟨t, u, hu, rfl⟩ := num_of hb n2
  rw [leB_num hr hu] at h
  have h := of_decide_eq_true h
  rw [opp_num s hr, opp_num t hu, leB_num hu hr, sv_not, sv_not]
  exact decide_eq_true (by omega)

theorem ceil_mono {a b : Nat} (ha : a < 2 * G) (hb : b < 2 * G) (h : leB a b = true) : leB (opp (flW (opp a))) (opp (flW (opp b))) = true :=
  opp_le (flW_lt (opp_lt hb)) (flW_lt (opp_lt ha)) (floor_mono (opp_lt hb) (opp_lt ha) (opp_le ha hb h))

/-- a > b is b < a. -/
theorem gt_flip {a b : Nat} (ha : a < 2 * G) (hb : b < 2 * G) (h : (FloatKind.f64.format.order a b == some .gt) = true) : leB b a = true := by
  have n1 : nanB a = false := by
    cases hn : nanB a
    · rfl
    · have : FloatKind.f64.format.order a b = none := order_nan_left hn
      rw [this] at h; cases h
  have n2 : nanB b = false := by
    cases hn : nanB b
    · rfl
    · have : FloatKind.f64.format.order a b = none := order_nan_right hn
      rw [this] at h; cases h
  obtain ⟨s, r, hr, rfl⟩ := num_of ha n1
  obtain ⟨t, u, hu, rfl⟩ := num_of hb n2
  rw [gt_le hr hu] at h
  have h := of_decide_eq_true h
  rw [leB_num hu hr]
  exact decide_eq_true (by omega)

set_option maxHeartbeats 4000000 in
theorem mono_walk (x y : Nat) (hx : x < 2 * G) (hy : y < 2 * G) (w : World) :
    Calls Try.prog 10 #[.int .u64 x, .int .u64 y] w fun e w' => e = .returned (.bool true) ∧ Ok w w' := by
  have K := Ok.refl w
  have tok : True := trivial
  have tok2 : True := trivial
  have hh : 4602678819172646912 < 2 * G := by decide
  have F2 := hid (implFloor 4602678819172646912 hh)
  rw [half_facts.1] at F2
  have C2 := hid (implCeil 4602678819172646912 hh)
  rw [half_facts.2] at C2
  clear hh
  have h1 : (FloatKind.f64.format.order 4607182418800017408 4607182418800017408 == some .eq) = true := by decide
  have h2 : (FloatKind.f64.format.order 0 0 == some .eq) = true := by decide
  cases hgt : (FloatKind.f64.format.order x y == some .gt)
  · cases hle : leB x y
    · unfold leB at hle
      go_enter Try.func10, Try.ntmps10
      go_wp2_with (first
        | (go_at_call 29; have t := tok; clear tok; refine (F2.out _).mono ?_; rintro e w1 ⟨rfl, ok⟩; replace K := K.trans ok.ok)
        | (go_at_call 31; have t := tok2; clear tok2; refine (C2.out _).mono ?_; rintro e w1 ⟨rfl, ok⟩; replace K := K.trans ok.ok)
        | (go_at_call 29; refine (implFloor _ (by assumption) _).mono ?_; rintro e w1 ⟨rfl, ok⟩; replace K := K.trans ok.ok)
        | (go_at_call 31; refine (implCeil _ (by assumption) _).mono ?_; rintro e w1 ⟨rfl, ok⟩; replace K := K.trans ok.ok))
      go_ret
      exact ⟨rfl, K⟩
    · have h3 := floor_mono hx hy hle
      have h4 := ceil_mono hx hy hle
      unfold leB at hle h3 h4
      go_enter Try.func10, Try.ntmps10
      go_wp2_with (first
        | (go_at_call 29; have t := tok; clear tok; refine (F2.out _).mono ?_; rintro e w1 ⟨rfl, ok⟩; replace K := K.trans ok.ok)
        | (go_at_call 31; have t := tok2; clear tok2; refine (C2.out _).mono ?_; rintro e w1 ⟨rfl, ok⟩; replace K := K.trans ok.ok)
        | (go_at_call 29; refine (implFloor _ (by assumption) _).mono ?_; rintro e w1 ⟨rfl, ok⟩; replace K := K.trans ok.ok)
        | (go_at_call 31; refine (implCeil _ (by assumption) _).mono ?_; rintro e w1 ⟨rfl, ok⟩; replace K := K.trans ok.ok))
      go_ret
      exact ⟨rfl, K⟩
  · have hle := gt_flip hx hy hgt
    have h3 := floor_mono hy hx hle
    have h4 := ceil_mono hy hx hle
    unfold leB at hle h3 h4
    go_enter Try.func10, Try.ntmps10
    go_wp2_with (first
      | (go_at_call 29; have t := tok; clear tok; refine (F2.out _).mono ?_; rintro e w1 ⟨rfl, ok⟩; replace K := K.trans ok.ok)
      | (go_at_call 31; have t := tok2; clear tok2; refine (C2.out _).mono ?_; rintro e w1 ⟨rfl, ok⟩; replace K := K.trans ok.ok)
      | (go_at_call 29; refine (implFloor _ (by assumption) _).mono ?_; rintro e w1 ⟨rfl, ok⟩; replace K := K.trans ok.ok)
      | (go_at_call 31; refine (implCeil _ (by assumption) _).mono ?_; rintro e w1 ⟨rfl, ok⟩; replace K := K.trans ok.ok))
    go_ret
    exact ⟨rfl, K⟩

theorem law_FnFloorMonotone (a0 a1 : Int) (w0 : (Lit.int .u64 a0).wf = true) (w1 : (Lit.int .u64 a1).wf = true) (w : World) :
    Calls Try.prog 10 #[.int .u64 a0, .int .u64 a1] w fun e w' => e = .returned (.bool true) ∧ Grown w w' := by
  obtain ⟨x, rfl, hx⟩ := u64_nat w0
  obtain ⟨y, rfl, hy⟩ := u64_nat w1
  exact (mono_walk x y hx hy w).mono fun e w' h => ⟨h.1, h.2.grown⟩

end Go.Proofs.Ytpkhmjfbldoegaa

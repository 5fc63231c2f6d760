/-
Natural numbers as slices of digits to the base 2 to the power of 32: reading them.
-/
import Derived.Test.YtpkhmjfbldoegaaFs
import Derived.Outline
namespace Go.Proofs.Ytpkhmjfbldoegaa
open Go.RowKit Fl

/-- Below what was there nothing has turned. -/
def Bl (w w' : World) : Prop := Below w.heap.size w w'
theorem Bl.refl (w : World) : Bl w w := Below.refl _ _
theorem Bl.trans {a b c : World} (h : Bl a b) (k : Bl b c) : Bl a c := Below.trans h (Below.mono k h.size)
theorem Ok.bl {a b : World} (h : Ok a b) : Bl a b := h.below
theorem Bl.cell {a b : World} (h : Bl a b) {p : Addr} {v : Value} (hc : a.cell? p = some v) : b.cell? p = some v := by
  have hp : p.block < a.heap.size := by
    unfold World.cell? at hc
    split at hc
    · rename_i hb
      exact (Array.getElem?_eq_some_iff.1 hb).1
    · simp at hc
  have := Below.cell h hp
  rw [this, hc]
theorem Bl.alloc {a b : World} (h : Bl a b) (o : Obj) : Bl a (b.alloc o) := Below.alloc h h.size o
theorem Bl.drew {a b : World} (h : Bl a b) : Bl a b.drew := Below.drew h

/-- At A lie these digits. -/
def Rd (w : World) (A : Option Addr) (ds : List Nat) : Prop :=
  0 < ds.length → ∃ b o, A = some ⟨b, o, none⟩ ∧ ∀ i, i < ds.length → w.cell? ⟨b, o + i, none⟩ = some (.int .u32 ((ds.getD i 0 : Nat) : Int))

theorem Rd.bl {w w' : World} {A : Option Addr} {ds : List Nat} (h : Rd w A ds) (k : Bl w w') : Rd w' A ds := by
  intro hp
  obtain ⟨b, o, e, hc⟩ := h hp
  exact ⟨b, o, e, fun i hi => k.cell (hc i hi)⟩
theorem Rd.nil (w : World) (A : Option Addr) : Rd w A [] := fun h => absurd h (by simp)
theorem Rd.take {w : World} {A : Option Addr} {ds : List Nat} (h : Rd w A ds) (k : Nat) : Rd w A (ds.take k) := by
  intro hp
  rw [List.length_take] at hp
  obtain ⟨b, o, e, hc⟩ := h (by omega)
  refine ⟨b, o, e, fun i hi => ?_⟩
  rw [List.length_take] at hi
  rw [hc i (by omega)]
  simp only [List.getD_eq_getElem?_getD, List.getElem?_take_of_lt (show i < k by omega)]

/-- Each digit is one. -/
def Dg (ds : List Nat) : Prop := ∀ d ∈ ds, d < 4294967296
/-- The digit at a place, 0 behind the end. -/
def dgt (ds : List Nat) (i : Nat) : Nat := ds.getD i 0

theorem Dg.take {ds : List Nat} (h : Dg ds) (k : Nat) : Dg (ds.take k) := fun d hd => h d (List.mem_of_mem_take hd)
theorem dgt_lt {ds : List Nat} (h : Dg ds) (i : Nat) : dgt ds i < 4294967296 := by
  unfold dgt
  rw [List.getD_eq_getElem?_getD]
  cases hi : ds[i]? with
  | none => simp
  | some d => exact h d (List.mem_of_getElem? hi)
theorem dgt_out {ds : List Nat} {i : Nat} (h : ds.length ≤ i) : dgt ds i = 0 := by
  unfold dgt
  rw [List.getD_eq_getElem?_getD, List.getElem?_eq_none h]; rfl
theorem dgt_take {ds : List Nat} {i k : Nat} (h : i < k) : dgt (ds.take k) i = dgt ds i := by
  unfold dgt
  simp only [List.getD_eq_getElem?_getD, List.getElem?_take_of_lt h]
theorem dgt_take_out {ds : List Nat} {i k : Nat} (h : k ≤ i) : dgt (ds.take k) i = 0 := dgt_out (by rw [List.length_take]; omega)
theorem dgt_snoc {ds : List Nat} {d i : Nat} : dgt (ds ++ [d]) i = if i < ds.length then dgt ds i else if i = ds.length then d else 0 := by
  unfold dgt
  simp only [List.getD_eq_getElem?_getD]
  by_cases h : i < ds.length
  · rw [if_pos h, List.getElem?_append_left h]
  · rw [if_neg h, List.getElem?_append_right (by omega)]
    by_cases h2 : i = ds.length
    · rw [if_pos h2, h2]; simp
    · rw [if_neg h2, List.getElem?_eq_none (by simp; omega)]; rfl

/-- The number of the first k digits. -/
def nvf (f : Nat → Nat) : Nat → Nat
  | 0 => 0
  | k + 1 => nvf f k + f k * 2 ^ (32 * k)
/-- The number of the digits. -/
def nv (ds : List Nat) : Nat := nvf (dgt ds) ds.length

theorem nvf_lt {f : Nat → Nat} (h : ∀ i, f i < 4294967296) (k : Nat) : nvf f k < 2 ^ (32 * k) := by
  induction k with
  | zero => show 0 < 1; omega
  | succ k ih =>
    show nvf f k + f k * 2 ^ (32 * k) < 2 ^ (32 * (k + 1))
    have e : (2 : Nat) ^ (32 * (k + 1)) = 4294967296 * 2 ^ (32 * k) := by
      have : 32 * (k + 1) = 32 + 32 * k := by omega
      rw [this, Nat.pow_add]
    have h2 : (f k + 1) * 2 ^ (32 * k) ≤ 4294967296 * 2 ^ (32 * k) := Nat.mul_le_mul_right _ (h k)
    rw [Nat.add_mul, Nat.one_mul] at h2
    omega
theorem nvf_congr {f g : Nat → Nat} {k : Nat} (h : ∀ i, i < k → f i = g i) : nvf f k = nvf g k := by
  induction k with
  | zero => rfl
  | succ k ih =>
    show nvf f k + f k * _ = nvf g k + g k * _
    rw [ih (fun i hi => h i (by omega)), h k (by omega)]
theorem nvf_more {f : Nat → Nat} {k : Nat} (h : ∀ i, k ≤ i → f i = 0) (n : Nat) (hn : k ≤ n) : nvf f n = nvf f k := by
  induction n with
  | zero => have : k = 0 := by omega
            rw [this]
  | succ n ih =>
    by_cases hk : k = n + 1
    · rw [hk]
    · show nvf f n + f n * _ = _
      rw [h n (by omega), ih (by omega)]; simp
theorem nv_eq {ds : List Nat} (n : Nat) (h : ds.length ≤ n) : nv ds = nvf (dgt ds) n := (nvf_more (fun _ hi => dgt_out hi) n h).symm
theorem nv_take {ds : List Nat} (k : Nat) : nv (ds.take k) = nvf (dgt ds) k := by
  rw [nv_eq k (by rw [List.length_take]; omega)]
  exact nvf_congr fun i hi => dgt_take hi
theorem nv_snoc (ds : List Nat) (d : Nat) : nv (ds ++ [d]) = nv ds + d * 2 ^ (32 * ds.length) := by
  unfold nv
  rw [List.length_append]
  show nvf _ ds.length + _ = _
  rw [nvf_congr (g := dgt ds) (fun i hi => by rw [dgt_snoc, if_pos hi]), dgt_snoc, if_neg (by omega), if_pos rfl]
theorem Dg.snoc {ds : List Nat} (h : Dg ds) {d : Nat} (hd : d < 4294967296) : Dg (ds ++ [d]) := by
  intro x hx
  rcases List.mem_append.1 hx with h1 | h1
  · exact h x h1
  · have : x = d := by simpa using h1
    omega

/-- Of two numbers whose digits from a place on are the same the lesser one has the lesser digit below. -/
theorem nvf_less {f g : Nat → Nat} (hf : ∀ i, f i < 4294967296) {k n : Nat} (hk : k < n) (he : ∀ i, k < i → i < n → f i = g i) (hl : f k < g k) : nvf f n < nvf g n := by
  induction n with
  | zero => omega
  | succ n ih =>
    show nvf f n + f n * _ < nvf g n + g n * _
    by_cases hkn : k = n
    · subst hkn
      have h1 := nvf_lt hf k
      have h2 : (f k + 1) * 2 ^ (32 * k) ≤ g k * 2 ^ (32 * k) := Nat.mul_le_mul_right _ hl
      rw [Nat.add_mul, Nat.one_mul] at h2
      omega
    · rw [he n (by omega) (by omega)]
      have := ih (by omega) (fun i h1 h2 => he i h1 (by omega))
      omega

set_option maxHeartbeats 1000000 in
theorem digit_any (A : Option Addr) (ds : List Nat) (c i : Nat) (hl : ds.length ≤ 64) (hi : i ≤ 1000) (hg : Dg ds) (w : World) (hr : Rd w A ds) :
    Calls Try.prog 70 #[.slice A ds.length c, .int .i64 i] w fun e w' => e = .returned (.int .u64 ((dgt ds i : Nat) : Int)) ∧ w = w' := by
  by_cases h : i < ds.length
  · obtain ⟨b, o, rfl, hc⟩ := hr (by omega)
    have hc' := hc i h
    have hd := dgt_lt hg i
    unfold dgt at hd
    clear hc hg
    show Calls _ _ _ _ fun e w' => e = .returned (.int .u64 ((ds.getD i 0 : Nat) : Int)) ∧ w = w'
    generalize ds.getD i 0 = d at *
    generalize ds.length = n at *
    go_enter Try.func70, Try.ntmps70
    go_wp2
    go_ret
    exact ⟨rfl, rfl⟩
  · rw [dgt_out (by omega)]
    generalize ds.length = n at *
    go_enter Try.func70, Try.ntmps70
    go_wp2
    go_ret
    exact ⟨rfl, rfl⟩

/-- How many elements a slice has. -/
def slen : Value → Nat | .slice _ n _ => n | _ => 0

/-- What trim hands back: the first k digits. -/
def Trimmed (A : Option Addr) (c : Nat) (ds : List Nat) (w : World) (e : Ending) (w' : World) : Prop :=
  ∃ k, k ≤ ds.length ∧ e = .returned (.slice A k c) ∧ (∀ i, k ≤ i → dgt ds i = 0) ∧ (0 < k → dgt ds (k - 1) ≠ 0) ∧ w = w'

set_option maxHeartbeats 2000000 in
theorem trim_any (A : Option Addr) (ds : List Nat) (c : Nat) (hl : ds.length ≤ 64) (hc64 : c ≤ maxLen) (hlc : ds.length ≤ c) (hg : Dg ds) (w : World) (hr : Rd w A ds) :
    Calls Try.prog 63 #[.slice A ds.length c] w (Trimmed A c ds w) := by
  unfold maxLen at hc64
  have h0 : ∀ i, ds.length ≤ i → dgt ds i = 0 := fun i hi => dgt_out hi
  have hH := hid h0
  clear h0
  go_enter Try.func63, Try.ntmps63
  go_wp2
  go_loop [0] (fun v => ∃ k : Nat, k ≤ ds.length ∧ v = .slice A k c ∧ Hid (∀ i, k ≤ i → dgt ds i = 0)) (fun v => slen v)
  case atStart => exact ⟨ds.length, Nat.le_refl _, rfl, hH⟩
  case round =>
    obtain ⟨k, hk, rfl, hz⟩ := hrel
    clear hH
    by_cases h : k = 0
    · subst h
      go_wp2
      go_ret
      exact ⟨0, by omega, rfl, hz.out, fun h => absurd h (by omega), rfl⟩
    · have hkp : 0 < k := by omega
      obtain ⟨b, o, rfl, hcell⟩ := hr (by omega)
      have hc' := hcell (k - 1) (by omega)
      have hd := dgt_lt hg (k - 1)
      clear hcell
      have e : dgt ds (k - 1) = ds.getD (k - 1) 0 := rfl
      rw [← e] at hc'
      clear e
      by_cases hzz : dgt ds (k - 1) = 0
      · have ht : (((dgt ds (k - 1) : Nat) : Int) == 0) = true := by rw [hzz]; rfl
        have hz2 : Hid (∀ i, k - 1 ≤ i → dgt ds i = 0) := hid (fun i hi => by
          by_cases h : i = k - 1
          · rw [h]; exact hzz
          · exact hz.out i (by omega))
        clear hz hzz h
        go_wp2
        go_round
        case rel => exact ⟨k - 1, by omega, rfl, hz2⟩
        case measure => simp [slen]; omega
      · have ht : (((dgt ds (k - 1) : Nat) : Int) == 0) = false := by simp; omega
        clear h
        have hzz2 := hid hzz
        clear hzz
        go_wp2
        go_ret
        exact ⟨k, hk, rfl, hz.out, fun _ => hzz2.out, rfl⟩

/-! ### Comparing -/

theorem ret_int {k : IntKind} {a b : Int} (h : a = b) : Ending.returned (.int k a) = .returned (.int k b) := by rw [h]

/-- -1, 0 or 1. -/
def cmpI (a b : Nat) : Int := if a < b then -1 else if b < a then 1 else 0

set_option maxHeartbeats 4000000 in
theorem cmp_any (A C : Option Addr) (xs ys : List Nat) (c1 c2 : Nat) (h1 : xs.length ≤ 64) (h2 : ys.length ≤ 64) (g1 : Dg xs) (g2 : Dg ys) (w : World) (r1 : Rd w A xs) (r2 : Rd w C ys) :
    Calls Try.prog 61 #[.slice A xs.length c1, .slice C ys.length c2] w fun e w' => e = .returned (.int .i64 (cmpI (nv xs) (nv ys))) ∧ w = w' := by
  have X := hid (fun i (hi : i ≤ 1000) => digit_any A xs c1 i h1 hi g1 w r1)
  have Y := hid (fun i (hi : i ≤ 1000) => digit_any C ys c2 i h2 hi g2 w r2)
  have hx : nv xs = nvf (dgt xs) (max xs.length ys.length) := nv_eq _ (by omega)
  have hy : nv ys = nvf (dgt ys) (max xs.length ys.length) := nv_eq _ (by omega)
  have HX := hid hx
  have HY := hid hy
  clear hx hy
  generalize hn : xs.length = n at *
  generalize hm : ys.length = m at *
  clear hn hm r1 r2
  obtain ⟨M, hM⟩ : ∃ M, M = max n m := ⟨_, rfl⟩
  rw [← hM] at HX HY
  have hM64 : M ≤ 64 := by omega
  have hcase : (n < m ∧ M = m) ∨ (¬ n < m ∧ M = n) := by omega
  clear hM
  rcases hcase with ⟨hnm, hMe⟩ | ⟨hnm, hMe⟩
  all_goals
    subst hMe
    go_enter Try.func61, Try.ntmps61
    go_wp2
    go_loop [5] (fun i => ∃ (k : Nat) (z : Int), k ≤ M ∧ Hid (z = (k : Int) - 1) ∧ i = .int .i64 z ∧ Hid (∀ j, k ≤ j → j < M → dgt xs j = dgt ys j)) (fun i => (intOf i + 1).toNat)
    case atStart => exact ⟨M, _, Nat.le_refl _, hid rfl, rfl, hid (fun j a b => by omega)⟩
    case round =>
      obtain ⟨k, z, hk, hz, rfl, he⟩ := hrel
      by_cases hk0 : k = 0
      · obtain rfl : z = -1 := by have := hz.out; omega
        have e1 : cmpI (nv xs) (nv ys) = 0 := by
          have e : nv xs = nv ys := by
            rw [HX.out, HY.out]
            exact nvf_congr fun i hi => he.out i (by omega) hi
          unfold cmpI
          rw [e, if_neg (by omega), if_neg (by omega)]
        have e2 := hid e1
        clear hz hk0 e1
        go_wp2_with fail
        go_ret
        exact ⟨ret_int e2.out.symm, rfl⟩
      · obtain ⟨q, rfl⟩ : ∃ q, k = q + 1 := ⟨k - 1, by omega⟩
        obtain rfl : z = q := by have := hz.out; omega
        have X' := hid (X.out q (by omega))
        have Y' := hid (Y.out q (by omega))
        clear hk0 hz
        have tok : True := trivial
        rcases Nat.lt_trichotomy (dgt xs q) (dgt ys q) with h | h | h
        · have hcmp : cmpI (nv xs) (nv ys) = -1 := by
            have hl : nv xs < nv ys := by
              rw [HX.out, HY.out]
              exact nvf_less (dgt_lt g1) (by omega) (fun i a b => he.out i (by omega) b) h
            unfold cmpI; rw [if_pos hl]
          have e2 := hid hcmp
          clear hcmp
          generalize dgt xs q = dx at *
          generalize dgt ys q = dy at *
          go_wp2_with (first
            | (go_at_call 70; have t := tok; clear tok; refine X'.out.mono ?_; rintro e w1 ⟨rfl, rfl⟩)
            | (go_at_call 70; refine Y'.out.mono ?_; rintro e w1 ⟨rfl, rfl⟩))
          go_ret
          exact ⟨ret_int e2.out.symm, rfl⟩
        · have he' := hid (fun j (a : q ≤ j) (b : j < M) => show dgt xs j = dgt ys j from by
            by_cases hj : j = q
            · rw [hj]; exact h
            · exact he.out j (by omega) b)
          rw [h] at X'
          clear he h
          generalize dgt ys q = dy at X' Y'
          go_wp2_with (first
            | (go_at_call 70; have t := tok; clear tok; refine X'.out.mono ?_; rintro e w1 ⟨rfl, rfl⟩)
            | (go_at_call 70; refine Y'.out.mono ?_; rintro e w1 ⟨rfl, rfl⟩))
          go_round
          case rel => exact ⟨q, _, by omega, hid rfl, rfl, he'⟩
          case measure => simp [intOf]
        · have hcmp : cmpI (nv xs) (nv ys) = 1 := by
            have hl : nv ys < nv xs := by
              rw [HX.out, HY.out]
              exact nvf_less (dgt_lt g2) (by omega) (fun i a b => (he.out i (by omega) b).symm) h
            unfold cmpI; rw [if_neg (by omega), if_pos hl]
          have e2 := hid hcmp
          clear hcmp
          generalize dgt xs q = dx at *
          generalize dgt ys q = dy at *
          go_wp2_with (first
            | (go_at_call 70; have t := tok; clear tok; refine X'.out.mono ?_; rintro e w1 ⟨rfl, rfl⟩)
            | (go_at_call 70; refine Y'.out.mono ?_; rintro e w1 ⟨rfl, rfl⟩))
          go_ret
          exact ⟨ret_int e2.out.symm, rfl⟩

end Go.Proofs.Ytpkhmjfbldoegaa

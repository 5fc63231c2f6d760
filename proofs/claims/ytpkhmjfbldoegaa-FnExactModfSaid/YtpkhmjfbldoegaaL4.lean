/-
Three laws of whole parts: what the package hands back is what the reference hands back.
-/
import Derived.Test.YtpkhmjfbldoegaaNz
import Derived.Test.YtpkhmjfbldoegaaFe
import Derived.Test.YtpkhmjfbldoegaaFa
import Derived.ChangeSame
namespace Go.Proofs.Ytpkhmjfbldoegaa
open Go.RowKit Fl

/-- A call of numbers alone that leaves what lay below the world's end: what the book asks of it. -/
theorem post_bl {H : Type} {enc : TypeId × Value → H} {P : Program} {f : Func} {s : ChangeSpec} {apart fresh handsOn again : Bool} {W W' : World} {args : Array Value} {v : Value} {ds gs : List (DataW H)}
    (hW : DataW.Whole enc P f.params.toList s.vars apart W args.toList ds gs [])
    (hres : ∀ (b : Nat) (sp : Nat → Bool) (hd : Bool), DataW.TrodAll enc P W' b sp hd f.resultTypes.toList (v.resultList f.resultTypes.size) (s.fn H (ds ++ gs)).results [])
    (hargs : ∀ sp : Nat → Bool, True → DataW.TrodAll enc P W' 0 sp true f.params.toList args.toList (s.fn H (ds ++ gs)).args [])
    (hvars : ∀ sp : Nat → Bool, True → DataW.TrodVars enc P W' sp s.vars (s.fn H (ds ++ gs)).vars [])
    (hb : Below W.heap.size W W')
    (hok : ∀ (j : Nat) (t : TypeId) (r : Value), f.resultTypes[j]? = some t → (v.resultList f.resultTypes.size)[j]? = some r → Value.okWide P W' .any 0 t r) :
    s.post enc P f apart fresh handsOn again W args v W' :=
  ⟨ds, gs, [], [], [], [], hW, hres _ _ _, hargs _ trivial, hvars _ trivial, hb.frame _, fun _ =>
    ⟨hok, _, _, [], ⟨[], [], ChangeShapes.trodAll_append (hargs _ trivial) (hres _ _ _), hvars _ trivial, rfl, fun _ _ h => by simp at h, fun _ => List.nodup_nil⟩, fun _ h => by simp at h⟩⟩

theorem same_alike (a : Nat) : alikeB a a = true := by unfold alikeB; rw [decide_eq_true rfl]; rfl
theorem word_lt (s : Bool) {r : Nat} (h : r < I) : W s r < 2 * G := by have := G_eq; unfold W; split <;> omega
theorem floor_lt {x : Nat} (hx : x < 2 * G) : flW x < 2 * G := by
  cases h : finB x
  · unfold flW; rw [h]; exact hx
  · obtain ⟨s, r, hr, rfl⟩ := fin_of hx h
    rw [flW_fin s hr]
    exact word_lt s (fl_lt s hr)
theorem ceil_lt {x : Nat} (hx : x < 2 * G) : clW x < 2 * G := by
  cases h : finB x
  · unfold clW; rw [h]; exact hx
  · obtain ⟨s, r, hr, rfl⟩ := fin_of hx h
    rw [clW_fin s hr]
    exact word_lt s (fl_lt _ hr)
theorem ceil_eq {x : Nat} (hx : x < 2 * G) : opp (flW (opp x)) = clW x := by
  cases h : finB x
  · have h2 : finB (opp x) = false := by
      cases h2 : finB (opp x)
      · rfl
      · obtain ⟨s, r, hr, e⟩ := fin_of (opp_lt hx) h2
        have e2 : x = opp (W s r) := by rw [← e, opp_opp]
        rw [e2, opp_fin s hr, finB_fin (!s) hr] at h
        cases h
    have e1 : flW (opp x) = opp x := by unfold flW; rw [h2]; rfl
    have e2 : clW x = x := by unfold clW; rw [h]; rfl
    rw [e1, e2, opp_opp]
  · obtain ⟨s, r, hr, rfl⟩ := fin_of hx h
    rw [clW_fin s hr, opp_fin s hr, flW_fin (!s) hr, opp_fin (!s) (fl_lt _ hr), Bool.not_not]

set_option maxHeartbeats 1000000 in
theorem exactFloor_walk (x : Nat) (hx : x < 2 * G) (w : World) :
    Calls Try.prog 7 #[.int .u64 x] w fun e w' => e = .returned (.bool true) ∧ Bl w w' := by
  have K := hid (Bl.refl w)
  have hf := floor_lt hx
  have A := hid (alike_any (flW x) (flW x) hf hf)
  rw [same_alike] at A
  have C1 := hid (implFloor x hx)
  have C2 := hid (Floor_any x hx)
  generalize flW x = y at *
  go_enter Try.func7, Try.ntmps7
  go_wp2_with (first
    | (go_at_call 29; refine (C1.out _).mono ?_; rintro e w1 ⟨rfl, ok⟩; replace K := hid (K.out.trans ok.ok.bl); clear ok)
    | (go_at_call 30; refine (C2.out _).mono ?_; rintro e w1 ⟨rfl, ok⟩; replace K := hid (K.out.trans ok); clear ok)
    | (go_at_call 28; refine (A.out _).mono ?_; rintro e w1 ⟨rfl, ok⟩; replace K := hid (K.out.trans ok.bl); clear ok))
  go_ret
  exact ⟨rfl, K.out⟩

theorem law_FnExactFloor (a0 : Int) (w0 : (Lit.int .u64 a0).wf = true) (w : World) :
    Calls Try.prog 7 #[.int .u64 a0] w fun e w' => e = .returned (.bool true) ∧ Below w.heap.size w w' := by
  obtain ⟨x, rfl, hx⟩ := u64_nat w0
  exact exactFloor_walk x hx w

set_option maxHeartbeats 1000000 in
theorem exactCeil_walk (x : Nat) (hx : x < 2 * G) (w : World) :
    Calls Try.prog 8 #[.int .u64 x] w fun e w' => e = .returned (.bool true) ∧ Bl w w' := by
  have K := hid (Bl.refl w)
  have hf := ceil_lt hx
  have A := hid (alike_any (clW x) (clW x) hf hf)
  rw [same_alike] at A
  have C1 := hid (implCeil x hx)
  rw [ceil_eq hx] at C1
  have C2 := hid (Ceil_any x hx)
  generalize clW x = y at *
  go_enter Try.func8, Try.ntmps8
  go_wp2_with (first
    | (go_at_call 31; refine (C1.out _).mono ?_; rintro e w1 ⟨rfl, ok⟩; replace K := hid (K.out.trans ok.ok.bl); clear ok)
    | (go_at_call 32; refine (C2.out _).mono ?_; rintro e w1 ⟨rfl, ok⟩; replace K := hid (K.out.trans ok); clear ok)
    | (go_at_call 28; refine (A.out _).mono ?_; rintro e w1 ⟨rfl, ok⟩; replace K := hid (K.out.trans ok.bl); clear ok))
  go_ret
  exact ⟨rfl, K.out⟩

theorem law_FnExactCeil (a0 : Int) (w0 : (Lit.int .u64 a0).wf = true) (w : World) :
    Calls Try.prog 8 #[.int .u64 a0] w fun e w' => e = .returned (.bool true) ∧ Below w.heap.size w w' := by
  obtain ⟨x, rfl, hx⟩ := u64_nat w0
  exact exactCeil_walk x hx w

end Go.Proofs.Ytpkhmjfbldoegaa

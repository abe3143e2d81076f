import Derived.Test.Qxb6003716aUnit
import Derived.WalkKit
import Derived.ProofKit
import Derived.OpenShut
import Derived.ShutString
namespace Go.Proofs.Qxb6003716a.fnUnitIsTheLargestExactUnit
open Go.ChangeShapes Go.WideShapes Go.ChangeAt Go.RowKit
open Go.ChangeMaps (open_string shut_string)
set_option linter.unusedVariables false      -- a walk need not use every 'w<i>' (that an integer argument fits its kind)

theorem own : ownKnob Try.prog.godebug = none := by kernel_rfl

/-! ### STEP 1: THE WALK -/
set_option maxHeartbeats 1600000 in
theorem law_zero (w : World) :
    Calls Try.prog 5 #[.int .u32 0] w fun e w' => e = .returned (.bool true) ∧ Grown w w' := by
  go_enter Try.func5, Try.ntmps5
  go_wp2_with (go_at_call 13; refine (zz_zero _).mono ?_; rintro e w' ⟨rfl, hg⟩)
  go_ret
  exact ⟨rfl, hg⟩

set_option maxHeartbeats 1600000 in
theorem law_day (a : Int) (h0 : 0 < a) (h1 : a ≤ 4294967295) (hd : (a % 86400 == 0) = true) (w : World) :
    Calls Try.prog 5 #[.int .u32 a] w fun e w' => e = .returned (.bool true) ∧ Grown w w' := by
  have hn : (a == 0) = false := by simp; omega
  go_enter Try.func5, Try.ntmps5
  go_wp2_with (go_at_call 13; refine (zz_day a h0 h1 hd _).mono ?_; rintro e w' ⟨rfl, hg⟩)
  go_ret
  exact ⟨rfl, hg⟩

set_option maxHeartbeats 1600000 in
theorem law_hour (a : Int) (h0 : 0 < a) (h1 : a ≤ 4294967295) (hd : (a % 86400 == 0) = false) (hh : (a % 3600 == 0) = true) (w : World) :
    Calls Try.prog 5 #[.int .u32 a] w fun e w' => e = .returned (.bool true) ∧ Grown w w' := by
  have hn : (a == 0) = false := by simp; omega
  go_enter Try.func5, Try.ntmps5
  go_wp2_with (go_at_call 13; refine (zz_hour a h0 h1 hd hh _).mono ?_; rintro e w' ⟨rfl, hg⟩)
  go_ret
  exact ⟨rfl, hg⟩

set_option maxHeartbeats 1600000 in
theorem law_minute (a : Int) (h0 : 0 < a) (h1 : a ≤ 4294967295) (hd : (a % 86400 == 0) = false) (hh : (a % 3600 == 0) = false) (hm : (a % 60 == 0) = true) (w : World) :
    Calls Try.prog 5 #[.int .u32 a] w fun e w' => e = .returned (.bool true) ∧ Grown w w' := by
  have hn : (a == 0) = false := by simp; omega
  go_enter Try.func5, Try.ntmps5
  go_wp2_with (go_at_call 13; refine (zz_minute a h0 h1 hd hh hm _).mono ?_; rintro e w' ⟨rfl, hg⟩)
  go_ret
  exact ⟨rfl, hg⟩

set_option maxHeartbeats 1600000 in
theorem law_none (a : Int) (h0 : 0 < a) (h1 : a ≤ 4294967295) (hd : (a % 86400 == 0) = false) (hh : (a % 3600 == 0) = false) (hm : (a % 60 == 0) = false) (w : World) :
    Calls Try.prog 5 #[.int .u32 a] w fun e w' => e = .returned (.bool true) ∧ Grown w w' := by
  have hn : (a == 0) = false := by simp; omega
  go_enter Try.func5, Try.ntmps5
  go_wp2_with (go_at_call 13; refine (zz_none a h0 h1 hd hh hm _).mono ?_; rintro e w' ⟨rfl, hg⟩)
  go_ret
  exact ⟨rfl, hg⟩

theorem walk (a0 : Int) (w0 : (Lit.int .u32 a0).wf = true) (w : World) :
    Calls Try.prog 5 #[.int .u32 a0] w fun e w' => e = .returned (.bool true) ∧ Grown w w' := by
  obtain ⟨b0, b1⟩ := bounds_u32 w0
  by_cases hz : a0 = 0
  · subst hz; exact law_zero w
  · have h0 : 0 < a0 := by omega
    cases hd : a0 % 86400 == 0
    · cases hh : a0 % 3600 == 0
      · cases hm : a0 % 60 == 0
        · exact law_none a0 h0 b1 hd hh hm w
        · exact law_minute a0 h0 b1 hd hh hm w
      · exact law_hour a0 h0 b1 hd hh w
    · exact law_day a0 h0 b1 hd w

/-! ### THE ROW's STEP: WRITTEN OUT: LEAVE IT -/
set_option maxRecDepth 100000 in
theorem lifted (os : Os) (started : os.Started) (H : Type) (enc : TypeId × Value → H) :
    ReturnsInHanded {} Try.checked os 5 .any (Rows.fnUnitIsTheLargestExactUnitSpec.pre6 enc Try.prog Try.f5 Rows.fnUnitIsTheLargestExactUnitRow.domain false) (Rows.fnUnitIsTheLargestExactUnitSpec.post enc Try.prog Try.f5 false true false false) := by
  refine returnsInHanded_of_change (C := Try.checked) own started (by kernel_rfl) Try.func5
    (ChangeSpec.witness6 (enc := enc) (C := Try.checked) false ⟨#[], #[.int .u32 0], []⟩ 8 (by kernel_rfl) (by kernel_rfl) (by kernel_rfl) (by kernel_rfl)) ?_
  intro W base args ds gs before hval0 hW hcnd _
  have hval : ∀ (j : Nat) t v, Try.f5.params[j]? = some t → args[j]? = some v → Value.okWide Try.prog W .any base t v := hval0
  have hW' := hW
  obtain ⟨p, q, hA0, hV, rfl, hfz, hnd⟩ := hW
  have hA : DataW.TrodAll enc Try.prog W 0 (fun _ => true) true Try.f5.params.toList args.toList ds p := hA0
  rw [Try.params5] at hA hval
  obtain ⟨v0, vs0, d0, ds0, p0, q0, hargs, rfl, rfl, h0, r0⟩ := trodAll_cons hA
  obtain ⟨rfl, rfl, rfl⟩ := trodAll_nil r0
  obtain rfl : args = #[v0] := by cases args; simp_all
  obtain ⟨rfl, rfl⟩ := trodVars_none hV
  obtain ⟨a0, rfl, rfl, rfl, w0⟩ := open_int Try.underlying29 (hval 0 29 v0 rfl rfl) h0
  clear hA0 hval0
  simp only [List.append_nil] at hW'
  refine (walk a0 w0 W).mono fun e W' ⟨he, hg⟩ => ?_
  subst he
  exact ⟨_, rfl, post_of_same (pa := []) (pv := []) hW' (fun _ _ _ => (trodAll_cons_mk (shut_bool Try.underlying4 _) trodAll_mk0)) (fun sp _ => (trodAll_cons_mk (shut_int Try.underlying29 w0) trodAll_mk0)) (fun _ _ => rfl) rfl
    (hg.frame _) hg.2.1 (ok_one (by kernel_rfl) rfl (okWide_bool_mk Try.underlying4 _))⟩

theorem over : Rows.fnUnitIsTheLargestExactUnitRow.holds Try.pinned (OpenSpec.ofChange Rows.fnUnitIsTheLargestExactUnitSpec) :=
  OpenClaim.holds_of_wide 5 Try.f5 rfl rfl rfl rfl rfl rfl rfl ⟨rfl, rfl, rfl, rfl, rfl⟩ rfl rfl rfl rfl rfl (by kernel_rfl) Try.func5 (by kernel_rfl)
    (of_decide_eq_true (by kernel_rfl)) (by unfold Func.isWrapper; first | (rw [if_pos (by decide +kernel)]; kernel_rfl) | (rw [if_neg (by decide +kernel)]; exact ⟨rfl, rfl⟩))
    (fun os started H enc _ => lifted os started H enc)

/-- ████ THE STATEMENT ████ -/
theorem proved : Rows.FnUnitIsTheLargestExactUnitSaid :=
  over
end Go.Proofs.Qxb6003716a.fnUnitIsTheLargestExactUnit

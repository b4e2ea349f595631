/- Proved: with either zero beside them: the logarithms of 1, i, -1 and -i have a first part 0, and as second parts the zero, pi/2, pi with the sign of the zero, and -pi/2. No condition. -/
import Derived.Test.YtnfidnfokfgepaaRows
import Derived.Test.YtnfidnfokfgepaaMid
import Derived.Test.YtnfidnfokfgepaaHypotLaws
import Derived.Test.YtnfidnfokfgepaaPhaseLaws
import Derived.Test.YtnfidnfokfgepaaFrame
set_option linter.unusedSimpArgs false
set_option linter.unusedVariables false
namespace Go.Proofs.Ytnfidnfokfgepaa.fnLogOne
open Go.ChangeShapes Go.WideShapes Go.ChangeAt Go.RowKit F64

set_option maxRecDepth 100000 in
theorem walk_at (b : Bool) (z : Nat) (hz : (if b then fneg 0 else 0) = z) (w : World) (w0 : Wd z) (e1 : hypotW 4607182418800017408 z = 4607182418800017408) (e2 : hypotW z 4607182418800017408 = 4607182418800017408)
    (e3 : hypotW 13830554455654793216 z = 4607182418800017408) (e4 : hypotW z 13830554455654793216 = 4607182418800017408) (a1 : atan2W z 4607182418800017408 = z) (a2 : atan2W 4607182418800017408 z = 4609753056924675352)
    (a3 : atan2W z 13830554455654793216 = likeW 4614256656552045848 z) (a4 : atan2W 13830554455654793216 z = 13833125093779451160) (k : feq (likeW 4614256656552045848 z) (likeW 4614256656552045848 z) = true) :
    Calls Try.prog 3 #[.bool b] w fun e w' => e = .returned (.bool true) ∧ Grown w w' := by
  have w1 : Wd 4607182418800017408 := by unfold Wd; decide
  have w2 : Wd 13830554455654793216 := by unfold Wd; decide
  have w3 : Wd 4614256656552045848 := by unfold Wd; decide
  have hl : feq (logW 4607182418800017408) 0 = true := by decide +kernel
  have sz := same_self z
  have k1 : feq 4609753056924675352 4609753056924675352 = true := by decide +kernel
  have k2 : feq 13833125093779451160 13833125093779451160 = true := by decide +kernel
  cases b <;> simp only [Bool.false_eq_true, if_false, if_true] at hz <;> subst hz
  all_goals
    go_enter Try.func3, Try.ntmps3
    go_wp2_with (first | (go_at_call 16; refine (isNan_any _ _).mono ?_; rintro e w' ⟨rfl, rfl⟩) | (go_at_call 38; refine (infinity_any _).mono ?_; rintro e w' ⟨rfl, rfl⟩) | (go_at_call 36; refine (isInf_any _ _ (by assumption)).mono ?_; rintro e w' ⟨rfl, rfl⟩) | (go_at_call 33; refine (isFinite_any _ _ (by assumption)).mono ?_; rintro e w' ⟨rfl, rfl⟩) | (go_at_call 26; refine (minus_any _ _ (by assumption)).mono ?_; rintro e w' ⟨rfl, rfl⟩) | (go_at_call 17; refine (size_any _ _ (by assumption)).mono ?_; rintro e w' ⟨rfl, rfl⟩) | (go_at_call 15; refine (like_any _ _ _ (by assumption) (by assumption)).mono ?_; rintro e w' ⟨rfl, rfl⟩) | (go_at_call 14; refine (same_any _ _ _ (by assumption) (by assumption)).mono ?_; rintro e w' ⟨rfl, rfl⟩) | (go_at_call 27; refine (conj_any _ _ _).mono ?_; rintro e w' ⟨rfl, rfl⟩) | (go_at_call 25; refine (abs_any _ _ _).mono ?_; rintro e w' ⟨rfl, rfl⟩) | (go_at_call 56; refine (mAbs_any _ _ (by assumption)).mono ?_; rintro e w' ⟨rfl, rfl⟩) | (go_at_call 20; refine (polar_any _ _ _ (by assumption) (by assumption)).mono ?_; rintro e w' ⟨rfl, rfl⟩) | (go_at_call 22; refine (phase_any _ _ _ (by assumption) (by assumption)).mono ?_; rintro e w' ⟨rfl, rfl⟩) | (go_at_call 13; refine (log2_any _ _ _ (by assumption) (by assumption)).mono ?_; rintro e w' ⟨rfl, rfl⟩) | (go_at_call 18; refine (realLog_any _ _ (by assumption)).mono ?_; rintro e w' ⟨rfl, rfl⟩))
    go_ret
    exact ⟨rfl, Grown.refl _⟩
theorem walk (b : Bool) (w : World) :
    Calls Try.prog 3 #[.bool b] w fun e w' => e = .returned (.bool true) ∧ Grown w w' := by
  cases b
  · exact walk_at false 0 rfl w (by unfold Wd; decide) (by decide +kernel) (by decide +kernel) (by decide +kernel) (by decide +kernel) (by decide +kernel) (by decide +kernel) (by decide +kernel) (by decide +kernel) (by decide +kernel)
  · exact walk_at true (fneg 0) rfl w (by unfold Wd; decide) (by decide +kernel) (by decide +kernel) (by decide +kernel) (by decide +kernel) (by decide +kernel) (by decide +kernel) (by decide +kernel) (by decide +kernel) (by decide +kernel)

theorem own : ownKnob Try.prog.godebug = none := by kernel_rfl
set_option maxRecDepth 100000 in
theorem lifted (os : Os) (started : os.Started) (H : Type) (enc : TypeId × Value → H) :
    ReturnsInHanded {} Try.checked os 3 .any (Rows.fnLogOneSpec.pre6 enc Try.prog Try.f3 Rows.fnLogOneRow.domain false) (Rows.fnLogOneSpec.post enc Try.prog Try.f3 false true false false) := by
  refine returnsInHanded_of_change (C := Try.checked) own started (by kernel_rfl) Try.func3
    (ChangeSpec.witness6 (enc := enc) (C := Try.checked) false ⟨#[], #[.bool false], []⟩ 8 (by kernel_rfl) (by kernel_rfl) (by kernel_rfl) (by kernel_rfl)) ?_
  intro W base args ds gs before hval0 hW hcnd _
  have hval : ∀ (j : Nat) t v, Try.f3.params[j]? = some t → args[j]? = some v → Value.okWide Try.prog W .any base t v := hval0
  have hW' := hW
  obtain ⟨p, q, hA0, hV, rfl, hfz, hnd⟩ := hW
  have hA : DataW.TrodAll enc Try.prog W 0 (fun _ => true) true Try.f3.params.toList args.toList ds p := hA0
  rw [Try.params3] at hA hval
  obtain ⟨v0, vs0, d0, ds0, p0, q0, hargs, rfl, rfl, h0, r0⟩ := trodAll_cons hA
  obtain ⟨rfl, rfl, rfl⟩ := trodAll_nil r0
  obtain rfl : args = #[v0] := by cases args; simp_all
  obtain ⟨rfl, rfl⟩ := trodVars_none hV
  obtain ⟨a0, rfl, rfl, rfl⟩ := open_bool Try.underlying4 (hval 0 4 v0 rfl rfl) h0
  clear hA0 hval0
  simp only [List.append_nil] at hW'
  refine (walk a0  W).mono fun e W' ⟨he, hg⟩ => ?_
  subst he
  exact ⟨_, rfl, post_of_same (pa := []) (pv := []) hW' (fun _ _ _ => (trodAll_cons_mk (shut_bool Try.underlying4 _) trodAll_mk0)) (fun sp _ => (trodAll_cons_mk (shut_bool Try.underlying4 a0) trodAll_mk0)) (fun _ _ => rfl) rfl
    (hg.frame _) hg.2.1 (ok_one (by kernel_rfl) rfl (okWide_bool_mk Try.underlying4 _))⟩
theorem over : Rows.fnLogOneRow.holds Try.pinned (OpenSpec.ofChange Rows.fnLogOneSpec) :=
  OpenClaim.holds_of_wide 3 Try.f3 rfl rfl rfl rfl rfl rfl rfl ⟨rfl, rfl, rfl, rfl, rfl⟩ rfl rfl rfl rfl rfl (by kernel_rfl) Try.func3 (by kernel_rfl)
    (of_decide_eq_true (by kernel_rfl)) (by unfold Func.isWrapper; first | (rw [if_pos (by decide +kernel)]; kernel_rfl) | (rw [if_neg (by decide +kernel)]; exact ⟨rfl, rfl⟩))
    (fun os started H enc _ => lifted os started H enc)
/-- The given statement. -/
theorem proved : Rows.FnLogOneSaid := over
end Go.Proofs.Ytnfidnfokfgepaa.fnLogOne

/- Proved: for every two words: the conjugate of the conjugate is the number, the conjugate is infinite or no number just as the number is, and has its absolute value; its second part is 0 only where that of the number is. No condition. -/
import Derived.Test.YtojjlkmeicdeeaaRows
import Derived.Test.YtojjlkmeicdeeaaMid
import Derived.Test.YtojjlkmeicdeeaaHypotLaws
import Derived.Test.YtojjlkmeicdeeaaFrame
set_option linter.unusedSimpArgs false
set_option linter.unusedVariables false
namespace Go.Proofs.Ytojjlkmeicdeeaa.fnConjTwice
open Go.ChangeShapes Go.WideShapes Go.ChangeAt Go.RowKit F64

theorem walk (x y : Nat) (hx : Wd x) (hy : Wd y) (w : World) :
    Calls Try.prog 4 #[.float .f64 x, .float .f64 y] w fun e w' => e = .returned (.bool true) ∧ Grown w w' := by
  have hw := hypotW_wd x y
  have hny := fneg_wd hy
  have e1 := fneg_fneg hy
  have e2 : cIsInf x (fneg y) = cIsInf x y := by unfold cIsInf isInf; rw [fneg_rg hy]
  have e3 : cIsNaN x (fneg y) = cIsNaN x y := by unfold cIsNaN cIsInf isInf isNan; rw [fneg_rg hy]
  have e4 : hypotW x (fneg y) = hypotW x y := hypotW_congr rfl (fneg_rg hy)
  have e5 : feq (fneg y) 0 = feq y 0 := by rw [feq_zero, feq_zero, fneg_rg hy]
  have s1 := same_self x
  have s2 := same_self y
  have s3 := same_self (hypotW x y)
  cases h : feq y 0
  all_goals
    rw [h] at e5
    go_enter Try.func4, Try.ntmps4
    go_wp2_with (first | (go_at_call 19; refine (isNan_any _ _).mono ?_; rintro e w' ⟨rfl, rfl⟩) | (go_at_call 20; refine (infinity_any _).mono ?_; rintro e w' ⟨rfl, rfl⟩) | (go_at_call 35; refine (isInf_any _ _ (by assumption)).mono ?_; rintro e w' ⟨rfl, rfl⟩) | (go_at_call 17; refine (isFinite_any _ _ (by assumption)).mono ?_; rintro e w' ⟨rfl, rfl⟩) | (go_at_call 31; refine (minus_any _ _ (by assumption)).mono ?_; rintro e w' ⟨rfl, rfl⟩) | (go_at_call 26; refine (size_any _ _ (by assumption)).mono ?_; rintro e w' ⟨rfl, rfl⟩) | (go_at_call 32; refine (like_any _ _ _ (by assumption) (by assumption)).mono ?_; rintro e w' ⟨rfl, rfl⟩) | (go_at_call 22; refine (same_any _ _ _ (by assumption) (by assumption)).mono ?_; rintro e w' ⟨rfl, rfl⟩) | (go_at_call 21; refine (conj_any _ _ _).mono ?_; rintro e w' ⟨rfl, rfl⟩) | (go_at_call 15; refine (isInf2_any _ _ _ (by assumption) (by assumption)).mono ?_; rintro e w' ⟨rfl, rfl⟩) | (go_at_call 16; refine (isNaN2_any _ _ _ (by assumption) (by assumption)).mono ?_; rintro e w' ⟨rfl, rfl⟩) | (go_at_call 18; refine (abs_any _ _ _).mono ?_; rintro e w' ⟨rfl, rfl⟩) | (go_at_call 27; refine (realHypot_any _ _ _).mono ?_; rintro e w' ⟨rfl, rfl⟩) | (go_at_call 54; refine (mAbs_any _ _ (by assumption)).mono ?_; rintro e w' ⟨rfl, rfl⟩))
    go_ret
    exact ⟨rfl, Grown.refl _⟩

theorem own : ownKnob Try.prog.godebug = none := by kernel_rfl
set_option maxRecDepth 100000 in
theorem lifted (os : Os) (started : os.Started) (H : Type) (enc : TypeId × Value → H) :
    ReturnsInHanded {} Try.checked os 4 .any (Rows.fnConjTwiceSpec.pre6 enc Try.prog Try.f4 Rows.fnConjTwiceRow.domain false) (Rows.fnConjTwiceSpec.post enc Try.prog Try.f4 false true false false) := by
  refine returnsInHanded_of_change (C := Try.checked) own started (by kernel_rfl) Try.func4
    (ChangeSpec.witness6 (enc := enc) (C := Try.checked) false ⟨#[], #[.float .f64 0, .float .f64 0], []⟩ 8 (by kernel_rfl) (by kernel_rfl) (by kernel_rfl) (by kernel_rfl)) ?_
  intro W base args ds gs before hval0 hW hcnd _
  have hval : ∀ (j : Nat) t v, Try.f4.params[j]? = some t → args[j]? = some v → Value.okWide Try.prog W .any base t v := hval0
  have hW' := hW
  obtain ⟨p, q, hA0, hV, rfl, hfz, hnd⟩ := hW
  have hA : DataW.TrodAll enc Try.prog W 0 (fun _ => true) true Try.f4.params.toList args.toList ds p := hA0
  rw [Try.params4] at hA hval
  obtain ⟨v0, vs0, d0, ds0, p0, q0, hargs, rfl, rfl, h0, r0⟩ := trodAll_cons hA
  obtain ⟨v1, vs1, d1, ds1, p1, q1, rfl, rfl, rfl, h1, r1⟩ := trodAll_cons r0
  obtain ⟨rfl, rfl, rfl⟩ := trodAll_nil r1
  obtain rfl : args = #[v0, v1] := by cases args; simp_all
  obtain ⟨rfl, rfl⟩ := trodVars_none hV
  obtain ⟨a0, rfl, rfl, rfl, w0⟩ := open_float Try.underlying22 (hval 0 22 v0 rfl rfl) h0
  obtain ⟨a1, rfl, rfl, rfl, w1⟩ := open_float Try.underlying22 (hval 1 22 v1 rfl rfl) h1
  clear hA0 hval0
  simp only [List.append_nil] at hW'
  refine (walk a0 a1 (wd_of_wf w0) (wd_of_wf w1) W).mono fun e W' ⟨he, hg⟩ => ?_
  subst he
  exact ⟨_, rfl, post_of_same (pa := []) (pv := []) hW' (fun _ _ _ => (trodAll_cons_mk (shut_bool Try.underlying4 _) trodAll_mk0)) (fun sp _ => (trodAll_cons_mk (shut_float Try.underlying22 w0) (trodAll_cons_mk (shut_float Try.underlying22 w1) trodAll_mk0))) (fun _ _ => rfl) rfl
    (hg.frame _) hg.2.1 (ok_one (by kernel_rfl) rfl (okWide_bool_mk Try.underlying4 _))⟩
theorem over : Rows.fnConjTwiceRow.holds Try.pinned (OpenSpec.ofChange Rows.fnConjTwiceSpec) :=
  OpenClaim.holds_of_wide 4 Try.f4 rfl rfl rfl rfl rfl rfl rfl ⟨rfl, rfl, rfl, rfl, rfl⟩ rfl rfl rfl rfl rfl (by kernel_rfl) Try.func4 (by kernel_rfl)
    (of_decide_eq_true (by kernel_rfl)) (by unfold Func.isWrapper; first | (rw [if_pos (by decide +kernel)]; kernel_rfl) | (rw [if_neg (by decide +kernel)]; exact ⟨rfl, rfl⟩))
    (fun os started H enc _ => lifted os started H enc)
/-- The given statement. -/
theorem proved : Rows.FnConjTwiceSaid := over
end Go.Proofs.Ytojjlkmeicdeeaa.fnConjTwice

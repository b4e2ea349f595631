/- Proved: for every word that is no NaN and not 0, and either zero: the logarithm of its size with the zero beside it is the real one and the zero; that of its size with the sign changed is the same and pi with the sign of the zero. No condition. -/
import Derived.Test.YtnfidnfokfgepaaRows
import Derived.Test.YtnfidnfokfgepaaMid
import Derived.Test.YtnfidnfokfgepaaHypotLaws
import Derived.Test.YtnfidnfokfgepaaPhaseLaws
import Derived.Test.YtnfidnfokfgepaaFrame
set_option linter.unusedSimpArgs false
set_option linter.unusedVariables false
namespace Go.Proofs.Ytnfidnfokfgepaa.fnLogReal
open Go.ChangeShapes Go.WideShapes Go.ChangeAt Go.RowKit F64

theorem zero_facts (b : Bool) : rg (if b then fneg 0 else 0) = 0 ∧ Wd (if b then fneg 0 else 0) ∧ Num (if b then fneg 0 else 0) ∧ copyW 0 (if b then fneg 0 else 0) = (if b then fneg 0 else 0) ∧ copyW PI (if b then fneg 0 else 0) = likeW 4614256656552045848 (if b then fneg 0 else 0) := by
  cases b
  · exact ⟨by decide, by unfold Wd; decide, by unfold Num; decide, by decide, by decide⟩
  · exact ⟨by decide, by unfold Wd; decide, by unfold Num; decide, by decide, by decide⟩
theorem real_log {x z : Nat} (hx : Wd x) (nx : Num x) (x0 : rg x ≠ 0) (z0 : rg z = 0) (nz : Num z) (c0 : copyW 0 z = z) (c1 : copyW PI z = likeW 4614256656552045848 z) :
    Wd (sizeW x) ∧ hypotW (sizeW x) z = sizeW x ∧ hypotW (fneg (sizeW x)) z = sizeW x ∧ atan2W z (sizeW x) = z ∧ atan2W z (fneg (sizeW x)) = likeW 4614256656552045848 z := by
  have hs := sizeW_wd hx
  have e : sizeW x = rg x := sizeW_num hx nx
  have n1 : Num (rg x) := by unfold Num at *; rw [rg_rg]; exact nx
  have z1 : feq z 0 = true := by rw [feq_zero]; simpa using z0
  refine ⟨hs, ?_, ?_, ?_, ?_⟩
  · rw [hypotW_comm, e, hypotW_axis z0 n1, rg_rg]
  · rw [hypotW_comm, e, hypotW_axis z0 (fneg_num (rg_wd x) n1), fneg_rg (rg_wd x), rg_rg]
  · rw [e]
    unfold atan2W
    have g : fge (rg x) 0 = true := by rw [fge_val n1 num_zero, val_zero]; simpa using val_nonneg (sg_rg x)
    rw [isNan_false.2 nz, isNan_false.2 n1, z1, g, sg_rg]
    simpa using c0
  · rw [e]
    unfold atan2W
    have hs2 : sg (fneg (rg x)) = true := by rw [fneg_sg (rg_wd x), sg_rg]; rfl
    rw [isNan_false.2 nz, isNan_false.2 (fneg_num (rg_wd x) n1), z1, hs2]
    simpa using c1
set_option maxRecDepth 100000 in
theorem walk_at (x : Nat) (b : Bool) (z : Nat) (hz : (if b then fneg 0 else 0) = z) (hx : Wd x) (w : World) :
    Calls Try.prog 4 #[.float .f64 x, .bool b] w fun e w' => e = .returned (.bool true) ∧ Grown w w' := by
  obtain ⟨z0, wz, nz, c0, c1⟩ := zero_facts b
  rw [hz] at z0 wz nz c0 c1
  have w3 : Wd 4614256656552045848 := by unfold Wd; decide
  have HR := hidd (fun nx x0 => @real_log x z hx nx x0 z0 nz c0 c1)
  have wl : Wd (likeW 4614256656552045848 z) := likeW_wd w3
  have sz := same_self z
  have sl := same_self (likeW 4614256656552045848 z)
  clear z0 nz c0 c1
  cases h1 : isNan x
  · cases h2 : feq x 0
    · obtain ⟨ws, e1, e2, e3, e4⟩ := HR.out (isNan_false.1 h1) (by rw [feq_zero] at h2; simpa using h2)
      have ss := same_self (logW (sizeW x))
      have wll := logW_wd ws
      have wn := fneg_wd ws
      clear HR
      cases b <;> simp only [Bool.false_eq_true, if_false, if_true] at hz <;> subst hz
      all_goals
        go_enter Try.func4, Try.ntmps4
        go_wp2_with (first | (go_at_call 16; refine (isNan_any _ _).mono ?_; rintro e w' ⟨rfl, rfl⟩) | (go_at_call 38; refine (infinity_any _).mono ?_; rintro e w' ⟨rfl, rfl⟩) | (go_at_call 36; refine (isInf_any _ _ (by assumption)).mono ?_; rintro e w' ⟨rfl, rfl⟩) | (go_at_call 33; refine (isFinite_any _ _ (by assumption)).mono ?_; rintro e w' ⟨rfl, rfl⟩) | (go_at_call 26; refine (minus_any _ _ (by assumption)).mono ?_; rintro e w' ⟨rfl, rfl⟩) | (go_at_call 17; refine (size_any _ _ (by assumption)).mono ?_; rintro e w' ⟨rfl, rfl⟩) | (go_at_call 15; refine (like_any _ _ _ (by assumption) (by assumption)).mono ?_; rintro e w' ⟨rfl, rfl⟩) | (go_at_call 14; refine (same_any _ _ _ (by assumption) (by assumption)).mono ?_; rintro e w' ⟨rfl, rfl⟩) | (go_at_call 27; refine (conj_any _ _ _).mono ?_; rintro e w' ⟨rfl, rfl⟩) | (go_at_call 25; refine (abs_any _ _ _).mono ?_; rintro e w' ⟨rfl, rfl⟩) | (go_at_call 56; refine (mAbs_any _ _ (by assumption)).mono ?_; rintro e w' ⟨rfl, rfl⟩) | (go_at_call 20; refine (polar_any _ _ _ (by assumption) (by assumption)).mono ?_; rintro e w' ⟨rfl, rfl⟩) | (go_at_call 22; refine (phase_any _ _ _ (by assumption) (by assumption)).mono ?_; rintro e w' ⟨rfl, rfl⟩) | (go_at_call 13; refine (log2_any _ _ _ (by assumption) (by assumption)).mono ?_; rintro e w' ⟨rfl, rfl⟩) | (go_at_call 18; refine (realLog_any _ _ (by assumption)).mono ?_; rintro e w' ⟨rfl, rfl⟩))
        go_ret
        exact ⟨rfl, Grown.refl _⟩
    · clear HR sl sz wl
      go_enter Try.func4, Try.ntmps4
      go_wp2_with (first | (go_at_call 16; refine (isNan_any _ _).mono ?_; rintro e w' ⟨rfl, rfl⟩) | (go_at_call 38; refine (infinity_any _).mono ?_; rintro e w' ⟨rfl, rfl⟩) | (go_at_call 36; refine (isInf_any _ _ (by assumption)).mono ?_; rintro e w' ⟨rfl, rfl⟩) | (go_at_call 33; refine (isFinite_any _ _ (by assumption)).mono ?_; rintro e w' ⟨rfl, rfl⟩) | (go_at_call 26; refine (minus_any _ _ (by assumption)).mono ?_; rintro e w' ⟨rfl, rfl⟩) | (go_at_call 17; refine (size_any _ _ (by assumption)).mono ?_; rintro e w' ⟨rfl, rfl⟩) | (go_at_call 15; refine (like_any _ _ _ (by assumption) (by assumption)).mono ?_; rintro e w' ⟨rfl, rfl⟩) | (go_at_call 14; refine (same_any _ _ _ (by assumption) (by assumption)).mono ?_; rintro e w' ⟨rfl, rfl⟩) | (go_at_call 27; refine (conj_any _ _ _).mono ?_; rintro e w' ⟨rfl, rfl⟩) | (go_at_call 25; refine (abs_any _ _ _).mono ?_; rintro e w' ⟨rfl, rfl⟩) | (go_at_call 56; refine (mAbs_any _ _ (by assumption)).mono ?_; rintro e w' ⟨rfl, rfl⟩) | (go_at_call 20; refine (polar_any _ _ _ (by assumption) (by assumption)).mono ?_; rintro e w' ⟨rfl, rfl⟩) | (go_at_call 22; refine (phase_any _ _ _ (by assumption) (by assumption)).mono ?_; rintro e w' ⟨rfl, rfl⟩) | (go_at_call 13; refine (log2_any _ _ _ (by assumption) (by assumption)).mono ?_; rintro e w' ⟨rfl, rfl⟩) | (go_at_call 18; refine (realLog_any _ _ (by assumption)).mono ?_; rintro e w' ⟨rfl, rfl⟩))
      go_ret
      exact ⟨rfl, Grown.refl _⟩
  · clear HR sl sz wl
    go_enter Try.func4, Try.ntmps4
    go_wp2_with (first | (go_at_call 16; refine (isNan_any _ _).mono ?_; rintro e w' ⟨rfl, rfl⟩) | (go_at_call 38; refine (infinity_any _).mono ?_; rintro e w' ⟨rfl, rfl⟩) | (go_at_call 36; refine (isInf_any _ _ (by assumption)).mono ?_; rintro e w' ⟨rfl, rfl⟩) | (go_at_call 33; refine (isFinite_any _ _ (by assumption)).mono ?_; rintro e w' ⟨rfl, rfl⟩) | (go_at_call 26; refine (minus_any _ _ (by assumption)).mono ?_; rintro e w' ⟨rfl, rfl⟩) | (go_at_call 17; refine (size_any _ _ (by assumption)).mono ?_; rintro e w' ⟨rfl, rfl⟩) | (go_at_call 15; refine (like_any _ _ _ (by assumption) (by assumption)).mono ?_; rintro e w' ⟨rfl, rfl⟩) | (go_at_call 14; refine (same_any _ _ _ (by assumption) (by assumption)).mono ?_; rintro e w' ⟨rfl, rfl⟩) | (go_at_call 27; refine (conj_any _ _ _).mono ?_; rintro e w' ⟨rfl, rfl⟩) | (go_at_call 25; refine (abs_any _ _ _).mono ?_; rintro e w' ⟨rfl, rfl⟩) | (go_at_call 56; refine (mAbs_any _ _ (by assumption)).mono ?_; rintro e w' ⟨rfl, rfl⟩) | (go_at_call 20; refine (polar_any _ _ _ (by assumption) (by assumption)).mono ?_; rintro e w' ⟨rfl, rfl⟩) | (go_at_call 22; refine (phase_any _ _ _ (by assumption) (by assumption)).mono ?_; rintro e w' ⟨rfl, rfl⟩) | (go_at_call 13; refine (log2_any _ _ _ (by assumption) (by assumption)).mono ?_; rintro e w' ⟨rfl, rfl⟩) | (go_at_call 18; refine (realLog_any _ _ (by assumption)).mono ?_; rintro e w' ⟨rfl, rfl⟩))
    go_ret
    exact ⟨rfl, Grown.refl _⟩
theorem walk (x : Nat) (b : Bool) (hx : Wd x) (w : World) :
    Calls Try.prog 4 #[.float .f64 x, .bool b] w fun e w' => e = .returned (.bool true) ∧ Grown w w' := walk_at x b _ rfl hx w

theorem own : ownKnob Try.prog.godebug = none := by kernel_rfl
set_option maxRecDepth 100000 in
theorem lifted (os : Os) (started : os.Started) (H : Type) (enc : TypeId × Value → H) :
    ReturnsInHanded {} Try.checked os 4 .any (Rows.fnLogRealSpec.pre6 enc Try.prog Try.f4 Rows.fnLogRealRow.domain false) (Rows.fnLogRealSpec.post enc Try.prog Try.f4 false true false false) := by
  refine returnsInHanded_of_change (C := Try.checked) own started (by kernel_rfl) Try.func4
    (ChangeSpec.witness6 (enc := enc) (C := Try.checked) false ⟨#[], #[.float .f64 0, .bool false], []⟩ 8 (by kernel_rfl) (by kernel_rfl) (by kernel_rfl) (by kernel_rfl)) ?_
  intro W base args ds gs before hval0 hW hcnd _
  have hval : ∀ (j : Nat) t v, Try.f4.params[j]? = some t → args[j]? = some v → Value.okWide Try.prog W .any base t v := hval0
  have hW' := hW
  obtain ⟨p, q, hA0, hV, rfl, hfz, hnd⟩ := hW
  have hA : DataW.TrodAll enc Try.prog W 0 (fun _ => true) true Try.f4.params.toList args.toList ds p := hA0
  rw [Try.params4] at hA hval
  obtain ⟨v0, vs0, d0, ds0, p0, q0, hargs, rfl, rfl, h0, r0⟩ := trodAll_cons hA
  obtain ⟨v1, vs1, d1, ds1, p1, q1, rfl, rfl, rfl, h1, r1⟩ := trodAll_cons r0
  obtain ⟨rfl, rfl, rfl⟩ := trodAll_nil r1
  obtain rfl : args = #[v0, v1] := by cases args; simp_all
  obtain ⟨rfl, rfl⟩ := trodVars_none hV
  obtain ⟨a0, rfl, rfl, rfl, w0⟩ := open_float Try.underlying22 (hval 0 22 v0 rfl rfl) h0
  obtain ⟨a1, rfl, rfl, rfl⟩ := open_bool Try.underlying4 (hval 1 4 v1 rfl rfl) h1
  clear hA0 hval0
  simp only [List.append_nil] at hW'
  refine (walk a0 a1 (wd_of_wf w0) W).mono fun e W' ⟨he, hg⟩ => ?_
  subst he
  exact ⟨_, rfl, post_of_same (pa := []) (pv := []) hW' (fun _ _ _ => (trodAll_cons_mk (shut_bool Try.underlying4 _) trodAll_mk0)) (fun sp _ => (trodAll_cons_mk (shut_float Try.underlying22 w0) (trodAll_cons_mk (shut_bool Try.underlying4 a1) trodAll_mk0))) (fun _ _ => rfl) rfl
    (hg.frame _) hg.2.1 (ok_one (by kernel_rfl) rfl (okWide_bool_mk Try.underlying4 _))⟩
theorem over : Rows.fnLogRealRow.holds Try.pinned (OpenSpec.ofChange Rows.fnLogRealSpec) :=
  OpenClaim.holds_of_wide 4 Try.f4 rfl rfl rfl rfl rfl rfl rfl ⟨rfl, rfl, rfl, rfl, rfl⟩ rfl rfl rfl rfl rfl (by kernel_rfl) Try.func4 (by kernel_rfl)
    (of_decide_eq_true (by kernel_rfl)) (by unfold Func.isWrapper; first | (rw [if_pos (by decide +kernel)]; kernel_rfl) | (rw [if_neg (by decide +kernel)]; exact ⟨rfl, rfl⟩))
    (fun os started H enc _ => lifted os started H enc)
/-- The given statement. -/
theorem proved : Rows.FnLogRealSaid := over
end Go.Proofs.Ytnfidnfokfgepaa.fnLogReal

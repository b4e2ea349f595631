/- Proved: for every word, the root of what is no number or is below 0 is no number, that of a zero and of +Inf the word itself, and that of any other a finite number above 0. No condition. -/
import Derived.Test.YtnbcodpmglifdaaRows
import Derived.Test.YtnbcodpmglifdaaMid
import Derived.Test.YtnbcodpmglifdaaHypotLaws
import Derived.Test.YtnbcodpmglifdaaFrame
set_option linter.unusedSimpArgs false
set_option linter.unusedVariables false
namespace Go.Proofs.Ytnbcodpmglifdaa.fnRealSqrt
open Go.ChangeShapes Go.WideShapes Go.ChangeAt Go.RowKit F64

theorem sqrt_good {x r : Nat} (hx : Wd x) (h1 : isNan x = false) (h2 : flt x 0 = false) (h3 : feq x 0 = false) (h4 : isInf x = false) (hr : FRes (fsqrt x) r) :
    Wd r ∧ fgt r 0 = true ∧ isFin r = true := by
  have hn := isNan_false.1 h1
  rw [feq_zero] at h3
  rw [flt_zero] at h2
  unfold minus at h2
  rw [h1, h3] at h2
  simp at h2 h3
  unfold isInf at h4
  simp at h4
  obtain ⟨z, e, R⟩ := sqrt_rnd (x := x) (by unfold Fi Num at *; omega) h2 h3
  have e' : fsqrt x = some z := e
  rw [e'] at hr
  have : r = z := hr
  subst this
  refine ⟨R.wd, ?_, ?_⟩
  · rw [fgt_zero, R.sgn, isNan_false.2 R.fin.num]
    have hp := val_pos h2 h3
    have : rg r ≠ 0 := by
      intro h0
      have hz : val r = 0 := by rw [val_pos_word R.sgn, h0, rv_zero]
      have := R.errL
      rw [hz] at this
      have k : 0 < (1 - e52) * (1 - e52) := by unfold e52; decide +kernel
      have := Rat.mul_pos hp k
      grind
    simp [this]
  · have := R.fin
    unfold isFin; unfold Fi at this; simpa using this

theorem walk (x : Nat) (hx : Wd x) (w : World) :
    Calls Try.prog 8 #[.float .f64 x] w fun e w' => e = .returned (.bool true) ∧ Grown w w' := by
  cases h1 : isNan x
  · cases h2 : flt x 0
    · cases h3 : feq x 0
      · cases h4 : isInf x
        · have H := hidd (fun r => @sqrt_good x r hx h1 h2 h3 h4)
          go_enter Try.func8, Try.ntmps8
          go_wp2_with fail
          refine (realSqrt_any _ _).mono ?_
          rintro e w' ⟨r, hr, rfl, rfl⟩
          obtain ⟨hw, h5, h6⟩ := H.out r hr
          clear hr
          go_wp2_with (first | (go_at_call 19; refine (isNan_any _ _).mono ?_; rintro e w' ⟨rfl, rfl⟩) | (go_at_call 18; refine (infinity_any _).mono ?_; rintro e w' ⟨rfl, rfl⟩) | (go_at_call 21; refine (isInf_any _ _ (by assumption)).mono ?_; rintro e w' ⟨rfl, rfl⟩) | (go_at_call 25; refine (isFinite_any _ _ (by assumption)).mono ?_; rintro e w' ⟨rfl, rfl⟩) | (go_at_call 33; refine (minus_any _ _ (by assumption)).mono ?_; rintro e w' ⟨rfl, rfl⟩) | (go_at_call 26; refine (size_any _ _ (by assumption)).mono ?_; rintro e w' ⟨rfl, rfl⟩) | (go_at_call 16; refine (same_any _ _ _ (by assumption) (by assumption)).mono ?_; rintro e w' ⟨rfl, rfl⟩) | (go_at_call 15; refine (conj_any _ _ _).mono ?_; rintro e w' ⟨rfl, rfl⟩) | (go_at_call 17; refine (inf_any _).mono ?_; rintro e w' ⟨rfl, rfl⟩) | (go_at_call 23; refine (naN_any _).mono ?_; rintro e w' ⟨rfl, rfl⟩) | (go_at_call 20; refine (isInf2_any _ _ _ (by assumption) (by assumption)).mono ?_; rintro e w' ⟨rfl, rfl⟩) | (go_at_call 22; refine (isNaN2_any _ _ _ (by assumption) (by assumption)).mono ?_; rintro e w' ⟨rfl, rfl⟩) | (go_at_call 30; refine (abs_any _ _ _).mono ?_; rintro e w' ⟨rfl, rfl⟩) | (go_at_call 28; refine (realHypot_any _ _ _).mono ?_; rintro e w' ⟨rfl, rfl⟩) | (go_at_call 50; refine (mAbs_any _ _ (by assumption)).mono ?_; rintro e w' ⟨rfl, rfl⟩))
          go_ret
          exact ⟨rfl, grown_drewN _ _⟩
        · have hs : x = 9218868437227405312 := by
            rw [flt_zero] at h2; unfold minus at h2; rw [h1] at h2
            rw [feq_zero] at h3
            rw [h3] at h2
            simp at h2
            unfold isInf at h4; simp at h4
            exact wd_ext hx (by unfold Wd; decide) (by rw [h2]; decide) (by rw [h4]; decide)
          subst hs
          have h5 := sqrt_inf
          have h6 := same_self 9218868437227405312
          go_enter Try.func8, Try.ntmps8
          go_wp2_with fail
          refine (realSqrt_some h5 _).mono ?_
          rintro e w' ⟨rfl, rfl⟩
          go_wp2_with (first | (go_at_call 19; refine (isNan_any _ _).mono ?_; rintro e w' ⟨rfl, rfl⟩) | (go_at_call 18; refine (infinity_any _).mono ?_; rintro e w' ⟨rfl, rfl⟩) | (go_at_call 21; refine (isInf_any _ _ (by assumption)).mono ?_; rintro e w' ⟨rfl, rfl⟩) | (go_at_call 25; refine (isFinite_any _ _ (by assumption)).mono ?_; rintro e w' ⟨rfl, rfl⟩) | (go_at_call 33; refine (minus_any _ _ (by assumption)).mono ?_; rintro e w' ⟨rfl, rfl⟩) | (go_at_call 26; refine (size_any _ _ (by assumption)).mono ?_; rintro e w' ⟨rfl, rfl⟩) | (go_at_call 16; refine (same_any _ _ _ (by assumption) (by assumption)).mono ?_; rintro e w' ⟨rfl, rfl⟩) | (go_at_call 15; refine (conj_any _ _ _).mono ?_; rintro e w' ⟨rfl, rfl⟩) | (go_at_call 17; refine (inf_any _).mono ?_; rintro e w' ⟨rfl, rfl⟩) | (go_at_call 23; refine (naN_any _).mono ?_; rintro e w' ⟨rfl, rfl⟩) | (go_at_call 20; refine (isInf2_any _ _ _ (by assumption) (by assumption)).mono ?_; rintro e w' ⟨rfl, rfl⟩) | (go_at_call 22; refine (isNaN2_any _ _ _ (by assumption) (by assumption)).mono ?_; rintro e w' ⟨rfl, rfl⟩) | (go_at_call 30; refine (abs_any _ _ _).mono ?_; rintro e w' ⟨rfl, rfl⟩) | (go_at_call 28; refine (realHypot_any _ _ _).mono ?_; rintro e w' ⟨rfl, rfl⟩) | (go_at_call 50; refine (mAbs_any _ _ (by assumption)).mono ?_; rintro e w' ⟨rfl, rfl⟩))
          go_ret
          exact ⟨rfl, Grown.refl _⟩
      · have h5 := sqrt_zero hx (by simpa [feq_zero] using h3)
        have h6 := same_self x
        go_enter Try.func8, Try.ntmps8
        go_wp2_with fail
        refine (realSqrt_some h5 _).mono ?_
        rintro e w' ⟨rfl, rfl⟩
        go_wp2_with (first | (go_at_call 19; refine (isNan_any _ _).mono ?_; rintro e w' ⟨rfl, rfl⟩) | (go_at_call 18; refine (infinity_any _).mono ?_; rintro e w' ⟨rfl, rfl⟩) | (go_at_call 21; refine (isInf_any _ _ (by assumption)).mono ?_; rintro e w' ⟨rfl, rfl⟩) | (go_at_call 25; refine (isFinite_any _ _ (by assumption)).mono ?_; rintro e w' ⟨rfl, rfl⟩) | (go_at_call 33; refine (minus_any _ _ (by assumption)).mono ?_; rintro e w' ⟨rfl, rfl⟩) | (go_at_call 26; refine (size_any _ _ (by assumption)).mono ?_; rintro e w' ⟨rfl, rfl⟩) | (go_at_call 16; refine (same_any _ _ _ (by assumption) (by assumption)).mono ?_; rintro e w' ⟨rfl, rfl⟩) | (go_at_call 15; refine (conj_any _ _ _).mono ?_; rintro e w' ⟨rfl, rfl⟩) | (go_at_call 17; refine (inf_any _).mono ?_; rintro e w' ⟨rfl, rfl⟩) | (go_at_call 23; refine (naN_any _).mono ?_; rintro e w' ⟨rfl, rfl⟩) | (go_at_call 20; refine (isInf2_any _ _ _ (by assumption) (by assumption)).mono ?_; rintro e w' ⟨rfl, rfl⟩) | (go_at_call 22; refine (isNaN2_any _ _ _ (by assumption) (by assumption)).mono ?_; rintro e w' ⟨rfl, rfl⟩) | (go_at_call 30; refine (abs_any _ _ _).mono ?_; rintro e w' ⟨rfl, rfl⟩) | (go_at_call 28; refine (realHypot_any _ _ _).mono ?_; rintro e w' ⟨rfl, rfl⟩) | (go_at_call 50; refine (mAbs_any _ _ (by assumption)).mono ?_; rintro e w' ⟨rfl, rfl⟩))
        go_ret
        exact ⟨rfl, Grown.refl _⟩
    · have H := hidd (sqrt_neg h2)
      go_enter Try.func8, Try.ntmps8
      go_wp2_with fail
      refine (realSqrt_any _ _).mono ?_
      rintro e w' ⟨r, hr, rfl, rfl⟩
      have h5 : isNan r = true := by rw [H.out] at hr; exact isNan_iff.2 hr.1
      clear hr
      go_wp2_with (first | (go_at_call 19; refine (isNan_any _ _).mono ?_; rintro e w' ⟨rfl, rfl⟩) | (go_at_call 18; refine (infinity_any _).mono ?_; rintro e w' ⟨rfl, rfl⟩) | (go_at_call 21; refine (isInf_any _ _ (by assumption)).mono ?_; rintro e w' ⟨rfl, rfl⟩) | (go_at_call 25; refine (isFinite_any _ _ (by assumption)).mono ?_; rintro e w' ⟨rfl, rfl⟩) | (go_at_call 33; refine (minus_any _ _ (by assumption)).mono ?_; rintro e w' ⟨rfl, rfl⟩) | (go_at_call 26; refine (size_any _ _ (by assumption)).mono ?_; rintro e w' ⟨rfl, rfl⟩) | (go_at_call 16; refine (same_any _ _ _ (by assumption) (by assumption)).mono ?_; rintro e w' ⟨rfl, rfl⟩) | (go_at_call 15; refine (conj_any _ _ _).mono ?_; rintro e w' ⟨rfl, rfl⟩) | (go_at_call 17; refine (inf_any _).mono ?_; rintro e w' ⟨rfl, rfl⟩) | (go_at_call 23; refine (naN_any _).mono ?_; rintro e w' ⟨rfl, rfl⟩) | (go_at_call 20; refine (isInf2_any _ _ _ (by assumption) (by assumption)).mono ?_; rintro e w' ⟨rfl, rfl⟩) | (go_at_call 22; refine (isNaN2_any _ _ _ (by assumption) (by assumption)).mono ?_; rintro e w' ⟨rfl, rfl⟩) | (go_at_call 30; refine (abs_any _ _ _).mono ?_; rintro e w' ⟨rfl, rfl⟩) | (go_at_call 28; refine (realHypot_any _ _ _).mono ?_; rintro e w' ⟨rfl, rfl⟩) | (go_at_call 50; refine (mAbs_any _ _ (by assumption)).mono ?_; rintro e w' ⟨rfl, rfl⟩))
      go_ret
      exact ⟨rfl, grown_drewN _ _⟩
  · have H := hidd (sqrt_nan (isNan_iff.1 h1))
    go_enter Try.func8, Try.ntmps8
    go_wp2_with fail
    refine (realSqrt_any _ _).mono ?_
    rintro e w' ⟨r, hr, rfl, rfl⟩
    have h5 : isNan r = true := by rw [H.out] at hr; exact isNan_iff.2 hr.1
    clear hr
    go_wp2_with (first | (go_at_call 19; refine (isNan_any _ _).mono ?_; rintro e w' ⟨rfl, rfl⟩) | (go_at_call 18; refine (infinity_any _).mono ?_; rintro e w' ⟨rfl, rfl⟩) | (go_at_call 21; refine (isInf_any _ _ (by assumption)).mono ?_; rintro e w' ⟨rfl, rfl⟩) | (go_at_call 25; refine (isFinite_any _ _ (by assumption)).mono ?_; rintro e w' ⟨rfl, rfl⟩) | (go_at_call 33; refine (minus_any _ _ (by assumption)).mono ?_; rintro e w' ⟨rfl, rfl⟩) | (go_at_call 26; refine (size_any _ _ (by assumption)).mono ?_; rintro e w' ⟨rfl, rfl⟩) | (go_at_call 16; refine (same_any _ _ _ (by assumption) (by assumption)).mono ?_; rintro e w' ⟨rfl, rfl⟩) | (go_at_call 15; refine (conj_any _ _ _).mono ?_; rintro e w' ⟨rfl, rfl⟩) | (go_at_call 17; refine (inf_any _).mono ?_; rintro e w' ⟨rfl, rfl⟩) | (go_at_call 23; refine (naN_any _).mono ?_; rintro e w' ⟨rfl, rfl⟩) | (go_at_call 20; refine (isInf2_any _ _ _ (by assumption) (by assumption)).mono ?_; rintro e w' ⟨rfl, rfl⟩) | (go_at_call 22; refine (isNaN2_any _ _ _ (by assumption) (by assumption)).mono ?_; rintro e w' ⟨rfl, rfl⟩) | (go_at_call 30; refine (abs_any _ _ _).mono ?_; rintro e w' ⟨rfl, rfl⟩) | (go_at_call 28; refine (realHypot_any _ _ _).mono ?_; rintro e w' ⟨rfl, rfl⟩) | (go_at_call 50; refine (mAbs_any _ _ (by assumption)).mono ?_; rintro e w' ⟨rfl, rfl⟩))
    go_ret
    exact ⟨rfl, grown_drewN _ _⟩

theorem own : ownKnob Try.prog.godebug = none := by kernel_rfl
set_option maxRecDepth 100000 in
theorem lifted (os : Os) (started : os.Started) (H : Type) (enc : TypeId × Value → H) :
    ReturnsInHanded {} Try.checked os 8 .any (Rows.fnRealSqrtSpec.pre6 enc Try.prog Try.f8 Rows.fnRealSqrtRow.domain false) (Rows.fnRealSqrtSpec.post enc Try.prog Try.f8 false true false false) := by
  refine returnsInHanded_of_change (C := Try.checked) own started (by kernel_rfl) Try.func8
    (ChangeSpec.witness6 (enc := enc) (C := Try.checked) false ⟨#[], #[.float .f64 0], []⟩ 8 (by kernel_rfl) (by kernel_rfl) (by kernel_rfl) (by kernel_rfl)) ?_
  intro W base args ds gs before hval0 hW hcnd _
  have hval : ∀ (j : Nat) t v, Try.f8.params[j]? = some t → args[j]? = some v → Value.okWide Try.prog W .any base t v := hval0
  have hW' := hW
  obtain ⟨p, q, hA0, hV, rfl, hfz, hnd⟩ := hW
  have hA : DataW.TrodAll enc Try.prog W 0 (fun _ => true) true Try.f8.params.toList args.toList ds p := hA0
  rw [Try.params8] at hA hval
  obtain ⟨v0, vs0, d0, ds0, p0, q0, hargs, rfl, rfl, h0, r0⟩ := trodAll_cons hA
  obtain ⟨rfl, rfl, rfl⟩ := trodAll_nil r0
  obtain rfl : args = #[v0] := by cases args; simp_all
  obtain ⟨rfl, rfl⟩ := trodVars_none hV
  obtain ⟨a0, rfl, rfl, rfl, w0⟩ := open_float Try.underlying22 (hval 0 22 v0 rfl rfl) h0
  clear hA0 hval0
  simp only [List.append_nil] at hW'
  refine (walk a0 (wd_of_wf w0) W).mono fun e W' ⟨he, hg⟩ => ?_
  subst he
  exact ⟨_, rfl, post_of_same (pa := []) (pv := []) hW' (fun _ _ _ => (trodAll_cons_mk (shut_bool Try.underlying4 _) trodAll_mk0)) (fun sp _ => (trodAll_cons_mk (shut_float Try.underlying22 w0) trodAll_mk0)) (fun _ _ => rfl) rfl
    (hg.frame _) hg.2.1 (ok_one (by kernel_rfl) rfl (okWide_bool_mk Try.underlying4 _))⟩
theorem over : Rows.fnRealSqrtRow.holds Try.pinned (OpenSpec.ofChange Rows.fnRealSqrtSpec) :=
  OpenClaim.holds_of_wide 8 Try.f8 rfl rfl rfl rfl rfl rfl rfl ⟨rfl, rfl, rfl, rfl, rfl⟩ rfl rfl rfl rfl rfl (by kernel_rfl) Try.func8 (by kernel_rfl)
    (of_decide_eq_true (by kernel_rfl)) (by unfold Func.isWrapper; first | (rw [if_pos (by decide +kernel)]; kernel_rfl) | (rw [if_neg (by decide +kernel)]; exact ⟨rfl, rfl⟩))
    (fun os started H enc _ => lifted os started H enc)
/-- The given statement. -/
theorem proved : Rows.FnRealSqrtSaid := over
end Go.Proofs.Ytnbcodpmglifdaa.fnRealSqrt

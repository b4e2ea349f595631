/- Proved: for every word that is no NaN and either zero as second part: the root of a number below 0 is 0 and the root of its size with the sign of the zero; that of any other is the real root and the zero. No condition. -/
import Derived.Test.YtojjlkmeicdeeaaRows
import Derived.Test.YtojjlkmeicdeeaaMid
import Derived.Test.YtojjlkmeicdeeaaHypotLaws
import Derived.Test.YtojjlkmeicdeeaaSqrtSigns
import Derived.Test.YtojjlkmeicdeeaaFrame
set_option linter.unusedSimpArgs false
set_option linter.unusedVariables false
namespace Go.Proofs.Ytojjlkmeicdeeaa.fnSqrtReal
open Go.ChangeShapes Go.WideShapes Go.ChangeAt Go.RowKit F64

theorem zero_facts (b : Bool) : feq (if b then fneg 0 else 0) 0 = true ∧ Wd (if b then fneg 0 else 0) ∧ sg (if b then fneg 0 else 0) = b ∧ Num (if b then fneg 0 else 0) := by
  cases b
  · exact ⟨by decide +kernel, by unfold Wd; decide, by decide, by unfold Num; decide⟩
  · exact ⟨by decide +kernel, by unfold Wd; decide, by decide, by unfold Num; decide⟩

theorem neg_case {x z a b : Nat} (hx : Wd x) (hz : Wd z) (nz : Num z) (h1 : feq z 0 = true) (h2 : flt x 0 = true) (hr : SqrtRel x z a b) :
    ∃ r, fsqrt (fneg x) = some r ∧ Wd r ∧ feq a 0 = true ∧ b = likeW r z ∧ feq b 0 = false := by
  have h2' := h2
  rw [flt_zero] at h2'
  simp at h2'
  obtain ⟨hm, h0⟩ := h2'
  unfold minus at hm
  simp at hm
  obtain ⟨hs, hn⟩ := hm
  have h3 : feq x 0 = false := by rw [feq_zero]; simpa using h0
  obtain ⟨r, e, wr, nr, sr, r0⟩ := sqrt_pos (fneg_wd hx) (fneg_num hx (isNan_false.1 hn)) (by rw [fneg_sg hx, hs]; rfl) (by rw [fneg_rg hx]; exact h0)
  unfold SqrtRel at hr
  simp [h1, h2, h3] at hr
  obtain ⟨ha, r1, hr1, hb⟩ := hr
  rw [e] at hr1
  obtain rfl : r1 = r := hr1
  have hl : likeW r1 z = copyW r1 z := by
    have hsz : sizeW r1 = rg r1 := sizeW_num wr nr
    unfold likeW copyW
    rw [hsz]
    unfold minus
    rw [isNan_false.2 nz]
    cases hsg : sg z
    · simp
    · simp
      rw [fneg_eq (rg_wd _)]
      unfold negw
      rw [if_pos (by unfold rg SW; omega)]; rfl
  refine ⟨r1, e, wr, by rw [ha]; decide +kernel, by rw [hb, hl], ?_⟩
  rw [hb, feq_zero, copyW_rg]; simpa using r0
theorem pos_case {x z a b : Nat} (hx : Wd x) (nx : Num x) (h1 : feq z 0 = true) (h2 : flt x 0 = false) (h3 : feq x 0 = false) (hr : SqrtRel x z a b) :
    fsqrt (sizeW x) = some a ∧ b = z ∧ fgt a 0 = true := by
  have h2' := h2
  rw [flt_zero] at h2'
  rw [feq_zero] at h3
  rw [h3] at h2'
  unfold minus at h2'
  rw [isNan_false.2 nx] at h2'
  simp at h2' h3
  obtain ⟨r, e, wr, nr, sr, r0⟩ := sqrt_pos hx nx h2' h3
  have h3' : feq x 0 = false := by rw [feq_zero]; simpa using h3
  have hsz : sizeW x = x := by unfold sizeW minus; rw [h2']; rfl
  unfold SqrtRel at hr
  simp [h1, h2, h3'] at hr
  obtain ⟨ha, hb⟩ := hr
  rw [e] at ha
  obtain rfl : a = r := ha
  refine ⟨by rw [hsz]; exact e, hb, ?_⟩
  rw [fgt_zero, sr, isNan_false.2 nr]; simpa using r0

set_option maxRecDepth 100000 in
theorem walk_at (x : Nat) (b : Bool) (z : Nat) (hzz : (if b then fneg 0 else 0) = z) (hx : Wd x) (w : World) :
    Calls Try.prog 13 #[.float .f64 x, .bool b] w fun e w' => e = .returned (.bool true) ∧ Grown w w' := by
  obtain ⟨z1, z2, z3, z4⟩ := zero_facts b
  rw [hzz] at z1 z2 z3 z4
  have szz := same_self z
  have hz0 : feq 0 0 = true := by decide +kernel
  have w0 : Wd 0 := by unfold Wd; decide
  cases h0 : isNan x
  · cases h2 : flt x 0
    · cases h3 : feq x 0
      · have H := hidd (fun a c => @pos_case x z a c hx (isNan_false.1 h0) z1 h2 h3)
        have hw := sizeW_wd hx
        cases b <;> simp only [Bool.false_eq_true, if_false, if_true] at hzz <;> subst hzz
        all_goals
          go_enter Try.func13, Try.ntmps13
          go_wp2_with (first | (go_at_call 29; refine (sqrt2_any _ _ _ hx z2).mono ?_; rintro e w' ⟨a, c, n, hr, wa, wc, rfl, rfl⟩; obtain ⟨f1, f2, f3⟩ := H.out a c hr; have sa := same_self a; subst f2; clear hr) | (go_at_call 33; refine (realSqrt_some (by assumption) _).mono ?_; rintro e w' ⟨rfl, rfl⟩) | first | (go_at_call 19; refine (isNan_any _ _).mono ?_; rintro e w' ⟨rfl, rfl⟩) | (go_at_call 20; refine (infinity_any _).mono ?_; rintro e w' ⟨rfl, rfl⟩) | (go_at_call 35; refine (isInf_any _ _ (by assumption)).mono ?_; rintro e w' ⟨rfl, rfl⟩) | (go_at_call 17; refine (isFinite_any _ _ (by assumption)).mono ?_; rintro e w' ⟨rfl, rfl⟩) | (go_at_call 31; refine (minus_any _ _ (by assumption)).mono ?_; rintro e w' ⟨rfl, rfl⟩) | (go_at_call 26; refine (size_any _ _ (by assumption)).mono ?_; rintro e w' ⟨rfl, rfl⟩) | (go_at_call 32; refine (like_any _ _ _ (by assumption) (by assumption)).mono ?_; rintro e w' ⟨rfl, rfl⟩) | (go_at_call 22; refine (same_any _ _ _ (by assumption) (by assumption)).mono ?_; rintro e w' ⟨rfl, rfl⟩) | (go_at_call 21; refine (conj_any _ _ _).mono ?_; rintro e w' ⟨rfl, rfl⟩) | (go_at_call 15; refine (isInf2_any _ _ _ (by assumption) (by assumption)).mono ?_; rintro e w' ⟨rfl, rfl⟩) | (go_at_call 16; refine (isNaN2_any _ _ _ (by assumption) (by assumption)).mono ?_; rintro e w' ⟨rfl, rfl⟩) | (go_at_call 18; refine (abs_any _ _ _).mono ?_; rintro e w' ⟨rfl, rfl⟩) | (go_at_call 27; refine (realHypot_any _ _ _).mono ?_; rintro e w' ⟨rfl, rfl⟩) | (go_at_call 54; refine (mAbs_any _ _ (by assumption)).mono ?_; rintro e w' ⟨rfl, rfl⟩))
          go_ret
          exact ⟨rfl, grown_drewN _ _⟩
      · have hs : sizeW x = 0 := by
          rw [sizeW_num hx (isNan_false.1 h0)]; simpa [feq_zero] using h3
        have hq : fsqrt 0 = some 0 := by unfold fsqrt; decide +kernel
        have s0 := same_self 0
        have H : Hid (∀ a c, SqrtRel x z a c → a = 0 ∧ c = z) := fun a c hr => by
          unfold SqrtRel at hr; simp [z1, h3] at hr; exact hr
        cases b <;> simp only [Bool.false_eq_true, if_false, if_true] at hzz <;> subst hzz
        all_goals
          go_enter Try.func13, Try.ntmps13
          go_wp2_with (first | (go_at_call 29; refine (sqrt2_any _ _ _ hx z2).mono ?_; rintro e w' ⟨a, c, n, hr, wa, wc, rfl, rfl⟩; obtain ⟨rfl, rfl⟩ := H.out a c hr; clear hr) | (go_at_call 33; refine (realSqrt_some (by assumption) _).mono ?_; rintro e w' ⟨rfl, rfl⟩) | first | (go_at_call 19; refine (isNan_any _ _).mono ?_; rintro e w' ⟨rfl, rfl⟩) | (go_at_call 20; refine (infinity_any _).mono ?_; rintro e w' ⟨rfl, rfl⟩) | (go_at_call 35; refine (isInf_any _ _ (by assumption)).mono ?_; rintro e w' ⟨rfl, rfl⟩) | (go_at_call 17; refine (isFinite_any _ _ (by assumption)).mono ?_; rintro e w' ⟨rfl, rfl⟩) | (go_at_call 31; refine (minus_any _ _ (by assumption)).mono ?_; rintro e w' ⟨rfl, rfl⟩) | (go_at_call 26; refine (size_any _ _ (by assumption)).mono ?_; rintro e w' ⟨rfl, rfl⟩) | (go_at_call 32; refine (like_any _ _ _ (by assumption) (by assumption)).mono ?_; rintro e w' ⟨rfl, rfl⟩) | (go_at_call 22; refine (same_any _ _ _ (by assumption) (by assumption)).mono ?_; rintro e w' ⟨rfl, rfl⟩) | (go_at_call 21; refine (conj_any _ _ _).mono ?_; rintro e w' ⟨rfl, rfl⟩) | (go_at_call 15; refine (isInf2_any _ _ _ (by assumption) (by assumption)).mono ?_; rintro e w' ⟨rfl, rfl⟩) | (go_at_call 16; refine (isNaN2_any _ _ _ (by assumption) (by assumption)).mono ?_; rintro e w' ⟨rfl, rfl⟩) | (go_at_call 18; refine (abs_any _ _ _).mono ?_; rintro e w' ⟨rfl, rfl⟩) | (go_at_call 27; refine (realHypot_any _ _ _).mono ?_; rintro e w' ⟨rfl, rfl⟩) | (go_at_call 54; refine (mAbs_any _ _ (by assumption)).mono ?_; rintro e w' ⟨rfl, rfl⟩))
          go_ret
          exact ⟨rfl, grown_drewN _ _⟩
    · have H := hidd (fun a c => @neg_case x z a c hx z2 z4 z1 h2)
      have hw := fneg_wd hx
      cases b <;> simp only [Bool.false_eq_true, if_false, if_true] at hzz <;> subst hzz
      all_goals
        go_enter Try.func13, Try.ntmps13
        go_wp2_with (first | (go_at_call 29; refine (sqrt2_any _ _ _ hx z2).mono ?_; rintro e w' ⟨a, c, n, hr, wa, wc, rfl, rfl⟩; obtain ⟨r, f1, f2, f3, f4, f5⟩ := H.out a c hr; have sl := same_self c; subst f4; clear hr) | (go_at_call 33; refine (realSqrt_some (by assumption) _).mono ?_; rintro e w' ⟨rfl, rfl⟩) | first | (go_at_call 19; refine (isNan_any _ _).mono ?_; rintro e w' ⟨rfl, rfl⟩) | (go_at_call 20; refine (infinity_any _).mono ?_; rintro e w' ⟨rfl, rfl⟩) | (go_at_call 35; refine (isInf_any _ _ (by assumption)).mono ?_; rintro e w' ⟨rfl, rfl⟩) | (go_at_call 17; refine (isFinite_any _ _ (by assumption)).mono ?_; rintro e w' ⟨rfl, rfl⟩) | (go_at_call 31; refine (minus_any _ _ (by assumption)).mono ?_; rintro e w' ⟨rfl, rfl⟩) | (go_at_call 26; refine (size_any _ _ (by assumption)).mono ?_; rintro e w' ⟨rfl, rfl⟩) | (go_at_call 32; refine (like_any _ _ _ (by assumption) (by assumption)).mono ?_; rintro e w' ⟨rfl, rfl⟩) | (go_at_call 22; refine (same_any _ _ _ (by assumption) (by assumption)).mono ?_; rintro e w' ⟨rfl, rfl⟩) | (go_at_call 21; refine (conj_any _ _ _).mono ?_; rintro e w' ⟨rfl, rfl⟩) | (go_at_call 15; refine (isInf2_any _ _ _ (by assumption) (by assumption)).mono ?_; rintro e w' ⟨rfl, rfl⟩) | (go_at_call 16; refine (isNaN2_any _ _ _ (by assumption) (by assumption)).mono ?_; rintro e w' ⟨rfl, rfl⟩) | (go_at_call 18; refine (abs_any _ _ _).mono ?_; rintro e w' ⟨rfl, rfl⟩) | (go_at_call 27; refine (realHypot_any _ _ _).mono ?_; rintro e w' ⟨rfl, rfl⟩) | (go_at_call 54; refine (mAbs_any _ _ (by assumption)).mono ?_; rintro e w' ⟨rfl, rfl⟩))
        go_ret
        exact ⟨rfl, grown_drewN _ _⟩
  · go_enter Try.func13, Try.ntmps13
    go_wp2_with (first | (go_at_call 19; refine (isNan_any _ _).mono ?_; rintro e w' ⟨rfl, rfl⟩) | (go_at_call 20; refine (infinity_any _).mono ?_; rintro e w' ⟨rfl, rfl⟩) | (go_at_call 35; refine (isInf_any _ _ (by assumption)).mono ?_; rintro e w' ⟨rfl, rfl⟩) | (go_at_call 17; refine (isFinite_any _ _ (by assumption)).mono ?_; rintro e w' ⟨rfl, rfl⟩) | (go_at_call 31; refine (minus_any _ _ (by assumption)).mono ?_; rintro e w' ⟨rfl, rfl⟩) | (go_at_call 26; refine (size_any _ _ (by assumption)).mono ?_; rintro e w' ⟨rfl, rfl⟩) | (go_at_call 32; refine (like_any _ _ _ (by assumption) (by assumption)).mono ?_; rintro e w' ⟨rfl, rfl⟩) | (go_at_call 22; refine (same_any _ _ _ (by assumption) (by assumption)).mono ?_; rintro e w' ⟨rfl, rfl⟩) | (go_at_call 21; refine (conj_any _ _ _).mono ?_; rintro e w' ⟨rfl, rfl⟩) | (go_at_call 15; refine (isInf2_any _ _ _ (by assumption) (by assumption)).mono ?_; rintro e w' ⟨rfl, rfl⟩) | (go_at_call 16; refine (isNaN2_any _ _ _ (by assumption) (by assumption)).mono ?_; rintro e w' ⟨rfl, rfl⟩) | (go_at_call 18; refine (abs_any _ _ _).mono ?_; rintro e w' ⟨rfl, rfl⟩) | (go_at_call 27; refine (realHypot_any _ _ _).mono ?_; rintro e w' ⟨rfl, rfl⟩) | (go_at_call 54; refine (mAbs_any _ _ (by assumption)).mono ?_; rintro e w' ⟨rfl, rfl⟩))
    go_ret
    exact ⟨rfl, Grown.refl _⟩
theorem walk (x : Nat) (b : Bool) (hx : Wd x) (w : World) :
    Calls Try.prog 13 #[.float .f64 x, .bool b] w fun e w' => e = .returned (.bool true) ∧ Grown w w' := walk_at x b _ rfl hx w

theorem own : ownKnob Try.prog.godebug = none := by kernel_rfl
set_option maxRecDepth 100000 in
theorem lifted (os : Os) (started : os.Started) (H : Type) (enc : TypeId × Value → H) :
    ReturnsInHanded {} Try.checked os 13 .any (Rows.fnSqrtRealSpec.pre6 enc Try.prog Try.f13 Rows.fnSqrtRealRow.domain false) (Rows.fnSqrtRealSpec.post enc Try.prog Try.f13 false true false false) := by
  refine returnsInHanded_of_change (C := Try.checked) own started (by kernel_rfl) Try.func13
    (ChangeSpec.witness6 (enc := enc) (C := Try.checked) false ⟨#[], #[.float .f64 0, .bool false], []⟩ 8 (by kernel_rfl) (by kernel_rfl) (by kernel_rfl) (by kernel_rfl)) ?_
  intro W base args ds gs before hval0 hW hcnd _
  have hval : ∀ (j : Nat) t v, Try.f13.params[j]? = some t → args[j]? = some v → Value.okWide Try.prog W .any base t v := hval0
  have hW' := hW
  obtain ⟨p, q, hA0, hV, rfl, hfz, hnd⟩ := hW
  have hA : DataW.TrodAll enc Try.prog W 0 (fun _ => true) true Try.f13.params.toList args.toList ds p := hA0
  rw [Try.params13] at hA hval
  obtain ⟨v0, vs0, d0, ds0, p0, q0, hargs, rfl, rfl, h0, r0⟩ := trodAll_cons hA
  obtain ⟨v1, vs1, d1, ds1, p1, q1, rfl, rfl, rfl, h1, r1⟩ := trodAll_cons r0
  obtain ⟨rfl, rfl, rfl⟩ := trodAll_nil r1
  obtain rfl : args = #[v0, v1] := by cases args; simp_all
  obtain ⟨rfl, rfl⟩ := trodVars_none hV
  obtain ⟨a0, rfl, rfl, rfl, w0⟩ := open_float Try.underlying22 (hval 0 22 v0 rfl rfl) h0
  obtain ⟨a1, rfl, rfl, rfl⟩ := open_bool Try.underlying4 (hval 1 4 v1 rfl rfl) h1
  clear hA0 hval0
  simp only [List.append_nil] at hW'
  refine (walk a0 a1 (wd_of_wf w0) W).mono fun e W' ⟨he, hg⟩ => ?_
  subst he
  exact ⟨_, rfl, post_of_same (pa := []) (pv := []) hW' (fun _ _ _ => (trodAll_cons_mk (shut_bool Try.underlying4 _) trodAll_mk0)) (fun sp _ => (trodAll_cons_mk (shut_float Try.underlying22 w0) (trodAll_cons_mk (shut_bool Try.underlying4 a1) trodAll_mk0))) (fun _ _ => rfl) rfl
    (hg.frame _) hg.2.1 (ok_one (by kernel_rfl) rfl (okWide_bool_mk Try.underlying4 _))⟩
theorem over : Rows.fnSqrtRealRow.holds Try.pinned (OpenSpec.ofChange Rows.fnSqrtRealSpec) :=
  OpenClaim.holds_of_wide 13 Try.f13 rfl rfl rfl rfl rfl rfl rfl ⟨rfl, rfl, rfl, rfl, rfl⟩ rfl rfl rfl rfl rfl (by kernel_rfl) Try.func13 (by kernel_rfl)
    (of_decide_eq_true (by kernel_rfl)) (by unfold Func.isWrapper; first | (rw [if_pos (by decide +kernel)]; kernel_rfl) | (rw [if_neg (by decide +kernel)]; exact ⟨rfl, rfl⟩))
    (fun os started H enc _ => lifted os started H enc)
/-- The given statement. -/
theorem proved : Rows.FnSqrtRealSaid := over
end Go.Proofs.Ytojjlkmeicdeeaa.fnSqrtReal

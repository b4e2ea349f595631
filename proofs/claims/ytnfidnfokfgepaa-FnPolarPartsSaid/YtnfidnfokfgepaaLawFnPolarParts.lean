/- Proved: for every two words whose quotient, where neither is 0 and the first is finite, is not 0: Polar gives Abs; the phase is no number if a word is none; else it is at most pi in size, has the sign of the second word, and is at most pi/2 in size unless the first is negative. No condition. -/
import Derived.Test.YtnfidnfokfgepaaRows
import Derived.Test.YtnfidnfokfgepaaMid
import Derived.Test.YtnfidnfokfgepaaHypotLaws
import Derived.Test.YtnfidnfokfgepaaPhaseLaws
import Derived.Test.YtnfidnfokfgepaaFrame
set_option linter.unusedSimpArgs false
set_option linter.unusedVariables false
namespace Go.Proofs.Ytnfidnfokfgepaa.fnPolarParts
open Go.ChangeShapes Go.WideShapes Go.ChangeAt Go.RowKit F64

theorem parts {x y t : Nat} (nx : Num x) (ny : Num y) (P : PhaseOk x y t) : fle (sizeW t) 4614256656552045848 = true ∧ minus t = minus y ∧ (fle (sizeW t) 4609753056924675352 = true ∨ minus x = true) := by
  obtain ⟨pf1, pf2, pf3, pf4, pf5, pf6, pf7, pf8, pf9⟩ := pi_facts
  have nt := P.fi.num
  have nr : Num (rg t) := by unfold Num at *; rw [rg_rg]; exact nt
  have es := sizeW_num P.wd nt
  have m : ∀ {z : Nat}, Num z → minus z = sg z := fun h => by unfold minus; rw [isNan_false.2 h]; simp
  rw [es]
  refine ⟨?_, by rw [m nt, m ny, P.sgn], ?_⟩
  · show fle (rg t) PI = true
    rw [fle_val nr pf1.num]; simpa using P.lePi
  · cases h : sg x
    · left
      show fle (rg t) PIH = true
      rw [fle_val nr pf2.num]; simpa using P.leHalf h
    · right; rw [m nx, h]
theorem walk (x y : Nat) (hx : Wd x) (hy : Wd y) (w : World) :
    Calls Try.prog 10 #[.float .f64 x, .float .f64 y] w fun e w' => e = .returned (.bool true) ∧ Grown w w' := by
  have hw := hypotW_wd x y
  have ht := atan2_wd hx hy
  have hny := fneg_wd hy
  have hnt := fneg_wd ht
  have sh := same_self (hypotW x y)
  have st := same_self (atan2W y x)
  have snt := same_self (fneg (atan2W y x))
  have hs := sizeW_wd ht
  clear st snt hnt hny
  cases h3 : lostB x y
  · cases h1 : isNan x
    · cases h2 : isNan y
      · obtain ⟨f1, f2, f3⟩ := parts (isNan_false.1 h1) (isNan_false.1 h2) (phase_ok hx hy (isNan_false.1 h1) (isNan_false.1 h2) h3).1
        have F3 := hidd f3
        have F1 := hidd f1
        clear f3
        unfold fle at f1
        rcases Bool.eq_false_or_eq_true (flt (sizeW (atan2W y x)) 4614256656552045848) with k1 | k1 <;> rcases Bool.eq_false_or_eq_true (flt (sizeW (atan2W y x)) 4609753056924675352) with k2 | k2 <;> rcases Bool.eq_false_or_eq_true (feq (sizeW (atan2W y x)) 4609753056924675352) with k3 | k3
        all_goals
          have k4 : flt (sizeW (atan2W y x)) 4614256656552045848 = true ∨ feq (sizeW (atan2W y x)) 4614256656552045848 = true := by
            have := F1.out; unfold fle at this; simpa using this
          have k5 : flt (sizeW (atan2W y x)) 4609753056924675352 = true ∨ feq (sizeW (atan2W y x)) 4609753056924675352 = true ∨ minus x = true := by
            have := F3.out; unfold fle at this; simpa [or_assoc] using this
          rw [k1] at k4
          rw [k2, k3] at k5
          simp only [Bool.false_eq_true, false_or, true_or, or_true] at k4 k5
          clear f1
          go_enter Try.func10, Try.ntmps10
          go_wp2_with (first | (go_at_call 19; refine (lost_any _ _ _ hx hy).mono ?_; rintro e w' ⟨n0, rfl, rfl⟩) | first | (go_at_call 16; refine (isNan_any _ _).mono ?_; rintro e w' ⟨rfl, rfl⟩) | (go_at_call 38; refine (infinity_any _).mono ?_; rintro e w' ⟨rfl, rfl⟩) | (go_at_call 36; refine (isInf_any _ _ (by assumption)).mono ?_; rintro e w' ⟨rfl, rfl⟩) | (go_at_call 33; refine (isFinite_any _ _ (by assumption)).mono ?_; rintro e w' ⟨rfl, rfl⟩) | (go_at_call 26; refine (minus_any _ _ (by assumption)).mono ?_; rintro e w' ⟨rfl, rfl⟩) | (go_at_call 17; refine (size_any _ _ (by assumption)).mono ?_; rintro e w' ⟨rfl, rfl⟩) | (go_at_call 15; refine (like_any _ _ _ (by assumption) (by assumption)).mono ?_; rintro e w' ⟨rfl, rfl⟩) | (go_at_call 14; refine (same_any _ _ _ (by assumption) (by assumption)).mono ?_; rintro e w' ⟨rfl, rfl⟩) | (go_at_call 27; refine (conj_any _ _ _).mono ?_; rintro e w' ⟨rfl, rfl⟩) | (go_at_call 25; refine (abs_any _ _ _).mono ?_; rintro e w' ⟨rfl, rfl⟩) | (go_at_call 56; refine (mAbs_any _ _ (by assumption)).mono ?_; rintro e w' ⟨rfl, rfl⟩) | (go_at_call 20; refine (polar_any _ _ _ (by assumption) (by assumption)).mono ?_; rintro e w' ⟨rfl, rfl⟩) | (go_at_call 22; refine (phase_any _ _ _ (by assumption) (by assumption)).mono ?_; rintro e w' ⟨rfl, rfl⟩) | (go_at_call 13; refine (log2_any _ _ _ (by assumption) (by assumption)).mono ?_; rintro e w' ⟨rfl, rfl⟩) | (go_at_call 18; refine (realLog_any _ _ (by assumption)).mono ?_; rintro e w' ⟨rfl, rfl⟩))
          go_ret
          exact ⟨rfl, grown_drewN _ _⟩
      · have e := atan2_nanW (x := x) (y := y) (Or.inl h2)
        have en : isNan 9221120237041090561 = true := by decide
        clear ht hs
        go_enter Try.func10, Try.ntmps10
        go_wp2_with (first | (go_at_call 19; refine (lost_any _ _ _ hx hy).mono ?_; rintro e w' ⟨n0, rfl, rfl⟩) | first | (go_at_call 16; refine (isNan_any _ _).mono ?_; rintro e w' ⟨rfl, rfl⟩) | (go_at_call 38; refine (infinity_any _).mono ?_; rintro e w' ⟨rfl, rfl⟩) | (go_at_call 36; refine (isInf_any _ _ (by assumption)).mono ?_; rintro e w' ⟨rfl, rfl⟩) | (go_at_call 33; refine (isFinite_any _ _ (by assumption)).mono ?_; rintro e w' ⟨rfl, rfl⟩) | (go_at_call 26; refine (minus_any _ _ (by assumption)).mono ?_; rintro e w' ⟨rfl, rfl⟩) | (go_at_call 17; refine (size_any _ _ (by assumption)).mono ?_; rintro e w' ⟨rfl, rfl⟩) | (go_at_call 15; refine (like_any _ _ _ (by assumption) (by assumption)).mono ?_; rintro e w' ⟨rfl, rfl⟩) | (go_at_call 14; refine (same_any _ _ _ (by assumption) (by assumption)).mono ?_; rintro e w' ⟨rfl, rfl⟩) | (go_at_call 27; refine (conj_any _ _ _).mono ?_; rintro e w' ⟨rfl, rfl⟩) | (go_at_call 25; refine (abs_any _ _ _).mono ?_; rintro e w' ⟨rfl, rfl⟩) | (go_at_call 56; refine (mAbs_any _ _ (by assumption)).mono ?_; rintro e w' ⟨rfl, rfl⟩) | (go_at_call 20; refine (polar_any _ _ _ (by assumption) (by assumption)).mono ?_; rintro e w' ⟨rfl, rfl⟩) | (go_at_call 22; refine (phase_any _ _ _ (by assumption) (by assumption)).mono ?_; rintro e w' ⟨rfl, rfl⟩) | (go_at_call 13; refine (log2_any _ _ _ (by assumption) (by assumption)).mono ?_; rintro e w' ⟨rfl, rfl⟩) | (go_at_call 18; refine (realLog_any _ _ (by assumption)).mono ?_; rintro e w' ⟨rfl, rfl⟩))
        go_ret
        exact ⟨rfl, grown_drewN _ _⟩
    · have e := atan2_nanW (x := x) (y := y) (Or.inr h1)
      have en : isNan 9221120237041090561 = true := by decide
      clear ht hs
      go_enter Try.func10, Try.ntmps10
      go_wp2_with (first | (go_at_call 19; refine (lost_any _ _ _ hx hy).mono ?_; rintro e w' ⟨n0, rfl, rfl⟩) | first | (go_at_call 16; refine (isNan_any _ _).mono ?_; rintro e w' ⟨rfl, rfl⟩) | (go_at_call 38; refine (infinity_any _).mono ?_; rintro e w' ⟨rfl, rfl⟩) | (go_at_call 36; refine (isInf_any _ _ (by assumption)).mono ?_; rintro e w' ⟨rfl, rfl⟩) | (go_at_call 33; refine (isFinite_any _ _ (by assumption)).mono ?_; rintro e w' ⟨rfl, rfl⟩) | (go_at_call 26; refine (minus_any _ _ (by assumption)).mono ?_; rintro e w' ⟨rfl, rfl⟩) | (go_at_call 17; refine (size_any _ _ (by assumption)).mono ?_; rintro e w' ⟨rfl, rfl⟩) | (go_at_call 15; refine (like_any _ _ _ (by assumption) (by assumption)).mono ?_; rintro e w' ⟨rfl, rfl⟩) | (go_at_call 14; refine (same_any _ _ _ (by assumption) (by assumption)).mono ?_; rintro e w' ⟨rfl, rfl⟩) | (go_at_call 27; refine (conj_any _ _ _).mono ?_; rintro e w' ⟨rfl, rfl⟩) | (go_at_call 25; refine (abs_any _ _ _).mono ?_; rintro e w' ⟨rfl, rfl⟩) | (go_at_call 56; refine (mAbs_any _ _ (by assumption)).mono ?_; rintro e w' ⟨rfl, rfl⟩) | (go_at_call 20; refine (polar_any _ _ _ (by assumption) (by assumption)).mono ?_; rintro e w' ⟨rfl, rfl⟩) | (go_at_call 22; refine (phase_any _ _ _ (by assumption) (by assumption)).mono ?_; rintro e w' ⟨rfl, rfl⟩) | (go_at_call 13; refine (log2_any _ _ _ (by assumption) (by assumption)).mono ?_; rintro e w' ⟨rfl, rfl⟩) | (go_at_call 18; refine (realLog_any _ _ (by assumption)).mono ?_; rintro e w' ⟨rfl, rfl⟩))
      go_ret
      exact ⟨rfl, grown_drewN _ _⟩
  · go_enter Try.func10, Try.ntmps10
    go_wp2_with (first | (go_at_call 19; refine (lost_any _ _ _ hx hy).mono ?_; rintro e w' ⟨n0, rfl, rfl⟩) | first | (go_at_call 16; refine (isNan_any _ _).mono ?_; rintro e w' ⟨rfl, rfl⟩) | (go_at_call 38; refine (infinity_any _).mono ?_; rintro e w' ⟨rfl, rfl⟩) | (go_at_call 36; refine (isInf_any _ _ (by assumption)).mono ?_; rintro e w' ⟨rfl, rfl⟩) | (go_at_call 33; refine (isFinite_any _ _ (by assumption)).mono ?_; rintro e w' ⟨rfl, rfl⟩) | (go_at_call 26; refine (minus_any _ _ (by assumption)).mono ?_; rintro e w' ⟨rfl, rfl⟩) | (go_at_call 17; refine (size_any _ _ (by assumption)).mono ?_; rintro e w' ⟨rfl, rfl⟩) | (go_at_call 15; refine (like_any _ _ _ (by assumption) (by assumption)).mono ?_; rintro e w' ⟨rfl, rfl⟩) | (go_at_call 14; refine (same_any _ _ _ (by assumption) (by assumption)).mono ?_; rintro e w' ⟨rfl, rfl⟩) | (go_at_call 27; refine (conj_any _ _ _).mono ?_; rintro e w' ⟨rfl, rfl⟩) | (go_at_call 25; refine (abs_any _ _ _).mono ?_; rintro e w' ⟨rfl, rfl⟩) | (go_at_call 56; refine (mAbs_any _ _ (by assumption)).mono ?_; rintro e w' ⟨rfl, rfl⟩) | (go_at_call 20; refine (polar_any _ _ _ (by assumption) (by assumption)).mono ?_; rintro e w' ⟨rfl, rfl⟩) | (go_at_call 22; refine (phase_any _ _ _ (by assumption) (by assumption)).mono ?_; rintro e w' ⟨rfl, rfl⟩) | (go_at_call 13; refine (log2_any _ _ _ (by assumption) (by assumption)).mono ?_; rintro e w' ⟨rfl, rfl⟩) | (go_at_call 18; refine (realLog_any _ _ (by assumption)).mono ?_; rintro e w' ⟨rfl, rfl⟩))
    go_ret
    exact ⟨rfl, grown_drewN _ _⟩

theorem own : ownKnob Try.prog.godebug = none := by kernel_rfl
set_option maxRecDepth 100000 in
theorem lifted (os : Os) (started : os.Started) (H : Type) (enc : TypeId × Value → H) :
    ReturnsInHanded {} Try.checked os 10 .any (Rows.fnPolarPartsSpec.pre6 enc Try.prog Try.f10 Rows.fnPolarPartsRow.domain false) (Rows.fnPolarPartsSpec.post enc Try.prog Try.f10 false true false false) := by
  refine returnsInHanded_of_change (C := Try.checked) own started (by kernel_rfl) Try.func10
    (ChangeSpec.witness6 (enc := enc) (C := Try.checked) false ⟨#[], #[.float .f64 0, .float .f64 0], []⟩ 8 (by kernel_rfl) (by kernel_rfl) (by kernel_rfl) (by kernel_rfl)) ?_
  intro W base args ds gs before hval0 hW hcnd _
  have hval : ∀ (j : Nat) t v, Try.f10.params[j]? = some t → args[j]? = some v → Value.okWide Try.prog W .any base t v := hval0
  have hW' := hW
  obtain ⟨p, q, hA0, hV, rfl, hfz, hnd⟩ := hW
  have hA : DataW.TrodAll enc Try.prog W 0 (fun _ => true) true Try.f10.params.toList args.toList ds p := hA0
  rw [Try.params10] at hA hval
  obtain ⟨v0, vs0, d0, ds0, p0, q0, hargs, rfl, rfl, h0, r0⟩ := trodAll_cons hA
  obtain ⟨v1, vs1, d1, ds1, p1, q1, rfl, rfl, rfl, h1, r1⟩ := trodAll_cons r0
  obtain ⟨rfl, rfl, rfl⟩ := trodAll_nil r1
  obtain rfl : args = #[v0, v1] := by cases args; simp_all
  obtain ⟨rfl, rfl⟩ := trodVars_none hV
  obtain ⟨a0, rfl, rfl, rfl, w0⟩ := open_float Try.underlying22 (hval 0 22 v0 rfl rfl) h0
  obtain ⟨a1, rfl, rfl, rfl, w1⟩ := open_float Try.underlying22 (hval 1 22 v1 rfl rfl) h1
  clear hA0 hval0
  simp only [List.append_nil] at hW'
  refine (walk a0 a1 (wd_of_wf w0) (wd_of_wf w1) W).mono fun e W' ⟨he, hg⟩ => ?_
  subst he
  exact ⟨_, rfl, post_of_same (pa := []) (pv := []) hW' (fun _ _ _ => (trodAll_cons_mk (shut_bool Try.underlying4 _) trodAll_mk0)) (fun sp _ => (trodAll_cons_mk (shut_float Try.underlying22 w0) (trodAll_cons_mk (shut_float Try.underlying22 w1) trodAll_mk0))) (fun _ _ => rfl) rfl
    (hg.frame _) hg.2.1 (ok_one (by kernel_rfl) rfl (okWide_bool_mk Try.underlying4 _))⟩
theorem over : Rows.fnPolarPartsRow.holds Try.pinned (OpenSpec.ofChange Rows.fnPolarPartsSpec) :=
  OpenClaim.holds_of_wide 10 Try.f10 rfl rfl rfl rfl rfl rfl rfl ⟨rfl, rfl, rfl, rfl, rfl⟩ rfl rfl rfl rfl rfl (by kernel_rfl) Try.func10 (by kernel_rfl)
    (of_decide_eq_true (by kernel_rfl)) (by unfold Func.isWrapper; first | (rw [if_pos (by decide +kernel)]; kernel_rfl) | (rw [if_neg (by decide +kernel)]; exact ⟨rfl, rfl⟩))
    (fun os started H enc _ => lifted os started H enc)
/-- The given statement. -/
theorem proved : Rows.FnPolarPartsSaid := over
end Go.Proofs.Ytnfidnfokfgepaa.fnPolarParts

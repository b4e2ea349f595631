/- Proved: for every 32-bit integer but 0 and every power of 2 from -900 to 900: the phases of the four numbers whose parts have the size of their product are pi/4, 3 pi/4 and these with the sign changed. No condition. -/
import Derived.Test.YtnfidnfokfgepaaRows
import Derived.Test.YtnfidnfokfgepaaMid
import Derived.Test.YtnfidnfokfgepaaHypotLaws
import Derived.Test.YtnfidnfokfgepaaPhaseLaws
import Derived.Test.YtnfidnfokfgepaaFrame
set_option linter.unusedSimpArgs false
set_option linter.unusedVariables false
namespace Go.Proofs.Ytnfidnfokfgepaa.fnDiagonal
open Go.ChangeShapes Go.WideShapes Go.ChangeAt Go.RowKit F64

theorem diag {u : Nat} (wu : Wd u) (fu : Fi u) (su : sg u = false) (u0 : rg u ≠ 0) :
    atan2W u u = 4605249457297304856 ∧ atan2W u (fneg u) = 4612488097114038738 ∧ atan2W (fneg u) u = 13828621494152080664 ∧ atan2W (fneg u) (fneg u) = 13835860133968814546 := by
  have wn := fneg_wd wu
  have fn := fneg_fi wu fu
  have sn : sg (fneg u) = true := by rw [fneg_sg wu, su]; rfl
  have rn : rg (fneg u) = rg u := fneg_rg wu
  have vp := val_pos su u0
  have q1 : fdiv u u = some ONE := by
    obtain ⟨z, e, R, s⟩ := div_rnd fu fu u0
    have : z = ONE := R.eq_word num_ONE ONE_wd (by rw [val_ONE, Rat.div_def, Rat.mul_inv_cancel _ (Rat.ne_of_gt vp)]) (by rw [s, su]; decide)
    rw [← this]; exact e
  have q2 : fdiv (fneg u) u = some (fneg ONE) := fdiv_negl wu fu fu u0 q1
  have q3 : fdiv u (fneg u) = some (fneg ONE) := by
    obtain ⟨z, e, R, s⟩ := div_rnd fu fn (by rw [rn]; exact u0)
    have : z = fneg ONE := R.eq_word (fneg_num ONE_wd num_ONE) (fneg_wd ONE_wd) (by
      rw [fneg_val ONE_wd, val_ONE, fneg_val wu]
      have e : val u / -(val u) = -1 := by
        have : val u = -1 * -(val u) := by grind
        rw [show val u / -(val u) = (-1 * -(val u)) / -(val u) from by rw [← this], Rat.mul_div_cancel (by grind)]
      rw [e]) (by rw [s, su, sn]; decide)
    rw [← this]; exact e
  have q4 : fdiv (fneg u) (fneg u) = some ONE := by
    have := fdiv_negl wu fu fn (by rw [rn]; exact u0) q3
    rwa [fneg_fneg ONE_wd] at this
  have n1 : isNan u = false := isNan_false.2 fu.num
  have n2 : isNan (fneg u) = false := isNan_false.2 fn.num
  have z1 : feq u 0 = false := by rw [feq_zero]; simpa using u0
  have z2 : feq (fneg u) 0 = false := by rw [feq_zero, rn]; simpa using u0
  have i1 : isInf u = false := by unfold isInf; unfold Fi at fu; simp; omega
  have i2 : isInf (fneg u) = false := by unfold isInf; rw [rn]; unfold Fi at fu; simp; omega
  have l1 : flt u 0 = false := by rw [flt_zero]; unfold minus; rw [su]; rfl
  have l2 : flt (fneg u) 0 = true := by rw [flt_zero]; unfold minus; rw [sn, n2, rn]; simpa using u0
  have a1 : atanW ONE = 4605249457297304856 := by decide +kernel
  have a2 : atanW (fneg ONE) = 13828621494152080664 := by decide +kernel
  have b1 : fle 4605249457297304856 0 = false := by decide +kernel
  have b2 : fle 13828621494152080664 0 = true := by decide +kernel
  have b3 : fsub 4605249457297304856 PI = some 13835860133968814546 := by unfold fsub; decide +kernel
  have b4 : fadd 13828621494152080664 PI = some 4612488097114038738 := by unfold fadd; decide +kernel
  refine ⟨?_, ?_, ?_, ?_⟩
  · unfold atan2W quadW; rw [n1, z1, i1, q1, Option.getD_some, a1, l1]; rfl
  · unfold atan2W quadW; rw [n1, n2, z1, z2, i1, i2, q3, Option.getD_some, a2, l2, b2, b4]; rfl
  · unfold atan2W quadW; rw [n1, n2, z1, z2, i1, i2, q2, Option.getD_some, a2, l1]; rfl
  · unfold atan2W quadW; rw [n2, z2, i2, q4, Option.getD_some, a1, l2, b1, b3]; rfl

theorem pow_bounds {k : Int} (h1 : -900 ≤ k) (h2 : k ≤ 900) (N : Nat) (hN : N < 2 * B) : (N : Rat) * (2 : Rat) ^ k ≤ MAXF := by
  have a1 : (N : Rat) ≤ ((2 * B : Nat) : Rat) := Rat.natCast_le_natCast.2 (by omega)
  have a2 := zp_mono h2
  have a3 : ((2 * B : Nat) : Rat) * (2 : Rat) ^ (900 : Int) ≤ MAXF := by unfold MAXF; decide +kernel
  have a4 := Rat.mul_le_mul_of_nonneg_right a1 (Rat.le_of_lt (zp_pos k))
  have a5 := Rat.mul_le_mul_of_nonneg_left a2 (show (0 : Rat) ≤ ((2 * B : Nat) : Rat) from Rat.natCast_nonneg)
  exact Rat.le_trans a4 (Rat.le_trans a5 a3)
theorem unit_word {n k : Int} (hn : n.natAbs ≤ 2147483648) (n0 : n ≠ 0) (h1 : -900 ≤ k) (h2 : k ≤ 900) :
    ∃ u, fmul (sizeW (floatOfInt .f64 n)) (powW k) = some u ∧ Wd u ∧ Fi u ∧ sg u = false ∧ rg u ≠ 0 := by
  have hBv : B = 4503599627370496 := rfl
  obtain ⟨w0, f0, s0, v0⟩ := sizeInt_spec (n := n) (by omega)
  obtain ⟨p1, p2, p3, p4, p5⟩ := powW_spec (k := k) (by omega) (by omega)
  obtain ⟨u, eu, Ru, su⟩ := mul_rnd f0 p2
  rw [s0, p3] at su
  have hv : val (sizeW (floatOfInt .f64 n)) * val (powW k) = pm false * ((n.natAbs : Rat) * (2 : Rat) ^ k) := by
    rw [v0, p5]; unfold pm; simp
  obtain ⟨vu, fu⟩ := Ru.rep false n.natAbs k (by omega) (by omega) (pow_bounds h1 h2 _ (by omega)) hv
  refine ⟨u, eu, Ru.wd, fu, su, ?_⟩
  intro h
  rw [hv, val_pos_word su, h, rv_zero] at vu
  have : (0 : Rat) < (n.natAbs : Rat) * (2 : Rat) ^ k := Rat.mul_pos (Rat.natCast_pos.2 (by omega)) (zp_pos k)
  unfold pm at vu
  simp only [Bool.false_eq_true, if_false, Rat.one_mul] at vu
  rw [← vu] at this
  exact Rat.lt_irrefl this

set_option maxRecDepth 100000 in
theorem walk_core (n k : Int) (f u : Nat) (w : World) (n0 : (n == 0) = false) (h1 : -900 ≤ k) (h2 : k ≤ 900) (g0 : floatOfInt .f64 n = f) (wf : Wd f) (g1 : fmul (sizeW f) (powW k) = some u) (wu : Wd u)
    (c1 : atan2W u u = 4605249457297304856) (c2 : atan2W u (fneg u) = 4612488097114038738) (c3 : atan2W (fneg u) u = 13828621494152080664) (c4 : atan2W (fneg u) (fneg u) = 13835860133968814546) :
    Calls Try.prog 7 #[.int .i32 n, .int .i64 k] w fun e w' => e = .returned (.bool true) ∧ Grown w w' := by
  have k1 : feq 4605249457297304856 4605249457297304856 = true := by decide +kernel
  have k2 : feq 4612488097114038738 4612488097114038738 = true := by decide +kernel
  have k3 : feq 13828621494152080664 13828621494152080664 = true := by decide +kernel
  have k4 : feq 13835860133968814546 13835860133968814546 = true := by decide +kernel
  have wn := fneg_wd wu
  go_enter Try.func7, Try.ntmps7
  go_wp2_with (first | (go_at_call 23; refine (bound_any _ _ (by omega) (by omega)).mono ?_; rintro e w' ⟨rfl, rfl⟩) | first | (go_at_call 16; refine (isNan_any _ _).mono ?_; rintro e w' ⟨rfl, rfl⟩) | (go_at_call 38; refine (infinity_any _).mono ?_; rintro e w' ⟨rfl, rfl⟩) | (go_at_call 36; refine (isInf_any _ _ (by assumption)).mono ?_; rintro e w' ⟨rfl, rfl⟩) | (go_at_call 33; refine (isFinite_any _ _ (by assumption)).mono ?_; rintro e w' ⟨rfl, rfl⟩) | (go_at_call 26; refine (minus_any _ _ (by assumption)).mono ?_; rintro e w' ⟨rfl, rfl⟩) | (go_at_call 17; refine (size_any _ _ (by assumption)).mono ?_; rintro e w' ⟨rfl, rfl⟩) | (go_at_call 15; refine (like_any _ _ _ (by assumption) (by assumption)).mono ?_; rintro e w' ⟨rfl, rfl⟩) | (go_at_call 14; refine (same_any _ _ _ (by assumption) (by assumption)).mono ?_; rintro e w' ⟨rfl, rfl⟩) | (go_at_call 27; refine (conj_any _ _ _).mono ?_; rintro e w' ⟨rfl, rfl⟩) | (go_at_call 25; refine (abs_any _ _ _).mono ?_; rintro e w' ⟨rfl, rfl⟩) | (go_at_call 56; refine (mAbs_any _ _ (by assumption)).mono ?_; rintro e w' ⟨rfl, rfl⟩) | (go_at_call 20; refine (polar_any _ _ _ (by assumption) (by assumption)).mono ?_; rintro e w' ⟨rfl, rfl⟩) | (go_at_call 22; refine (phase_any _ _ _ (by assumption) (by assumption)).mono ?_; rintro e w' ⟨rfl, rfl⟩) | (go_at_call 13; refine (log2_any _ _ _ (by assumption) (by assumption)).mono ?_; rintro e w' ⟨rfl, rfl⟩) | (go_at_call 18; refine (realLog_any _ _ (by assumption)).mono ?_; rintro e w' ⟨rfl, rfl⟩))
  go_ret
  exact ⟨rfl, Grown.refl _⟩
theorem walk (n k : Int) (wn : (Lit.int .i32 n).wf = true) (wk : (Lit.int .i64 k).wf = true) (w : World) :
    Calls Try.prog 7 #[.int .i32 n, .int .i64 k] w fun e w' => e = .returned (.bool true) ∧ Grown w w' := by
  obtain ⟨n1, n2⟩ := i32_of_wf wn
  clear wn wk
  cases n0 : (n == 0)
  · by_cases h1 : k < -900
    · go_enter Try.func7, Try.ntmps7
      go_wp2_with fail
      go_ret
      exact ⟨rfl, Grown.refl _⟩
    · by_cases h2 : 900 < k
      · go_enter Try.func7, Try.ntmps7
        go_wp2_with fail
        go_ret
        exact ⟨rfl, Grown.refl _⟩
      · have hBv : B = 4503599627370496 := rfl
        obtain ⟨u, e1, wu, fu, su, u0⟩ := unit_word (n := n) (k := k) (by omega) (by simpa using n0) (by omega) (by omega)
        obtain ⟨c1, c2, c3, c4⟩ := diag wu fu su u0
        exact walk_core n k _ u w n0 (by omega) (by omega) rfl (ofInt_spec (n := n) (by omega)).1 e1 wu c1 c2 c3 c4
  · go_enter Try.func7, Try.ntmps7
    go_wp2_with fail
    go_ret
    exact ⟨rfl, Grown.refl _⟩

theorem own : ownKnob Try.prog.godebug = none := by kernel_rfl
set_option maxRecDepth 100000 in
theorem lifted (os : Os) (started : os.Started) (H : Type) (enc : TypeId × Value → H) :
    ReturnsInHanded {} Try.checked os 7 .any (Rows.fnDiagonalSpec.pre6 enc Try.prog Try.f7 Rows.fnDiagonalRow.domain false) (Rows.fnDiagonalSpec.post enc Try.prog Try.f7 false true false false) := by
  refine returnsInHanded_of_change (C := Try.checked) own started (by kernel_rfl) Try.func7
    (ChangeSpec.witness6 (enc := enc) (C := Try.checked) false ⟨#[], #[.int .i32 0, .int .i64 0], []⟩ 8 (by kernel_rfl) (by kernel_rfl) (by kernel_rfl) (by kernel_rfl)) ?_
  intro W base args ds gs before hval0 hW hcnd _
  have hval : ∀ (j : Nat) t v, Try.f7.params[j]? = some t → args[j]? = some v → Value.okWide Try.prog W .any base t v := hval0
  have hW' := hW
  obtain ⟨p, q, hA0, hV, rfl, hfz, hnd⟩ := hW
  have hA : DataW.TrodAll enc Try.prog W 0 (fun _ => true) true Try.f7.params.toList args.toList ds p := hA0
  rw [Try.params7] at hA hval
  obtain ⟨v0, vs0, d0, ds0, p0, q0, hargs, rfl, rfl, h0, r0⟩ := trodAll_cons hA
  obtain ⟨v1, vs1, d1, ds1, p1, q1, rfl, rfl, rfl, h1, r1⟩ := trodAll_cons r0
  obtain ⟨rfl, rfl, rfl⟩ := trodAll_nil r1
  obtain rfl : args = #[v0, v1] := by cases args; simp_all
  obtain ⟨rfl, rfl⟩ := trodVars_none hV
  obtain ⟨a0, rfl, rfl, rfl, w0⟩ := open_int Try.underlying21 (hval 0 21 v0 rfl rfl) h0
  obtain ⟨a1, rfl, rfl, rfl, w1⟩ := open_int Try.underlying3 (hval 1 3 v1 rfl rfl) h1
  clear hA0 hval0
  simp only [List.append_nil] at hW'
  refine (walk a0 a1 w0 w1 W).mono fun e W' ⟨he, hg⟩ => ?_
  subst he
  exact ⟨_, rfl, post_of_same (pa := []) (pv := []) hW' (fun _ _ _ => (trodAll_cons_mk (shut_bool Try.underlying4 _) trodAll_mk0)) (fun sp _ => (trodAll_cons_mk (shut_int Try.underlying21 w0) (trodAll_cons_mk (shut_int Try.underlying3 w1) trodAll_mk0))) (fun _ _ => rfl) rfl
    (hg.frame _) hg.2.1 (ok_one (by kernel_rfl) rfl (okWide_bool_mk Try.underlying4 _))⟩
theorem over : Rows.fnDiagonalRow.holds Try.pinned (OpenSpec.ofChange Rows.fnDiagonalSpec) :=
  OpenClaim.holds_of_wide 7 Try.f7 rfl rfl rfl rfl rfl rfl rfl ⟨rfl, rfl, rfl, rfl, rfl⟩ rfl rfl rfl rfl rfl (by kernel_rfl) Try.func7 (by kernel_rfl)
    (of_decide_eq_true (by kernel_rfl)) (by unfold Func.isWrapper; first | (rw [if_pos (by decide +kernel)]; kernel_rfl) | (rw [if_neg (by decide +kernel)]; exact ⟨rfl, rfl⟩))
    (fun os started H enc _ => lifted os started H enc)
/-- The given statement. -/
theorem proved : Rows.FnDiagonalSaid := over
end Go.Proofs.Ytnfidnfokfgepaa.fnDiagonal

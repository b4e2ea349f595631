/- Proved: for every two words, Abs is the same for every change of their signs and of their order, is no number or not below 0, and is above 0 exactly where a part is not 0. No condition. -/
import Derived.Test.YtnbcodpmglifdaaRows
import Derived.Test.YtnbcodpmglifdaaMid
import Derived.Test.YtnbcodpmglifdaaHypotLaws
import Derived.Test.YtnbcodpmglifdaaFrame
set_option linter.unusedSimpArgs false
set_option linter.unusedVariables false
namespace Go.Proofs.Ytnbcodpmglifdaa.fnAbsSides
open Go.ChangeShapes Go.WideShapes Go.ChangeAt Go.RowKit F64

theorem sides1 {x y : Nat} (hx : Wd x) (hy : Wd y) (h : isNan (hypotW x y) = false) : fgt (hypotW x y) 0 = (!feq x 0 || !feq y 0) := by
  have hn := isNan_false.1 h
  have h0 := val_nonneg (hypotW_sg x y)
  rw [fgt_val hn num_zero, val_zero, feq_zero, feq_zero]
  by_cases c1 : rg x = INF ∨ rg y = INF
  · have hI : INF ≠ 0 := by decide
    have e : hypotW x y = INF := hypotW_inf (by unfold isInf; simpa using c1)
    rw [e, val_INF]
    have h1 : 0 < rv INF := rv_pos (by decide)
    rcases c1 with c | c
    · simp [c, hI, h1]
    · simp [c, hI, h1]
  · have hf : Fi x ∧ Fi y := by
      by_cases c2 : INF < rg x ∨ INF < rg y
      · have e : hypotW x y = 9221120237041090561 := hypotW_nan (by unfold isInf; simp; omega) (by unfold isInf; simp; omega) (by unfold isNan; simpa using c2)
        rw [e] at h; exact absurd h (by decide)
      · unfold Fi; omega
    by_cases c3 : rg x = 0 ∧ rg y = 0
    · rw [hypotW_zero c3.1 c3.2, val_zero]
      simp [c3.1, c3.2]
    · have := hypotW_pos hf.1 hf.2 c3
      have e : (!decide (rg x = 0) || !decide (rg y = 0)) = true := by
        simp; omega
      rw [e]; simpa using this

theorem sides {x y : Nat} (hx : Wd x) (hy : Wd y) (h : isNan (hypotW x y) = false) :
    fgt (hypotW x y) 0 = (!feq x 0 || !feq y 0) ∧ feq (hypotW x y) 0 = (feq x 0 && feq y 0) := by
  have hn := isNan_false.1 h
  have h0 := val_nonneg (hypotW_sg x y)
  have key : fgt (hypotW x y) 0 = (!feq x 0 || !feq y 0) := by
    exact sides1 hx hy h
  refine ⟨key, ?_⟩
  have e : feq (hypotW x y) 0 = !fgt (hypotW x y) 0 := by
    rw [fgt_val hn num_zero, feq_val hn num_zero, val_zero]
    by_cases c : 0 < val (hypotW x y)
    · have : val (hypotW x y) ≠ 0 := by grind
      simp [c, this]
    · have : val (hypotW x y) = 0 := by grind
      simp [this]
  rw [e, key]; cases feq x 0 <;> cases feq y 0 <;> rfl

theorem walk (x y : Nat) (hx : Wd x) (hy : Wd y) (w : World) :
    Calls Try.prog 13 #[.float .f64 x, .float .f64 y] w fun e w' => e = .returned (.bool true) ∧ Grown w w' := by
  have hw := hypotW_wd x y
  have e1 : hypotW (fneg x) y = hypotW x y := hypotW_congr (fneg_rg hx) rfl
  have e2 : hypotW x (fneg y) = hypotW x y := hypotW_congr rfl (fneg_rg hy)
  have e3 : hypotW y x = hypotW x y := hypotW_comm x y
  have e4 : hypotW (fneg y) (fneg x) = hypotW x y := by rw [hypotW_congr (fneg_rg hy) (fneg_rg hx), hypotW_comm]
  have hs := same_self (hypotW x y)
  have HS := hidd (@sides x y hx hy)
  cases h1 : isNan (hypotW x y)
  · obtain ⟨h2, h3⟩ := HS.out h1
    cases h4 : feq x 0 <;> cases h5 : feq y 0
    all_goals
      rw [h4, h5] at h2 h3
      simp only [Bool.not_true, Bool.not_false, Bool.or_true, Bool.or_false, Bool.true_or, Bool.or_self, Bool.and_true, Bool.and_false, Bool.and_self] at h2 h3
      go_enter Try.func13, Try.ntmps13
      go_wp2_with (first | (go_at_call 19; refine (isNan_any _ _).mono ?_; rintro e w' ⟨rfl, rfl⟩) | (go_at_call 18; refine (infinity_any _).mono ?_; rintro e w' ⟨rfl, rfl⟩) | (go_at_call 21; refine (isInf_any _ _ (by assumption)).mono ?_; rintro e w' ⟨rfl, rfl⟩) | (go_at_call 25; refine (isFinite_any _ _ (by assumption)).mono ?_; rintro e w' ⟨rfl, rfl⟩) | (go_at_call 33; refine (minus_any _ _ (by assumption)).mono ?_; rintro e w' ⟨rfl, rfl⟩) | (go_at_call 26; refine (size_any _ _ (by assumption)).mono ?_; rintro e w' ⟨rfl, rfl⟩) | (go_at_call 16; refine (same_any _ _ _ (by assumption) (by assumption)).mono ?_; rintro e w' ⟨rfl, rfl⟩) | (go_at_call 15; refine (conj_any _ _ _).mono ?_; rintro e w' ⟨rfl, rfl⟩) | (go_at_call 17; refine (inf_any _).mono ?_; rintro e w' ⟨rfl, rfl⟩) | (go_at_call 23; refine (naN_any _).mono ?_; rintro e w' ⟨rfl, rfl⟩) | (go_at_call 20; refine (isInf2_any _ _ _ (by assumption) (by assumption)).mono ?_; rintro e w' ⟨rfl, rfl⟩) | (go_at_call 22; refine (isNaN2_any _ _ _ (by assumption) (by assumption)).mono ?_; rintro e w' ⟨rfl, rfl⟩) | (go_at_call 30; refine (abs_any _ _ _).mono ?_; rintro e w' ⟨rfl, rfl⟩) | (go_at_call 28; refine (realHypot_any _ _ _).mono ?_; rintro e w' ⟨rfl, rfl⟩) | (go_at_call 50; refine (mAbs_any _ _ (by assumption)).mono ?_; rintro e w' ⟨rfl, rfl⟩))
      go_ret
      exact ⟨rfl, Grown.refl _⟩
  · go_enter Try.func13, Try.ntmps13
    go_wp2_with (first | (go_at_call 19; refine (isNan_any _ _).mono ?_; rintro e w' ⟨rfl, rfl⟩) | (go_at_call 18; refine (infinity_any _).mono ?_; rintro e w' ⟨rfl, rfl⟩) | (go_at_call 21; refine (isInf_any _ _ (by assumption)).mono ?_; rintro e w' ⟨rfl, rfl⟩) | (go_at_call 25; refine (isFinite_any _ _ (by assumption)).mono ?_; rintro e w' ⟨rfl, rfl⟩) | (go_at_call 33; refine (minus_any _ _ (by assumption)).mono ?_; rintro e w' ⟨rfl, rfl⟩) | (go_at_call 26; refine (size_any _ _ (by assumption)).mono ?_; rintro e w' ⟨rfl, rfl⟩) | (go_at_call 16; refine (same_any _ _ _ (by assumption) (by assumption)).mono ?_; rintro e w' ⟨rfl, rfl⟩) | (go_at_call 15; refine (conj_any _ _ _).mono ?_; rintro e w' ⟨rfl, rfl⟩) | (go_at_call 17; refine (inf_any _).mono ?_; rintro e w' ⟨rfl, rfl⟩) | (go_at_call 23; refine (naN_any _).mono ?_; rintro e w' ⟨rfl, rfl⟩) | (go_at_call 20; refine (isInf2_any _ _ _ (by assumption) (by assumption)).mono ?_; rintro e w' ⟨rfl, rfl⟩) | (go_at_call 22; refine (isNaN2_any _ _ _ (by assumption) (by assumption)).mono ?_; rintro e w' ⟨rfl, rfl⟩) | (go_at_call 30; refine (abs_any _ _ _).mono ?_; rintro e w' ⟨rfl, rfl⟩) | (go_at_call 28; refine (realHypot_any _ _ _).mono ?_; rintro e w' ⟨rfl, rfl⟩) | (go_at_call 50; refine (mAbs_any _ _ (by assumption)).mono ?_; rintro e w' ⟨rfl, rfl⟩))
    go_ret
    exact ⟨rfl, Grown.refl _⟩

theorem own : ownKnob Try.prog.godebug = none := by kernel_rfl
set_option maxRecDepth 100000 in
theorem lifted (os : Os) (started : os.Started) (H : Type) (enc : TypeId × Value → H) :
    ReturnsInHanded {} Try.checked os 13 .any (Rows.fnAbsSidesSpec.pre6 enc Try.prog Try.f13 Rows.fnAbsSidesRow.domain false) (Rows.fnAbsSidesSpec.post enc Try.prog Try.f13 false true false false) := by
  refine returnsInHanded_of_change (C := Try.checked) own started (by kernel_rfl) Try.func13
    (ChangeSpec.witness6 (enc := enc) (C := Try.checked) false ⟨#[], #[.float .f64 0, .float .f64 0], []⟩ 8 (by kernel_rfl) (by kernel_rfl) (by kernel_rfl) (by kernel_rfl)) ?_
  intro W base args ds gs before hval0 hW hcnd _
  have hval : ∀ (j : Nat) t v, Try.f13.params[j]? = some t → args[j]? = some v → Value.okWide Try.prog W .any base t v := hval0
  have hW' := hW
  obtain ⟨p, q, hA0, hV, rfl, hfz, hnd⟩ := hW
  have hA : DataW.TrodAll enc Try.prog W 0 (fun _ => true) true Try.f13.params.toList args.toList ds p := hA0
  rw [Try.params13] at hA hval
  obtain ⟨v0, vs0, d0, ds0, p0, q0, hargs, rfl, rfl, h0, r0⟩ := trodAll_cons hA
  obtain ⟨v1, vs1, d1, ds1, p1, q1, rfl, rfl, rfl, h1, r1⟩ := trodAll_cons r0
  obtain ⟨rfl, rfl, rfl⟩ := trodAll_nil r1
  obtain rfl : args = #[v0, v1] := by cases args; simp_all
  obtain ⟨rfl, rfl⟩ := trodVars_none hV
  obtain ⟨a0, rfl, rfl, rfl, w0⟩ := open_float Try.underlying22 (hval 0 22 v0 rfl rfl) h0
  obtain ⟨a1, rfl, rfl, rfl, w1⟩ := open_float Try.underlying22 (hval 1 22 v1 rfl rfl) h1
  clear hA0 hval0
  simp only [List.append_nil] at hW'
  refine (walk a0 a1 (wd_of_wf w0) (wd_of_wf w1) W).mono fun e W' ⟨he, hg⟩ => ?_
  subst he
  exact ⟨_, rfl, post_of_same (pa := []) (pv := []) hW' (fun _ _ _ => (trodAll_cons_mk (shut_bool Try.underlying4 _) trodAll_mk0)) (fun sp _ => (trodAll_cons_mk (shut_float Try.underlying22 w0) (trodAll_cons_mk (shut_float Try.underlying22 w1) trodAll_mk0))) (fun _ _ => rfl) rfl
    (hg.frame _) hg.2.1 (ok_one (by kernel_rfl) rfl (okWide_bool_mk Try.underlying4 _))⟩
theorem over : Rows.fnAbsSidesRow.holds Try.pinned (OpenSpec.ofChange Rows.fnAbsSidesSpec) :=
  OpenClaim.holds_of_wide 13 Try.f13 rfl rfl rfl rfl rfl rfl rfl ⟨rfl, rfl, rfl, rfl, rfl⟩ rfl rfl rfl rfl rfl (by kernel_rfl) Try.func13 (by kernel_rfl)
    (of_decide_eq_true (by kernel_rfl)) (by unfold Func.isWrapper; first | (rw [if_pos (by decide +kernel)]; kernel_rfl) | (rw [if_neg (by decide +kernel)]; exact ⟨rfl, rfl⟩))
    (fun os started H enc _ => lifted os started H enc)
/-- The given statement. -/
theorem proved : Rows.FnAbsSidesSaid := over
end Go.Proofs.Ytnbcodpmglifdaa.fnAbsSides

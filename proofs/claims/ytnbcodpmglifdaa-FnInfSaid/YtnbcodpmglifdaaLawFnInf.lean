/- Proved: for every word, Inf gives two parts +Inf, and the word is less than that, equal to it, or no number. No condition. -/
import Derived.Test.YtnbcodpmglifdaaRows
import Derived.Test.YtnbcodpmglifdaaMid
import Derived.Test.YtnbcodpmglifdaaHypotLaws
import Derived.Test.YtnbcodpmglifdaaFrame
set_option linter.unusedSimpArgs false
set_option linter.unusedVariables false
namespace Go.Proofs.Ytnbcodpmglifdaa.fnInf
open Go.ChangeShapes Go.WideShapes Go.ChangeAt Go.RowKit F64

theorem inf_cases (x : Nat) : flt x 9218868437227405312 = true ∨ (flt x 9218868437227405312 = false ∧ feq x 9218868437227405312 = true) ∨ (flt x 9218868437227405312 = false ∧ feq x 9218868437227405312 = false ∧ isNan x = true) := by
  unfold flt feq
  by_cases h : Num x
  · have hI : Num 9218868437227405312 := by unfold Num; decide
    rw [lt_iff h hI, eq_iff h hI]
    have e : val 9218868437227405312 = rv INF := val_INF
    rw [e, val_pm]
    have h1 := rv_nonneg (rg x)
    have h2 : rv (rg x) ≤ rv INF := rv_le_iff.2 h
    have h3 : 0 < rv INF := rv_pos (by decide)
    by_cases h4 : pm (sg x) * rv (rg x) < rv INF
    · left; simpa using h4
    · right; left
      refine ⟨by simpa using h4, ?_⟩
      simp only [decide_eq_true_eq]
      unfold pm at *
      cases h5 : sg x <;> simp [h5] at h4 ⊢ <;> grind
  · right; right
    rw [order_nanl h]
    exact ⟨rfl, rfl, isNan_iff.2 h⟩

theorem walk (x : Nat) (hx : Wd x) (w : World) :
    Calls Try.prog 4 #[.float .f64 x] w fun e w' => e = .returned (.bool true) ∧ Grown w w' := by
  have hI : feq 9218868437227405312 9218868437227405312 = true := by decide +kernel
  rcases inf_cases x with h | ⟨h, h2⟩ | ⟨h, h2, h3⟩
  all_goals
    go_enter Try.func4, Try.ntmps4
    go_wp2_with (first | (go_at_call 19; refine (isNan_any _ _).mono ?_; rintro e w' ⟨rfl, rfl⟩) | (go_at_call 18; refine (infinity_any _).mono ?_; rintro e w' ⟨rfl, rfl⟩) | (go_at_call 21; refine (isInf_any _ _ (by assumption)).mono ?_; rintro e w' ⟨rfl, rfl⟩) | (go_at_call 25; refine (isFinite_any _ _ (by assumption)).mono ?_; rintro e w' ⟨rfl, rfl⟩) | (go_at_call 33; refine (minus_any _ _ (by assumption)).mono ?_; rintro e w' ⟨rfl, rfl⟩) | (go_at_call 26; refine (size_any _ _ (by assumption)).mono ?_; rintro e w' ⟨rfl, rfl⟩) | (go_at_call 16; refine (same_any _ _ _ (by assumption) (by assumption)).mono ?_; rintro e w' ⟨rfl, rfl⟩) | (go_at_call 15; refine (conj_any _ _ _).mono ?_; rintro e w' ⟨rfl, rfl⟩) | (go_at_call 17; refine (inf_any _).mono ?_; rintro e w' ⟨rfl, rfl⟩) | (go_at_call 23; refine (naN_any _).mono ?_; rintro e w' ⟨rfl, rfl⟩) | (go_at_call 20; refine (isInf2_any _ _ _ (by assumption) (by assumption)).mono ?_; rintro e w' ⟨rfl, rfl⟩) | (go_at_call 22; refine (isNaN2_any _ _ _ (by assumption) (by assumption)).mono ?_; rintro e w' ⟨rfl, rfl⟩) | (go_at_call 30; refine (abs_any _ _ _).mono ?_; rintro e w' ⟨rfl, rfl⟩) | (go_at_call 28; refine (realHypot_any _ _ _).mono ?_; rintro e w' ⟨rfl, rfl⟩) | (go_at_call 50; refine (mAbs_any _ _ (by assumption)).mono ?_; rintro e w' ⟨rfl, rfl⟩))
    go_ret
    exact ⟨rfl, Grown.refl _⟩

theorem own : ownKnob Try.prog.godebug = none := by kernel_rfl
set_option maxRecDepth 100000 in
theorem lifted (os : Os) (started : os.Started) (H : Type) (enc : TypeId × Value → H) :
    ReturnsInHanded {} Try.checked os 4 .any (Rows.fnInfSpec.pre6 enc Try.prog Try.f4 Rows.fnInfRow.domain false) (Rows.fnInfSpec.post enc Try.prog Try.f4 false true false false) := by
  refine returnsInHanded_of_change (C := Try.checked) own started (by kernel_rfl) Try.func4
    (ChangeSpec.witness6 (enc := enc) (C := Try.checked) false ⟨#[], #[.float .f64 0], []⟩ 8 (by kernel_rfl) (by kernel_rfl) (by kernel_rfl) (by kernel_rfl)) ?_
  intro W base args ds gs before hval0 hW hcnd _
  have hval : ∀ (j : Nat) t v, Try.f4.params[j]? = some t → args[j]? = some v → Value.okWide Try.prog W .any base t v := hval0
  have hW' := hW
  obtain ⟨p, q, hA0, hV, rfl, hfz, hnd⟩ := hW
  have hA : DataW.TrodAll enc Try.prog W 0 (fun _ => true) true Try.f4.params.toList args.toList ds p := hA0
  rw [Try.params4] at hA hval
  obtain ⟨v0, vs0, d0, ds0, p0, q0, hargs, rfl, rfl, h0, r0⟩ := trodAll_cons hA
  obtain ⟨rfl, rfl, rfl⟩ := trodAll_nil r0
  obtain rfl : args = #[v0] := by cases args; simp_all
  obtain ⟨rfl, rfl⟩ := trodVars_none hV
  obtain ⟨a0, rfl, rfl, rfl, w0⟩ := open_float Try.underlying22 (hval 0 22 v0 rfl rfl) h0
  clear hA0 hval0
  simp only [List.append_nil] at hW'
  refine (walk a0 (wd_of_wf w0) W).mono fun e W' ⟨he, hg⟩ => ?_
  subst he
  exact ⟨_, rfl, post_of_same (pa := []) (pv := []) hW' (fun _ _ _ => (trodAll_cons_mk (shut_bool Try.underlying4 _) trodAll_mk0)) (fun sp _ => (trodAll_cons_mk (shut_float Try.underlying22 w0) trodAll_mk0)) (fun _ _ => rfl) rfl
    (hg.frame _) hg.2.1 (ok_one (by kernel_rfl) rfl (okWide_bool_mk Try.underlying4 _))⟩
theorem over : Rows.fnInfRow.holds Try.pinned (OpenSpec.ofChange Rows.fnInfSpec) :=
  OpenClaim.holds_of_wide 4 Try.f4 rfl rfl rfl rfl rfl rfl rfl ⟨rfl, rfl, rfl, rfl, rfl⟩ rfl rfl rfl rfl rfl (by kernel_rfl) Try.func4 (by kernel_rfl)
    (of_decide_eq_true (by kernel_rfl)) (by unfold Func.isWrapper; first | (rw [if_pos (by decide +kernel)]; kernel_rfl) | (rw [if_neg (by decide +kernel)]; exact ⟨rfl, rfl⟩))
    (fun os started H enc _ => lifted os started H enc)
/-- The given statement. -/
theorem proved : Rows.FnInfSaid := over
end Go.Proofs.Ytnbcodpmglifdaa.fnInf

/- Proved: for every two finite words, Abs is not less than the size of each, and, where the sum of both sizes is finite, not more than this sum. No condition. -/
import Derived.Test.YtnbcodpmglifdaaRows
import Derived.Test.YtnbcodpmglifdaaMid
import Derived.Test.YtnbcodpmglifdaaHypotLaws
import Derived.Test.YtnbcodpmglifdaaFrame
set_option linter.unusedSimpArgs false
set_option linter.unusedVariables false
namespace Go.Proofs.Ytnbcodpmglifdaa.fnAbsBetween
open Go.ChangeShapes Go.WideShapes Go.ChangeAt Go.RowKit F64

theorem between {x y : Nat} (hx : Wd x) (hy : Wd y) (h1 : isFin x = true) (h2 : isFin y = true) :
    ∃ c, fge (hypotW x y) (sizeW x) = true ∧ fge (hypotW x y) (sizeW y) = true ∧ fadd (sizeW x) (sizeW y) = some c ∧ Wd c ∧ fle (hypotW x y) c = true := by
  have fx : Fi x := by unfold isFin at h1; simpa [Fi] using h1
  have fy : Fi y := by unfold isFin at h2; simpa [Fi] using h2
  have ex := sizeW_num hx fx.num
  have ey := sizeW_num hy fy.num
  rw [ex, ey]
  have hn := hypotW_num (x := x) (y := y) (Or.inr (Or.inr ⟨fx.num, fy.num⟩))
  have fx' : Fi (rg x) := by unfold Fi at *; rw [rg_rg]; exact fx
  have fy' : Fi (rg y) := by unfold Fi at *; rw [rg_rg]; exact fy
  have hg := hypotW_ge fx fy
  obtain ⟨c, e, R, _, _⟩ := add_rnd fx' fy'
  have hc : val (hypotW x y) ≤ val c := by
    by_cases c3 : rg x = 0 ∧ rg y = 0
    · rw [hypotW_zero c3.1 c3.2, val_zero]
      have := R.lo 0 num_zero (by rw [val_zero, c3.1, c3.2, val_zero]; grind)
      rwa [val_zero] at this
    · obtain ⟨big, small, r, s, t, q, hb, fb, fs, sb, ss, h0, hle, H⟩ := hypotW_gen fx fy c3
      by_cases c4 : rg small = 0
      · -- on an axis it is exact
        have hz : val (hypotW x y) = val big := by
          rcases hb with ⟨rfl, rfl⟩ | ⟨rfl, rfl⟩
          · rw [rg_rg] at c4; rw [hypotW_comm, hypotW_axis c4 fx.num]
          · rw [rg_rg] at c4; rw [hypotW_axis c4 fy.num]
        have hsm : val small = 0 := by rw [val_pos_word ss, c4, rv_zero]
        rw [hz]
        refine R.lo big fb.num ?_
        rcases hb with ⟨rfl, rfl⟩ | ⟨rfl, rfl⟩ <;> rw [hsm] <;> grind
      · have hlt := H.below sb ss h0 c4
        have h00 : 0 ≤ val q * val big := Rat.mul_nonneg (val_nonneg H.sq) (val_nonneg sb)
        rcases hb with ⟨rfl, rfl⟩ | ⟨rfl, rfl⟩
        · exact mul_le_add H.fq fx' fx' fy' h00 (by grind) H.d5 e
        · exact mul_le_add H.fq fy' fx' fy' h00 hlt H.d5 e
  refine ⟨c, ?_, ?_, e, R.wd, ?_⟩
  · rw [fge_val hn fx'.num]; simpa using hg.1
  · rw [fge_val hn fy'.num]; simpa using hg.2
  · rw [fle_val hn R.num]; simpa using hc

theorem walk (x y : Nat) (hx : Wd x) (hy : Wd y) (w : World) :
    Calls Try.prog 12 #[.float .f64 x, .float .f64 y] w fun e w' => e = .returned (.bool true) ∧ Grown w w' := by
  have hw := hypotW_wd x y
  have HS := hidd (@between x y hx hy)
  cases h1 : isFin x
  · go_enter Try.func12, Try.ntmps12
    go_wp2_with (first | (go_at_call 19; refine (isNan_any _ _).mono ?_; rintro e w' ⟨rfl, rfl⟩) | (go_at_call 18; refine (infinity_any _).mono ?_; rintro e w' ⟨rfl, rfl⟩) | (go_at_call 21; refine (isInf_any _ _ (by assumption)).mono ?_; rintro e w' ⟨rfl, rfl⟩) | (go_at_call 25; refine (isFinite_any _ _ (by assumption)).mono ?_; rintro e w' ⟨rfl, rfl⟩) | (go_at_call 33; refine (minus_any _ _ (by assumption)).mono ?_; rintro e w' ⟨rfl, rfl⟩) | (go_at_call 26; refine (size_any _ _ (by assumption)).mono ?_; rintro e w' ⟨rfl, rfl⟩) | (go_at_call 16; refine (same_any _ _ _ (by assumption) (by assumption)).mono ?_; rintro e w' ⟨rfl, rfl⟩) | (go_at_call 15; refine (conj_any _ _ _).mono ?_; rintro e w' ⟨rfl, rfl⟩) | (go_at_call 17; refine (inf_any _).mono ?_; rintro e w' ⟨rfl, rfl⟩) | (go_at_call 23; refine (naN_any _).mono ?_; rintro e w' ⟨rfl, rfl⟩) | (go_at_call 20; refine (isInf2_any _ _ _ (by assumption) (by assumption)).mono ?_; rintro e w' ⟨rfl, rfl⟩) | (go_at_call 22; refine (isNaN2_any _ _ _ (by assumption) (by assumption)).mono ?_; rintro e w' ⟨rfl, rfl⟩) | (go_at_call 30; refine (abs_any _ _ _).mono ?_; rintro e w' ⟨rfl, rfl⟩) | (go_at_call 28; refine (realHypot_any _ _ _).mono ?_; rintro e w' ⟨rfl, rfl⟩) | (go_at_call 50; refine (mAbs_any _ _ (by assumption)).mono ?_; rintro e w' ⟨rfl, rfl⟩))
    go_ret
    exact ⟨rfl, grown_drewN _ _⟩
  · cases h2 : isFin y
    · go_enter Try.func12, Try.ntmps12
      go_wp2_with (first | (go_at_call 19; refine (isNan_any _ _).mono ?_; rintro e w' ⟨rfl, rfl⟩) | (go_at_call 18; refine (infinity_any _).mono ?_; rintro e w' ⟨rfl, rfl⟩) | (go_at_call 21; refine (isInf_any _ _ (by assumption)).mono ?_; rintro e w' ⟨rfl, rfl⟩) | (go_at_call 25; refine (isFinite_any _ _ (by assumption)).mono ?_; rintro e w' ⟨rfl, rfl⟩) | (go_at_call 33; refine (minus_any _ _ (by assumption)).mono ?_; rintro e w' ⟨rfl, rfl⟩) | (go_at_call 26; refine (size_any _ _ (by assumption)).mono ?_; rintro e w' ⟨rfl, rfl⟩) | (go_at_call 16; refine (same_any _ _ _ (by assumption) (by assumption)).mono ?_; rintro e w' ⟨rfl, rfl⟩) | (go_at_call 15; refine (conj_any _ _ _).mono ?_; rintro e w' ⟨rfl, rfl⟩) | (go_at_call 17; refine (inf_any _).mono ?_; rintro e w' ⟨rfl, rfl⟩) | (go_at_call 23; refine (naN_any _).mono ?_; rintro e w' ⟨rfl, rfl⟩) | (go_at_call 20; refine (isInf2_any _ _ _ (by assumption) (by assumption)).mono ?_; rintro e w' ⟨rfl, rfl⟩) | (go_at_call 22; refine (isNaN2_any _ _ _ (by assumption) (by assumption)).mono ?_; rintro e w' ⟨rfl, rfl⟩) | (go_at_call 30; refine (abs_any _ _ _).mono ?_; rintro e w' ⟨rfl, rfl⟩) | (go_at_call 28; refine (realHypot_any _ _ _).mono ?_; rintro e w' ⟨rfl, rfl⟩) | (go_at_call 50; refine (mAbs_any _ _ (by assumption)).mono ?_; rintro e w' ⟨rfl, rfl⟩))
      go_ret
      exact ⟨rfl, grown_drewN _ _⟩
    · obtain ⟨c, h3, h4, h5, h6, h7⟩ := HS.out h1 h2
      cases h8 : isFin c
      all_goals
        go_enter Try.func12, Try.ntmps12
        go_wp2_with (first | (go_at_call 19; refine (isNan_any _ _).mono ?_; rintro e w' ⟨rfl, rfl⟩) | (go_at_call 18; refine (infinity_any _).mono ?_; rintro e w' ⟨rfl, rfl⟩) | (go_at_call 21; refine (isInf_any _ _ (by assumption)).mono ?_; rintro e w' ⟨rfl, rfl⟩) | (go_at_call 25; refine (isFinite_any _ _ (by assumption)).mono ?_; rintro e w' ⟨rfl, rfl⟩) | (go_at_call 33; refine (minus_any _ _ (by assumption)).mono ?_; rintro e w' ⟨rfl, rfl⟩) | (go_at_call 26; refine (size_any _ _ (by assumption)).mono ?_; rintro e w' ⟨rfl, rfl⟩) | (go_at_call 16; refine (same_any _ _ _ (by assumption) (by assumption)).mono ?_; rintro e w' ⟨rfl, rfl⟩) | (go_at_call 15; refine (conj_any _ _ _).mono ?_; rintro e w' ⟨rfl, rfl⟩) | (go_at_call 17; refine (inf_any _).mono ?_; rintro e w' ⟨rfl, rfl⟩) | (go_at_call 23; refine (naN_any _).mono ?_; rintro e w' ⟨rfl, rfl⟩) | (go_at_call 20; refine (isInf2_any _ _ _ (by assumption) (by assumption)).mono ?_; rintro e w' ⟨rfl, rfl⟩) | (go_at_call 22; refine (isNaN2_any _ _ _ (by assumption) (by assumption)).mono ?_; rintro e w' ⟨rfl, rfl⟩) | (go_at_call 30; refine (abs_any _ _ _).mono ?_; rintro e w' ⟨rfl, rfl⟩) | (go_at_call 28; refine (realHypot_any _ _ _).mono ?_; rintro e w' ⟨rfl, rfl⟩) | (go_at_call 50; refine (mAbs_any _ _ (by assumption)).mono ?_; rintro e w' ⟨rfl, rfl⟩))
        go_ret
        exact ⟨rfl, grown_drewN _ _⟩

theorem own : ownKnob Try.prog.godebug = none := by kernel_rfl
set_option maxRecDepth 100000 in
theorem lifted (os : Os) (started : os.Started) (H : Type) (enc : TypeId × Value → H) :
    ReturnsInHanded {} Try.checked os 12 .any (Rows.fnAbsBetweenSpec.pre6 enc Try.prog Try.f12 Rows.fnAbsBetweenRow.domain false) (Rows.fnAbsBetweenSpec.post enc Try.prog Try.f12 false true false false) := by
  refine returnsInHanded_of_change (C := Try.checked) own started (by kernel_rfl) Try.func12
    (ChangeSpec.witness6 (enc := enc) (C := Try.checked) false ⟨#[], #[.float .f64 0, .float .f64 0], []⟩ 8 (by kernel_rfl) (by kernel_rfl) (by kernel_rfl) (by kernel_rfl)) ?_
  intro W base args ds gs before hval0 hW hcnd _
  have hval : ∀ (j : Nat) t v, Try.f12.params[j]? = some t → args[j]? = some v → Value.okWide Try.prog W .any base t v := hval0
  have hW' := hW
  obtain ⟨p, q, hA0, hV, rfl, hfz, hnd⟩ := hW
  have hA : DataW.TrodAll enc Try.prog W 0 (fun _ => true) true Try.f12.params.toList args.toList ds p := hA0
  rw [Try.params12] at hA hval
  obtain ⟨v0, vs0, d0, ds0, p0, q0, hargs, rfl, rfl, h0, r0⟩ := trodAll_cons hA
  obtain ⟨v1, vs1, d1, ds1, p1, q1, rfl, rfl, rfl, h1, r1⟩ := trodAll_cons r0
  obtain ⟨rfl, rfl, rfl⟩ := trodAll_nil r1
  obtain rfl : args = #[v0, v1] := by cases args; simp_all
  obtain ⟨rfl, rfl⟩ := trodVars_none hV
  obtain ⟨a0, rfl, rfl, rfl, w0⟩ := open_float Try.underlying22 (hval 0 22 v0 rfl rfl) h0
  obtain ⟨a1, rfl, rfl, rfl, w1⟩ := open_float Try.underlying22 (hval 1 22 v1 rfl rfl) h1
  clear hA0 hval0
  simp only [List.append_nil] at hW'
  refine (walk a0 a1 (wd_of_wf w0) (wd_of_wf w1) W).mono fun e W' ⟨he, hg⟩ => ?_
  subst he
  exact ⟨_, rfl, post_of_same (pa := []) (pv := []) hW' (fun _ _ _ => (trodAll_cons_mk (shut_bool Try.underlying4 _) trodAll_mk0)) (fun sp _ => (trodAll_cons_mk (shut_float Try.underlying22 w0) (trodAll_cons_mk (shut_float Try.underlying22 w1) trodAll_mk0))) (fun _ _ => rfl) rfl
    (hg.frame _) hg.2.1 (ok_one (by kernel_rfl) rfl (okWide_bool_mk Try.underlying4 _))⟩
theorem over : Rows.fnAbsBetweenRow.holds Try.pinned (OpenSpec.ofChange Rows.fnAbsBetweenSpec) :=
  OpenClaim.holds_of_wide 12 Try.f12 rfl rfl rfl rfl rfl rfl rfl ⟨rfl, rfl, rfl, rfl, rfl⟩ rfl rfl rfl rfl rfl (by kernel_rfl) Try.func12 (by kernel_rfl)
    (of_decide_eq_true (by kernel_rfl)) (by unfold Func.isWrapper; first | (rw [if_pos (by decide +kernel)]; kernel_rfl) | (rw [if_neg (by decide +kernel)]; exact ⟨rfl, rfl⟩))
    (fun os started H enc _ => lifted os started H enc)
/-- The given statement. -/
theorem proved : Rows.FnAbsBetweenSaid := over
end Go.Proofs.Ytnbcodpmglifdaa.fnAbsBetween

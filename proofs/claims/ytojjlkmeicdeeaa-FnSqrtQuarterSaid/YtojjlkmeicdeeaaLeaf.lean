/- What the small functions of package spec and of package math give, told in plain functions on words: one contract a function. -/
import Derived.Test.YtojjlkmeicdeeaaOps
import Derived.Test.YtojjlkmeicdeeaaChecked

set_option linter.unusedSimpArgs false
set_option linter.unusedVariables false
namespace Go.Proofs.Ytojjlkmeicdeeaa
open Go.RowKit F64

@[go_sem] theorem callBits (x : Nat) (w : World) : (callFunc 60 #[.float .f64 x]).run Try.prog w = .ok (.value (.int .u64 x)) w := by
  rw [run_callFunc_extern (e := Extern.MathFloatBits.float64bits) Try.func60 (by kernel_rfl) (by kernel_rfl) (by kernel_rfl) (by kernel_rfl)]; rfl
@[go_sem] theorem callFrombits (n : Int) (w : World) : (callFunc 59 #[.int .u64 n]).run Try.prog w = .ok (.value (.float .f64 n.toNat)) w := by
  rw [run_callFunc_extern (e := Extern.MathFloatBits.float64frombits) Try.func59 (by kernel_rfl) (by kernel_rfl) (by kernel_rfl) (by kernel_rfl)]; rfl
@[go_sem] theorem callSqrt (x : Nat) (w : World) : (callFunc 55 #[.float .f64 x]).run Try.prog w = .ok (.value (.float .f64 (fv (fsqrt x) x x w))) (w.drewN (fd (fsqrt x))) := by
  rw [run_callFunc_extern (e := Extern.MathSqrt.sqrt) Try.func55 (by kernel_rfl) (by kernel_rfl) (by kernel_rfl) (by kernel_rfl), run_sqrt_any]; rfl

theorem isNan_any (x : Nat) (w : World) :
    Calls Try.prog 19 #[.float .f64 x] w fun e w' => e = .returned (.bool (isNan x)) ∧ w = w' := by
  go_enter Try.func19, Try.ntmps19
  go_wp2
  go_ret
  exact ⟨by rw [← feq_self]; rfl, rfl⟩
theorem mIsNaN_any (x : Nat) (w : World) :
    Calls Try.prog 48 #[.float .f64 x] w fun e w' => e = .returned (.bool (isNan x)) ∧ w = w' := by
  go_enter Try.func48, Try.ntmps48
  go_wp2
  go_ret
  exact ⟨by rw [← feq_self]; rfl, rfl⟩

theorem one_div_zero : fdiv 4607182418800017408 0 = some 9218868437227405312 := by unfold fdiv; decide +kernel
theorem zero_div_zero : fdiv 0 0 = none := by unfold fdiv; decide +kernel
theorem infinity_any (w : World) :
    Calls Try.prog 20 #[] w fun e w' => e = .returned (.float .f64 9218868437227405312) ∧ w = w' := by
  have h := one_div_zero
  go_enter Try.func20, Try.ntmps20
  go_wp2
  go_ret
  exact ⟨rfl, rfl⟩
/-- Some NaN is returned; one draw. -/
def NanRet (w : World) (e : Ending) (w' : World) : Prop := ∃ r, ¬ Num r ∧ Wd r ∧ e = .returned (.float .f64 r) ∧ w' = w.drewN 1
theorem nan_any (w : World) : Calls Try.prog 51 #[] w (NanRet w) := by
  have h := zero_div_zero
  go_enter Try.func51, Try.ntmps51
  go_wp2
  go_ret
  exact ⟨_, (nanAt_nan 0 0 w).1, (nanAt_nan 0 0 w).2, rfl, rfl⟩
theorem isInf_any (x : Nat) (w : World) (hx : Wd x) :
    Calls Try.prog 35 #[.float .f64 x] w fun e w' => e = .returned (.bool (isInf x)) ∧ w = w' := by
  have H := hidd (isInf_eq hx)
  cases h : feq x 9218868437227405312
  · go_enter Try.func35, Try.ntmps35
    go_wp2_with (go_at_call 20; refine (infinity_any _).mono ?_; rintro e w' ⟨rfl, rfl⟩)
    go_ret
    exact ⟨by rw [← H.out, h, Bool.false_or]; rfl, rfl⟩
  · go_enter Try.func35, Try.ntmps35
    go_wp2_with (go_at_call 20; refine (infinity_any _).mono ?_; rintro e w' ⟨rfl, rfl⟩)
    go_ret
    exact ⟨by rw [← H.out, h, Bool.true_or]; rfl, rfl⟩
theorem isFinite_any (x : Nat) (w : World) (hx : Wd x) :
    Calls Try.prog 17 #[.float .f64 x] w fun e w' => e = .returned (.bool (isFin x)) ∧ w' = w.drewN (fd (fsub x x)) := by
  go_enter Try.func17, Try.ntmps17
  go_wp2
  go_ret
  exact ⟨by rw [← isFin_sub hx _ (fv_res (fsub x x) x x w)]; rfl, rfl⟩
theorem minus_any (x : Nat) (w : World) (hx : Wd x) :
    Calls Try.prog 31 #[.float .f64 x] w fun e w' => e = .returned (.bool (minus x)) ∧ w = w' := by
  have H := hidd (@flt_zero x)
  have H2 := hidd (@feq_zero x)
  cases h : flt x 0
  · cases h2 : feq x 0
    · go_enter Try.func31, Try.ntmps31
      go_wp2
      go_ret
      refine ⟨?_, rfl⟩
      have h3 : minus x = false := by rw [h] at H; rw [h2] at H2; have a := H.out; have b := H2.out; revert a b; cases minus x <;> simp
      rw [h3]; rfl
    · obtain ⟨z, hz, hm⟩ := minus_zero_div hx h2
      go_enter Try.func31, Try.ntmps31
      go_wp2
      go_ret
      exact ⟨rfl, rfl⟩
  · go_enter Try.func31, Try.ntmps31
    go_wp2
    go_ret
    refine ⟨?_, rfl⟩
    have h3 : minus x = true := by rw [h] at H; have a := H.out; revert a; cases minus x <;> simp
    rw [h3]; rfl
theorem mAbs_any (x : Nat) (w : World) (hx : Wd x) :
    Calls Try.prog 54 #[.float .f64 x] w fun e w' => e = .returned (.float .f64 (rg x)) ∧ w = w' := by
  have H := hidd (and_low hx)
  go_enter Try.func54, Try.ntmps54
  go_wp2
  go_ret
  exact ⟨by rw [← H.out]; rfl, rfl⟩
theorem mNaN_any (w : World) :
    Calls Try.prog 58 #[] w fun e w' => e = .returned (.float .f64 9221120237041090561) ∧ w = w' := by
  go_enter Try.func58, Try.ntmps58
  go_wp2
  go_ret
  exact ⟨rfl, rfl⟩
theorem mInf_any (w : World) :
    Calls Try.prog 53 #[.int .i64 1] w fun e w' => e = .returned (.float .f64 9218868437227405312) ∧ w = w' := by
  go_enter Try.func53, Try.ntmps53
  go_wp2
  go_ret
  exact ⟨rfl, rfl⟩
theorem mIsInf0_any (x : Nat) (w : World) (hx : Wd x) :
    Calls Try.prog 47 #[.float .f64 x, .int .i64 0] w fun e w' => e = .returned (.bool (isInf x)) ∧ w = w' := by
  have H := hidd (@isInf_gt x)
  go_enter Try.func47, Try.ntmps47
  go_wp2_with (go_at_call 54; refine (mAbs_any _ _ hx).mono ?_; rintro e w' ⟨rfl, rfl⟩)
  go_ret
  exact ⟨by rw [← H.out]; rfl, rfl⟩
theorem mIsInf1_any (x : Nat) (w : World) :
    Calls Try.prog 47 #[.float .f64 x, .int .i64 1] w fun e w' => e = .returned (.bool (isPInf x)) ∧ w = w' := by
  have H := hidd (@isPInf_gt x)
  go_enter Try.func47, Try.ntmps47
  go_wp2_with fail
  go_ret
  exact ⟨by rw [← H.out]; rfl, rfl⟩
theorem mCopysign_any (x s : Nat) (w : World) (hx : Wd x) (hs : Wd s) :
    Calls Try.prog 52 #[.float .f64 x, .float .f64 s] w fun e w' => e = .returned (.float .f64 (copyW x s)) ∧ w = w' := by
  have H := hidd (copy_bits hx hs)
  go_enter Try.func52, Try.ntmps52
  go_wp2
  go_ret
  exact ⟨by rw [← H.out]; rfl, rfl⟩
theorem size_any (x : Nat) (w : World) (hx : Wd x) :
    Calls Try.prog 26 #[.float .f64 x] w fun e w' => e = .returned (.float .f64 (sizeW x)) ∧ w = w' := by
  cases h : minus x
  all_goals
    have H : Hid (sizeW x = if minus x then fneg x else x) := rfl
    go_enter Try.func26, Try.ntmps26
    go_wp2_with (go_at_call 31; refine (minus_any _ _ hx).mono ?_; rintro e w' ⟨rfl, rfl⟩)
    go_ret
    exact ⟨by rw [H.out, h]; rfl, rfl⟩
theorem like_any (x s : Nat) (w : World) (hx : Wd x) (hs : Wd s) :
    Calls Try.prog 32 #[.float .f64 x, .float .f64 s] w fun e w' => e = .returned (.float .f64 (likeW x s)) ∧ w = w' := by
  cases h : minus s
  all_goals
    have H : Hid (likeW x s = if minus s then fneg (sizeW x) else sizeW x) := rfl
    go_enter Try.func32, Try.ntmps32
    go_wp2_with (first | (go_at_call 31; refine (minus_any _ _ hs).mono ?_; rintro e w' ⟨rfl, rfl⟩) | (go_at_call 26; refine (size_any _ _ hx).mono ?_; rintro e w' ⟨rfl, rfl⟩))
    go_ret
    exact ⟨by rw [H.out, h]; rfl, rfl⟩
theorem same_any (x y : Nat) (w : World) (hx : Wd x) (hy : Wd y) :
    Calls Try.prog 22 #[.float .f64 x, .float .f64 y] w fun e w' => e = .returned (.bool (same x y)) ∧ w = w' := by
  cases h1 : isNan x <;> cases h2 : isNan y
  · have H := hidd (same_eq hx hy h1 h2)
    cases h3 : feq x y
    · go_enter Try.func22, Try.ntmps22
      go_wp2_with (first | (go_at_call 19; refine (isNan_any _ _).mono ?_; rintro e w' ⟨rfl, rfl⟩) | (go_at_call 31; refine (minus_any _ _ (by assumption)).mono ?_; rintro e w' ⟨rfl, rfl⟩))
      go_ret
      exact ⟨by rw [← H.out, h3]; rfl, rfl⟩
    · go_enter Try.func22, Try.ntmps22
      go_wp2_with (first | (go_at_call 19; refine (isNan_any _ _).mono ?_; rintro e w' ⟨rfl, rfl⟩) | (go_at_call 31; refine (minus_any _ _ (by assumption)).mono ?_; rintro e w' ⟨rfl, rfl⟩))
      go_ret
      exact ⟨by rw [← H.out, h3]; rfl, rfl⟩
  all_goals
    have H : Hid (same x y = ((isNan x && isNan y) || x == y)) := rfl
    have H2 : Hid (x = y → isNan x = isNan y) := fun h => by rw [h]
    go_enter Try.func22, Try.ntmps22
    go_wp2_with (go_at_call 19; refine (isNan_any _ _).mono ?_; rintro e w' ⟨rfl, rfl⟩)
    go_ret
    refine ⟨?_, rfl⟩
    rw [H.out, h1, h2]
    first
      | rfl
      | (have hne : x ≠ y := fun h3 => absurd (H2.out h3) (by rw [h1, h2]; decide)
         have : (x == y) = false := by simpa using hne
         rw [this]; rfl)

end Go.Proofs.Ytojjlkmeicdeeaa

/- What the functions of package cmplx, and those of the thin package impl, give, told in plain functions on words: one contract a function. -/
import Derived.Test.YtnbcodpmglifdaaLeaf
import Derived.Test.YtnbcodpmglifdaaHypotLaws
import Derived.OwnWalk
set_option linter.unusedSimpArgs false
set_option linter.unusedVariables false
namespace Go.Proofs.Ytnbcodpmglifdaa
open Go.RowKit F64

theorem ret_bool {a b : Bool} (h : a = b) : Ending.returned (.bool a) = .returned (.bool b) := by rw [h]
theorem ret_float {a b : Nat} (h : a = b) : Ending.returned (.float .f64 a) = .returned (.float .f64 b) := by rw [h]

theorem split_any (x y : Nat) (w : World) :
    Calls Try.prog 31 #[.complex .f64 x y] w fun e w' => e = .returned (.tuple #[.float .f64 x, .float .f64 y]) ∧ w = w' := by
  go_enter Try.func31, Try.ntmps31
  go_wp2
  go_ret2
  exact ⟨rfl, rfl⟩
theorem cConj_any (x y : Nat) (w : World) :
    Calls Try.prog 32 #[.complex .f64 x y] w fun e w' => e = .returned (.complex .f64 x (fneg y)) ∧ w = w' := by
  go_enter Try.func32, Try.ntmps32
  go_wp2
  go_ret
  exact ⟨rfl, rfl⟩
theorem conj_any (x y : Nat) (w : World) :
    Calls Try.prog 15 #[.float .f64 x, .float .f64 y] w fun e w' => e = .returned (.tuple #[.float .f64 x, .float .f64 (fneg y)]) ∧ w = w' := by
  go_enter Try.func15, Try.ntmps15
  go_wp2_with (first | (go_at_call 32; refine (cConj_any _ _ _).mono ?_; rintro e w' ⟨rfl, rfl⟩) | (go_at_call 31; refine (split_any _ _ _).mono ?_; rintro e w' ⟨rfl, rfl⟩))
  go_ret2
  exact ⟨rfl, rfl⟩
theorem cInf_any (w : World) :
    Calls Try.prog 34 #[] w fun e w' => e = .returned (.complex .f64 9218868437227405312 9218868437227405312) ∧ w = w' := by
  go_enter Try.func34, Try.ntmps34
  go_wp2_with (go_at_call 42; refine (mInf_any _).mono ?_; rintro e w' ⟨rfl, rfl⟩)
  go_ret
  exact ⟨rfl, rfl⟩
theorem inf_any (w : World) :
    Calls Try.prog 17 #[] w fun e w' => e = .returned (.tuple #[.float .f64 9218868437227405312, .float .f64 9218868437227405312]) ∧ w = w' := by
  go_enter Try.func17, Try.ntmps17
  go_wp2_with (first | (go_at_call 34; refine (cInf_any _).mono ?_; rintro e w' ⟨rfl, rfl⟩) | (go_at_call 31; refine (split_any _ _ _).mono ?_; rintro e w' ⟨rfl, rfl⟩))
  go_ret2
  exact ⟨rfl, rfl⟩
theorem cNaN_any (w : World) :
    Calls Try.prog 37 #[] w fun e w' => e = .returned (.complex .f64 9221120237041090561 9221120237041090561) ∧ w = w' := by
  go_enter Try.func37, Try.ntmps37
  go_wp2_with (go_at_call 45; refine (mNaN_any _).mono ?_; rintro e w' ⟨rfl, rfl⟩)
  go_ret
  exact ⟨rfl, rfl⟩
theorem naN_any (w : World) :
    Calls Try.prog 23 #[] w fun e w' => e = .returned (.tuple #[.float .f64 9221120237041090561, .float .f64 9221120237041090561]) ∧ w = w' := by
  go_enter Try.func23, Try.ntmps23
  go_wp2_with (first | (go_at_call 37; refine (cNaN_any _).mono ?_; rintro e w' ⟨rfl, rfl⟩) | (go_at_call 31; refine (split_any _ _ _).mono ?_; rintro e w' ⟨rfl, rfl⟩))
  go_ret2
  exact ⟨rfl, rfl⟩
/-- IsInf and IsNaN of two parts. -/
def cIsInf (x y : Nat) : Bool := isInf x || isInf y
def cIsNaN (x y : Nat) : Bool := !cIsInf x y && (isNan x || isNan y)
theorem cIsInf_any (x y : Nat) (w : World) (hx : Wd x) (hy : Wd y) :
    Calls Try.prog 35 #[.complex .f64 x y] w fun e w' => e = .returned (.bool (cIsInf x y)) ∧ w = w' := by
  have H : Hid (cIsInf x y = (isInf x || isInf y)) := rfl
  cases h1 : isInf x <;> cases h2 : isInf y
  all_goals
    go_enter Try.func35, Try.ntmps35
    go_wp2_with (go_at_call 43; refine (mIsInf0_any _ _ (by assumption)).mono ?_; rintro e w' ⟨rfl, rfl⟩)
    go_ret
    exact ⟨by rw [H.out, h1, h2]; rfl, rfl⟩
theorem isInf2_any (x y : Nat) (w : World) (hx : Wd x) (hy : Wd y) :
    Calls Try.prog 20 #[.float .f64 x, .float .f64 y] w fun e w' => e = .returned (.bool (cIsInf x y)) ∧ w = w' := by
  go_enter Try.func20, Try.ntmps20
  go_wp2_with (go_at_call 35; refine (cIsInf_any _ _ _ hx hy).mono ?_; rintro e w' ⟨rfl, rfl⟩)
  go_ret
  exact ⟨rfl, rfl⟩
theorem cIsNaN_any (x y : Nat) (w : World) (hx : Wd x) (hy : Wd y) :
    Calls Try.prog 36 #[.complex .f64 x y] w fun e w' => e = .returned (.bool (cIsNaN x y)) ∧ w = w' := by
  have H : Hid (cIsNaN x y = (!(isInf x || isInf y) && (isNan x || isNan y))) := rfl
  cases h1 : isInf x <;> cases h2 : isInf y <;> cases h3 : isNan x <;> cases h4 : isNan y
  all_goals
    go_enter Try.func36, Try.ntmps36
    go_wp2_with (first | (go_at_call 43; refine (mIsInf0_any _ _ (by assumption)).mono ?_; rintro e w' ⟨rfl, rfl⟩) | (go_at_call 44; refine (mIsNaN_any _ _).mono ?_; rintro e w' ⟨rfl, rfl⟩))
    go_ret
    exact ⟨by rw [H.out, h1, h2, h3, h4]; rfl, rfl⟩
theorem isNaN2_any (x y : Nat) (w : World) (hx : Wd x) (hy : Wd y) :
    Calls Try.prog 22 #[.float .f64 x, .float .f64 y] w fun e w' => e = .returned (.bool (cIsNaN x y)) ∧ w = w' := by
  go_enter Try.func22, Try.ntmps22
  go_wp2_with (go_at_call 36; refine (cIsNaN_any _ _ _ hx hy).mono ?_; rintro e w' ⟨rfl, rfl⟩)
  go_ret
  exact ⟨rfl, rfl⟩
@[go_sem] theorem callHypot (x y : Nat) (w : World) : (callFunc 47 #[.float .f64 x, .float .f64 y]).run Try.prog w = .ok (.value (.float .f64 (hypotW x y))) w := by
  rw [run_callFunc_extern (e := Extern.MathHypot.archHypot) Try.func47 (by kernel_rfl) (by kernel_rfl) (by kernel_rfl) (by kernel_rfl), run_archHypot]; rfl
theorem mHypot_any (x y : Nat) (w : World) :
    Calls Try.prog 39 #[.float .f64 x, .float .f64 y] w fun e w' => e = .returned (.float .f64 (hypotW x y)) ∧ w = w' := by
  go_enter Try.func39, Try.ntmps39
  go_wp2
  go_ret
  exact ⟨rfl, rfl⟩
theorem cAbs_any (x y : Nat) (w : World) :
    Calls Try.prog 41 #[.complex .f64 x y] w fun e w' => e = .returned (.float .f64 (hypotW x y)) ∧ w = w' := by
  go_enter Try.func41, Try.ntmps41
  go_wp2_with (go_at_call 39; refine (mHypot_any _ _ _).mono ?_; rintro e w' ⟨rfl, rfl⟩)
  go_ret
  exact ⟨rfl, rfl⟩
theorem abs_any (x y : Nat) (w : World) :
    Calls Try.prog 30 #[.float .f64 x, .float .f64 y] w fun e w' => e = .returned (.float .f64 (hypotW x y)) ∧ w = w' := by
  go_enter Try.func30, Try.ntmps30
  go_wp2_with (go_at_call 41; refine (cAbs_any _ _ _).mono ?_; rintro e w' ⟨rfl, rfl⟩)
  go_ret
  exact ⟨rfl, rfl⟩
theorem realHypot_any (x y : Nat) (w : World) :
    Calls Try.prog 28 #[.float .f64 x, .float .f64 y] w fun e w' => e = .returned (.float .f64 (hypotW x y)) ∧ w = w' := by
  go_enter Try.func28, Try.ntmps28
  go_wp2_with (go_at_call 39; refine (mHypot_any _ _ _).mono ?_; rintro e w' ⟨rfl, rfl⟩)
  go_ret
  exact ⟨rfl, rfl⟩
/-- A root, or some NaN, is returned. -/
def SqrtRet (x : Nat) (w : World) (e : Ending) (w' : World) : Prop := ∃ r, FRes (fsqrt x) r ∧ e = .returned (.float .f64 r) ∧ w' = w.drewN (fd (fsqrt x))
theorem mSqrt_any (x : Nat) (w : World) : Calls Try.prog 38 #[.float .f64 x] w (SqrtRet x w) := by
  go_enter Try.func38, Try.ntmps38
  go_wp2
  go_ret
  exact ⟨_, fv_res (fsqrt x) x x w, rfl, rfl⟩
theorem realSqrt_any (x : Nat) (w : World) : Calls Try.prog 24 #[.float .f64 x] w (SqrtRet x w) := by
  go_enter Try.func24, Try.ntmps24
  go_wp2_with (go_at_call 38; refine (mSqrt_any _ _).mono ?_; rintro e w' ⟨r, hr, rfl, rfl⟩)
  go_ret
  exact ⟨r, hr, rfl, rfl⟩

theorem realSqrt_some {x z : Nat} (h : fsqrt x = some z) (w : World) :
    Calls Try.prog 24 #[.float .f64 x] w fun e w' => e = .returned (.float .f64 z) ∧ w = w' := by
  refine (realSqrt_any x w).mono ?_
  rintro e w' ⟨r, hr, rfl, rfl⟩
  rw [h] at hr ⊢
  have : r = z := hr
  exact ⟨by rw [this], rfl⟩
/-- Where the standard names the absolute value, Hypot gives it. -/
def AbsRet (x y : Nat) (w : World) (e : Ending) (w' : World) : Prop := ∃ a b n, e = .returned (.tuple #[.float .f64 a, .bool b]) ∧ w' = w.drewN n ∧ Wd a ∧ (b = true → same (hypotW x y) a = true)
theorem specAbs_any (x y : Nat) (w : World) (hx : Wd x) (hy : Wd y) : Calls Try.prog 29 #[.float .f64 x, .float .f64 y] w (AbsRet x y w) := by
  by_cases c1 : isInf x = true ∨ isInf y = true
  · have H := hidd (hypotW_inf c1)
    rcases Bool.eq_false_or_eq_true (isInf x) with h1 | h1 <;> rcases Bool.eq_false_or_eq_true (isInf y) with h2 | h2
    · go_enter Try.func29, Try.ntmps29
      go_wp2_with (first | (go_at_call 19; refine (isNan_any _ _).mono ?_; rintro e w' ⟨rfl, rfl⟩) | (go_at_call 18; refine (infinity_any _).mono ?_; rintro e w' ⟨rfl, rfl⟩) | (go_at_call 21; refine (isInf_any _ _ (by assumption)).mono ?_; rintro e w' ⟨rfl, rfl⟩) | (go_at_call 25; refine (isFinite_any _ _ (by assumption)).mono ?_; rintro e w' ⟨rfl, rfl⟩) | (go_at_call 33; refine (minus_any _ _ (by assumption)).mono ?_; rintro e w' ⟨rfl, rfl⟩) | (go_at_call 26; refine (size_any _ _ (by assumption)).mono ?_; rintro e w' ⟨rfl, rfl⟩) | (go_at_call 16; refine (same_any _ _ _ (by assumption) (by assumption)).mono ?_; rintro e w' ⟨rfl, rfl⟩) | (go_at_call 15; refine (conj_any _ _ _).mono ?_; rintro e w' ⟨rfl, rfl⟩) | (go_at_call 17; refine (inf_any _).mono ?_; rintro e w' ⟨rfl, rfl⟩) | (go_at_call 23; refine (naN_any _).mono ?_; rintro e w' ⟨rfl, rfl⟩) | (go_at_call 20; refine (isInf2_any _ _ _ (by assumption) (by assumption)).mono ?_; rintro e w' ⟨rfl, rfl⟩) | (go_at_call 22; refine (isNaN2_any _ _ _ (by assumption) (by assumption)).mono ?_; rintro e w' ⟨rfl, rfl⟩) | (go_at_call 30; refine (abs_any _ _ _).mono ?_; rintro e w' ⟨rfl, rfl⟩) | (go_at_call 28; refine (realHypot_any _ _ _).mono ?_; rintro e w' ⟨rfl, rfl⟩) | (go_at_call 50; refine (mAbs_any _ _ (by assumption)).mono ?_; rintro e w' ⟨rfl, rfl⟩))
      go_ret2
      exact ⟨_, _, 0, rfl, rfl, by unfold Wd; decide, fun _ => same_of_eq H.out⟩
    · go_enter Try.func29, Try.ntmps29
      go_wp2_with (first | (go_at_call 19; refine (isNan_any _ _).mono ?_; rintro e w' ⟨rfl, rfl⟩) | (go_at_call 18; refine (infinity_any _).mono ?_; rintro e w' ⟨rfl, rfl⟩) | (go_at_call 21; refine (isInf_any _ _ (by assumption)).mono ?_; rintro e w' ⟨rfl, rfl⟩) | (go_at_call 25; refine (isFinite_any _ _ (by assumption)).mono ?_; rintro e w' ⟨rfl, rfl⟩) | (go_at_call 33; refine (minus_any _ _ (by assumption)).mono ?_; rintro e w' ⟨rfl, rfl⟩) | (go_at_call 26; refine (size_any _ _ (by assumption)).mono ?_; rintro e w' ⟨rfl, rfl⟩) | (go_at_call 16; refine (same_any _ _ _ (by assumption) (by assumption)).mono ?_; rintro e w' ⟨rfl, rfl⟩) | (go_at_call 15; refine (conj_any _ _ _).mono ?_; rintro e w' ⟨rfl, rfl⟩) | (go_at_call 17; refine (inf_any _).mono ?_; rintro e w' ⟨rfl, rfl⟩) | (go_at_call 23; refine (naN_any _).mono ?_; rintro e w' ⟨rfl, rfl⟩) | (go_at_call 20; refine (isInf2_any _ _ _ (by assumption) (by assumption)).mono ?_; rintro e w' ⟨rfl, rfl⟩) | (go_at_call 22; refine (isNaN2_any _ _ _ (by assumption) (by assumption)).mono ?_; rintro e w' ⟨rfl, rfl⟩) | (go_at_call 30; refine (abs_any _ _ _).mono ?_; rintro e w' ⟨rfl, rfl⟩) | (go_at_call 28; refine (realHypot_any _ _ _).mono ?_; rintro e w' ⟨rfl, rfl⟩) | (go_at_call 50; refine (mAbs_any _ _ (by assumption)).mono ?_; rintro e w' ⟨rfl, rfl⟩))
      go_ret2
      exact ⟨_, _, 0, rfl, rfl, by unfold Wd; decide, fun _ => same_of_eq H.out⟩
    · go_enter Try.func29, Try.ntmps29
      go_wp2_with (first | (go_at_call 19; refine (isNan_any _ _).mono ?_; rintro e w' ⟨rfl, rfl⟩) | (go_at_call 18; refine (infinity_any _).mono ?_; rintro e w' ⟨rfl, rfl⟩) | (go_at_call 21; refine (isInf_any _ _ (by assumption)).mono ?_; rintro e w' ⟨rfl, rfl⟩) | (go_at_call 25; refine (isFinite_any _ _ (by assumption)).mono ?_; rintro e w' ⟨rfl, rfl⟩) | (go_at_call 33; refine (minus_any _ _ (by assumption)).mono ?_; rintro e w' ⟨rfl, rfl⟩) | (go_at_call 26; refine (size_any _ _ (by assumption)).mono ?_; rintro e w' ⟨rfl, rfl⟩) | (go_at_call 16; refine (same_any _ _ _ (by assumption) (by assumption)).mono ?_; rintro e w' ⟨rfl, rfl⟩) | (go_at_call 15; refine (conj_any _ _ _).mono ?_; rintro e w' ⟨rfl, rfl⟩) | (go_at_call 17; refine (inf_any _).mono ?_; rintro e w' ⟨rfl, rfl⟩) | (go_at_call 23; refine (naN_any _).mono ?_; rintro e w' ⟨rfl, rfl⟩) | (go_at_call 20; refine (isInf2_any _ _ _ (by assumption) (by assumption)).mono ?_; rintro e w' ⟨rfl, rfl⟩) | (go_at_call 22; refine (isNaN2_any _ _ _ (by assumption) (by assumption)).mono ?_; rintro e w' ⟨rfl, rfl⟩) | (go_at_call 30; refine (abs_any _ _ _).mono ?_; rintro e w' ⟨rfl, rfl⟩) | (go_at_call 28; refine (realHypot_any _ _ _).mono ?_; rintro e w' ⟨rfl, rfl⟩) | (go_at_call 50; refine (mAbs_any _ _ (by assumption)).mono ?_; rintro e w' ⟨rfl, rfl⟩))
      go_ret2
      exact ⟨_, _, 0, rfl, rfl, by unfold Wd; decide, fun _ => same_of_eq H.out⟩
    · rw [h1, h2] at c1; simp at c1
  · have h1 : isInf x = false := by simpa using fun h => c1 (Or.inl h)
    have h2 : isInf y = false := by simpa using fun h => c1 (Or.inr h)
    clear c1
    by_cases c2 : isNan x = true ∨ isNan y = true
    · have H := hidd (hypotW_nan h1 h2 c2)
      have H2 : Hid (¬ Num 9221120237041090561) := by show ¬ Num 9221120237041090561; unfold Num; decide
      rcases Bool.eq_false_or_eq_true (isNan x) with h3 | h3 <;> rcases Bool.eq_false_or_eq_true (isNan y) with h4 | h4
      · clear c2
        go_enter Try.func29, Try.ntmps29
        go_wp2_with (first | (go_at_call 40; refine (nan_any _).mono ?_; rintro e w' ⟨r, hr, hrw, rfl, rfl⟩) | first | (go_at_call 19; refine (isNan_any _ _).mono ?_; rintro e w' ⟨rfl, rfl⟩) | (go_at_call 18; refine (infinity_any _).mono ?_; rintro e w' ⟨rfl, rfl⟩) | (go_at_call 21; refine (isInf_any _ _ (by assumption)).mono ?_; rintro e w' ⟨rfl, rfl⟩) | (go_at_call 25; refine (isFinite_any _ _ (by assumption)).mono ?_; rintro e w' ⟨rfl, rfl⟩) | (go_at_call 33; refine (minus_any _ _ (by assumption)).mono ?_; rintro e w' ⟨rfl, rfl⟩) | (go_at_call 26; refine (size_any _ _ (by assumption)).mono ?_; rintro e w' ⟨rfl, rfl⟩) | (go_at_call 16; refine (same_any _ _ _ (by assumption) (by assumption)).mono ?_; rintro e w' ⟨rfl, rfl⟩) | (go_at_call 15; refine (conj_any _ _ _).mono ?_; rintro e w' ⟨rfl, rfl⟩) | (go_at_call 17; refine (inf_any _).mono ?_; rintro e w' ⟨rfl, rfl⟩) | (go_at_call 23; refine (naN_any _).mono ?_; rintro e w' ⟨rfl, rfl⟩) | (go_at_call 20; refine (isInf2_any _ _ _ (by assumption) (by assumption)).mono ?_; rintro e w' ⟨rfl, rfl⟩) | (go_at_call 22; refine (isNaN2_any _ _ _ (by assumption) (by assumption)).mono ?_; rintro e w' ⟨rfl, rfl⟩) | (go_at_call 30; refine (abs_any _ _ _).mono ?_; rintro e w' ⟨rfl, rfl⟩) | (go_at_call 28; refine (realHypot_any _ _ _).mono ?_; rintro e w' ⟨rfl, rfl⟩) | (go_at_call 50; refine (mAbs_any _ _ (by assumption)).mono ?_; rintro e w' ⟨rfl, rfl⟩))
        go_ret2
        exact ⟨_, _, _, rfl, rfl, hrw, fun _ => same_nan (by rw [H.out]; exact H2.out) hr⟩
      · clear c2
        go_enter Try.func29, Try.ntmps29
        go_wp2_with (first | (go_at_call 40; refine (nan_any _).mono ?_; rintro e w' ⟨r, hr, hrw, rfl, rfl⟩) | first | (go_at_call 19; refine (isNan_any _ _).mono ?_; rintro e w' ⟨rfl, rfl⟩) | (go_at_call 18; refine (infinity_any _).mono ?_; rintro e w' ⟨rfl, rfl⟩) | (go_at_call 21; refine (isInf_any _ _ (by assumption)).mono ?_; rintro e w' ⟨rfl, rfl⟩) | (go_at_call 25; refine (isFinite_any _ _ (by assumption)).mono ?_; rintro e w' ⟨rfl, rfl⟩) | (go_at_call 33; refine (minus_any _ _ (by assumption)).mono ?_; rintro e w' ⟨rfl, rfl⟩) | (go_at_call 26; refine (size_any _ _ (by assumption)).mono ?_; rintro e w' ⟨rfl, rfl⟩) | (go_at_call 16; refine (same_any _ _ _ (by assumption) (by assumption)).mono ?_; rintro e w' ⟨rfl, rfl⟩) | (go_at_call 15; refine (conj_any _ _ _).mono ?_; rintro e w' ⟨rfl, rfl⟩) | (go_at_call 17; refine (inf_any _).mono ?_; rintro e w' ⟨rfl, rfl⟩) | (go_at_call 23; refine (naN_any _).mono ?_; rintro e w' ⟨rfl, rfl⟩) | (go_at_call 20; refine (isInf2_any _ _ _ (by assumption) (by assumption)).mono ?_; rintro e w' ⟨rfl, rfl⟩) | (go_at_call 22; refine (isNaN2_any _ _ _ (by assumption) (by assumption)).mono ?_; rintro e w' ⟨rfl, rfl⟩) | (go_at_call 30; refine (abs_any _ _ _).mono ?_; rintro e w' ⟨rfl, rfl⟩) | (go_at_call 28; refine (realHypot_any _ _ _).mono ?_; rintro e w' ⟨rfl, rfl⟩) | (go_at_call 50; refine (mAbs_any _ _ (by assumption)).mono ?_; rintro e w' ⟨rfl, rfl⟩))
        go_ret2
        exact ⟨_, _, _, rfl, rfl, hrw, fun _ => same_nan (by rw [H.out]; exact H2.out) hr⟩
      · clear c2
        go_enter Try.func29, Try.ntmps29
        go_wp2_with (first | (go_at_call 40; refine (nan_any _).mono ?_; rintro e w' ⟨r, hr, hrw, rfl, rfl⟩) | first | (go_at_call 19; refine (isNan_any _ _).mono ?_; rintro e w' ⟨rfl, rfl⟩) | (go_at_call 18; refine (infinity_any _).mono ?_; rintro e w' ⟨rfl, rfl⟩) | (go_at_call 21; refine (isInf_any _ _ (by assumption)).mono ?_; rintro e w' ⟨rfl, rfl⟩) | (go_at_call 25; refine (isFinite_any _ _ (by assumption)).mono ?_; rintro e w' ⟨rfl, rfl⟩) | (go_at_call 33; refine (minus_any _ _ (by assumption)).mono ?_; rintro e w' ⟨rfl, rfl⟩) | (go_at_call 26; refine (size_any _ _ (by assumption)).mono ?_; rintro e w' ⟨rfl, rfl⟩) | (go_at_call 16; refine (same_any _ _ _ (by assumption) (by assumption)).mono ?_; rintro e w' ⟨rfl, rfl⟩) | (go_at_call 15; refine (conj_any _ _ _).mono ?_; rintro e w' ⟨rfl, rfl⟩) | (go_at_call 17; refine (inf_any _).mono ?_; rintro e w' ⟨rfl, rfl⟩) | (go_at_call 23; refine (naN_any _).mono ?_; rintro e w' ⟨rfl, rfl⟩) | (go_at_call 20; refine (isInf2_any _ _ _ (by assumption) (by assumption)).mono ?_; rintro e w' ⟨rfl, rfl⟩) | (go_at_call 22; refine (isNaN2_any _ _ _ (by assumption) (by assumption)).mono ?_; rintro e w' ⟨rfl, rfl⟩) | (go_at_call 30; refine (abs_any _ _ _).mono ?_; rintro e w' ⟨rfl, rfl⟩) | (go_at_call 28; refine (realHypot_any _ _ _).mono ?_; rintro e w' ⟨rfl, rfl⟩) | (go_at_call 50; refine (mAbs_any _ _ (by assumption)).mono ?_; rintro e w' ⟨rfl, rfl⟩))
        go_ret2
        exact ⟨_, _, _, rfl, rfl, hrw, fun _ => same_nan (by rw [H.out]; exact H2.out) hr⟩
      · rw [h3, h4] at c2; simp at c2
    · have h3 : isNan x = false := by simpa using fun h => c2 (Or.inl h)
      have h4 : isNan y = false := by simpa using fun h => c2 (Or.inr h)
      clear c2
      cases h5 : feq x 0
      · cases h6 : feq y 0
        · go_enter Try.func29, Try.ntmps29
          go_wp2_with (first | (go_at_call 19; refine (isNan_any _ _).mono ?_; rintro e w' ⟨rfl, rfl⟩) | (go_at_call 18; refine (infinity_any _).mono ?_; rintro e w' ⟨rfl, rfl⟩) | (go_at_call 21; refine (isInf_any _ _ (by assumption)).mono ?_; rintro e w' ⟨rfl, rfl⟩) | (go_at_call 25; refine (isFinite_any _ _ (by assumption)).mono ?_; rintro e w' ⟨rfl, rfl⟩) | (go_at_call 33; refine (minus_any _ _ (by assumption)).mono ?_; rintro e w' ⟨rfl, rfl⟩) | (go_at_call 26; refine (size_any _ _ (by assumption)).mono ?_; rintro e w' ⟨rfl, rfl⟩) | (go_at_call 16; refine (same_any _ _ _ (by assumption) (by assumption)).mono ?_; rintro e w' ⟨rfl, rfl⟩) | (go_at_call 15; refine (conj_any _ _ _).mono ?_; rintro e w' ⟨rfl, rfl⟩) | (go_at_call 17; refine (inf_any _).mono ?_; rintro e w' ⟨rfl, rfl⟩) | (go_at_call 23; refine (naN_any _).mono ?_; rintro e w' ⟨rfl, rfl⟩) | (go_at_call 20; refine (isInf2_any _ _ _ (by assumption) (by assumption)).mono ?_; rintro e w' ⟨rfl, rfl⟩) | (go_at_call 22; refine (isNaN2_any _ _ _ (by assumption) (by assumption)).mono ?_; rintro e w' ⟨rfl, rfl⟩) | (go_at_call 30; refine (abs_any _ _ _).mono ?_; rintro e w' ⟨rfl, rfl⟩) | (go_at_call 28; refine (realHypot_any _ _ _).mono ?_; rintro e w' ⟨rfl, rfl⟩) | (go_at_call 50; refine (mAbs_any _ _ (by assumption)).mono ?_; rintro e w' ⟨rfl, rfl⟩))
          go_ret2
          exact ⟨_, _, 0, rfl, rfl, by unfold Wd; decide, fun h => by cases h⟩
        · have H : Hid (hypotW x y = sizeW x) := by
            show hypotW x y = sizeW x
            rw [hypotW_comm, hypotW_axis (by simpa [feq_zero] using h6) (isNan_false.1 h3), sizeW_num hx (isNan_false.1 h3)]
          have HW := hidd (sizeW_wd hx)
          go_enter Try.func29, Try.ntmps29
          go_wp2_with (first | (go_at_call 19; refine (isNan_any _ _).mono ?_; rintro e w' ⟨rfl, rfl⟩) | (go_at_call 18; refine (infinity_any _).mono ?_; rintro e w' ⟨rfl, rfl⟩) | (go_at_call 21; refine (isInf_any _ _ (by assumption)).mono ?_; rintro e w' ⟨rfl, rfl⟩) | (go_at_call 25; refine (isFinite_any _ _ (by assumption)).mono ?_; rintro e w' ⟨rfl, rfl⟩) | (go_at_call 33; refine (minus_any _ _ (by assumption)).mono ?_; rintro e w' ⟨rfl, rfl⟩) | (go_at_call 26; refine (size_any _ _ (by assumption)).mono ?_; rintro e w' ⟨rfl, rfl⟩) | (go_at_call 16; refine (same_any _ _ _ (by assumption) (by assumption)).mono ?_; rintro e w' ⟨rfl, rfl⟩) | (go_at_call 15; refine (conj_any _ _ _).mono ?_; rintro e w' ⟨rfl, rfl⟩) | (go_at_call 17; refine (inf_any _).mono ?_; rintro e w' ⟨rfl, rfl⟩) | (go_at_call 23; refine (naN_any _).mono ?_; rintro e w' ⟨rfl, rfl⟩) | (go_at_call 20; refine (isInf2_any _ _ _ (by assumption) (by assumption)).mono ?_; rintro e w' ⟨rfl, rfl⟩) | (go_at_call 22; refine (isNaN2_any _ _ _ (by assumption) (by assumption)).mono ?_; rintro e w' ⟨rfl, rfl⟩) | (go_at_call 30; refine (abs_any _ _ _).mono ?_; rintro e w' ⟨rfl, rfl⟩) | (go_at_call 28; refine (realHypot_any _ _ _).mono ?_; rintro e w' ⟨rfl, rfl⟩) | (go_at_call 50; refine (mAbs_any _ _ (by assumption)).mono ?_; rintro e w' ⟨rfl, rfl⟩))
          go_ret2
          exact ⟨_, _, 0, rfl, rfl, HW.out, fun _ => same_of_eq H.out⟩
      · have H : Hid (hypotW x y = sizeW y) := by
          show hypotW x y = sizeW y
          rw [hypotW_axis (by simpa [feq_zero] using h5) (isNan_false.1 h4), sizeW_num hy (isNan_false.1 h4)]
        have HW := hidd (sizeW_wd hy)
        go_enter Try.func29, Try.ntmps29
        go_wp2_with (first | (go_at_call 19; refine (isNan_any _ _).mono ?_; rintro e w' ⟨rfl, rfl⟩) | (go_at_call 18; refine (infinity_any _).mono ?_; rintro e w' ⟨rfl, rfl⟩) | (go_at_call 21; refine (isInf_any _ _ (by assumption)).mono ?_; rintro e w' ⟨rfl, rfl⟩) | (go_at_call 25; refine (isFinite_any _ _ (by assumption)).mono ?_; rintro e w' ⟨rfl, rfl⟩) | (go_at_call 33; refine (minus_any _ _ (by assumption)).mono ?_; rintro e w' ⟨rfl, rfl⟩) | (go_at_call 26; refine (size_any _ _ (by assumption)).mono ?_; rintro e w' ⟨rfl, rfl⟩) | (go_at_call 16; refine (same_any _ _ _ (by assumption) (by assumption)).mono ?_; rintro e w' ⟨rfl, rfl⟩) | (go_at_call 15; refine (conj_any _ _ _).mono ?_; rintro e w' ⟨rfl, rfl⟩) | (go_at_call 17; refine (inf_any _).mono ?_; rintro e w' ⟨rfl, rfl⟩) | (go_at_call 23; refine (naN_any _).mono ?_; rintro e w' ⟨rfl, rfl⟩) | (go_at_call 20; refine (isInf2_any _ _ _ (by assumption) (by assumption)).mono ?_; rintro e w' ⟨rfl, rfl⟩) | (go_at_call 22; refine (isNaN2_any _ _ _ (by assumption) (by assumption)).mono ?_; rintro e w' ⟨rfl, rfl⟩) | (go_at_call 30; refine (abs_any _ _ _).mono ?_; rintro e w' ⟨rfl, rfl⟩) | (go_at_call 28; refine (realHypot_any _ _ _).mono ?_; rintro e w' ⟨rfl, rfl⟩) | (go_at_call 50; refine (mAbs_any _ _ (by assumption)).mono ?_; rintro e w' ⟨rfl, rfl⟩))
        go_ret2
        exact ⟨_, _, 0, rfl, rfl, HW.out, fun _ => same_of_eq H.out⟩

end Go.Proofs.Ytnbcodpmglifdaa

/- What the functions of package cmplx, and those of the thin package impl, give, told in plain functions on words: one contract a function. -/
import Derived.Test.YtojjlkmeicdeeaaLeaf
import Derived.Test.YtojjlkmeicdeeaaHypotLaws
import Derived.OwnWalk
set_option linter.unusedSimpArgs false
set_option linter.unusedVariables false
namespace Go.Proofs.Ytojjlkmeicdeeaa
open Go.RowKit F64

theorem ret_bool {a b : Bool} (h : a = b) : Ending.returned (.bool a) = .returned (.bool b) := by rw [h]
theorem ret_float {a b : Nat} (h : a = b) : Ending.returned (.float .f64 a) = .returned (.float .f64 b) := by rw [h]

theorem split_any (x y : Nat) (w : World) :
    Calls Try.prog 39 #[.complex .f64 x y] w fun e w' => e = .returned (.tuple #[.float .f64 x, .float .f64 y]) ∧ w = w' := by
  go_enter Try.func39, Try.ntmps39
  go_wp2
  go_ret2
  exact ⟨rfl, rfl⟩
theorem cConj_any (x y : Nat) (w : World) :
    Calls Try.prog 40 #[.complex .f64 x y] w fun e w' => e = .returned (.complex .f64 x (fneg y)) ∧ w = w' := by
  go_enter Try.func40, Try.ntmps40
  go_wp2
  go_ret
  exact ⟨rfl, rfl⟩
theorem conj_any (x y : Nat) (w : World) :
    Calls Try.prog 21 #[.float .f64 x, .float .f64 y] w fun e w' => e = .returned (.tuple #[.float .f64 x, .float .f64 (fneg y)]) ∧ w = w' := by
  go_enter Try.func21, Try.ntmps21
  go_wp2_with (first | (go_at_call 40; refine (cConj_any _ _ _).mono ?_; rintro e w' ⟨rfl, rfl⟩) | (go_at_call 39; refine (split_any _ _ _).mono ?_; rintro e w' ⟨rfl, rfl⟩))
  go_ret2
  exact ⟨rfl, rfl⟩
/-- IsInf and IsNaN of two parts. -/
def cIsInf (x y : Nat) : Bool := isInf x || isInf y
def cIsNaN (x y : Nat) : Bool := !cIsInf x y && (isNan x || isNan y)
theorem cIsInf_any (x y : Nat) (w : World) (hx : Wd x) (hy : Wd y) :
    Calls Try.prog 36 #[.complex .f64 x y] w fun e w' => e = .returned (.bool (cIsInf x y)) ∧ w = w' := by
  have H : Hid (cIsInf x y = (isInf x || isInf y)) := rfl
  cases h1 : isInf x <;> cases h2 : isInf y
  all_goals
    go_enter Try.func36, Try.ntmps36
    go_wp2_with (go_at_call 47; refine (mIsInf0_any _ _ (by assumption)).mono ?_; rintro e w' ⟨rfl, rfl⟩)
    go_ret
    exact ⟨by rw [H.out, h1, h2]; rfl, rfl⟩
theorem isInf2_any (x y : Nat) (w : World) (hx : Wd x) (hy : Wd y) :
    Calls Try.prog 15 #[.float .f64 x, .float .f64 y] w fun e w' => e = .returned (.bool (cIsInf x y)) ∧ w = w' := by
  go_enter Try.func15, Try.ntmps15
  go_wp2_with (go_at_call 36; refine (cIsInf_any _ _ _ hx hy).mono ?_; rintro e w' ⟨rfl, rfl⟩)
  go_ret
  exact ⟨rfl, rfl⟩
theorem cIsNaN_any (x y : Nat) (w : World) (hx : Wd x) (hy : Wd y) :
    Calls Try.prog 37 #[.complex .f64 x y] w fun e w' => e = .returned (.bool (cIsNaN x y)) ∧ w = w' := by
  have H : Hid (cIsNaN x y = (!(isInf x || isInf y) && (isNan x || isNan y))) := rfl
  cases h1 : isInf x <;> cases h2 : isInf y <;> cases h3 : isNan x <;> cases h4 : isNan y
  all_goals
    go_enter Try.func37, Try.ntmps37
    go_wp2_with (first | (go_at_call 47; refine (mIsInf0_any _ _ (by assumption)).mono ?_; rintro e w' ⟨rfl, rfl⟩) | (go_at_call 48; refine (mIsNaN_any _ _).mono ?_; rintro e w' ⟨rfl, rfl⟩))
    go_ret
    exact ⟨by rw [H.out, h1, h2, h3, h4]; rfl, rfl⟩
theorem isNaN2_any (x y : Nat) (w : World) (hx : Wd x) (hy : Wd y) :
    Calls Try.prog 16 #[.float .f64 x, .float .f64 y] w fun e w' => e = .returned (.bool (cIsNaN x y)) ∧ w = w' := by
  go_enter Try.func16, Try.ntmps16
  go_wp2_with (go_at_call 37; refine (cIsNaN_any _ _ _ hx hy).mono ?_; rintro e w' ⟨rfl, rfl⟩)
  go_ret
  exact ⟨rfl, rfl⟩
@[go_sem] theorem callHypot (x y : Nat) (w : World) : (callFunc 49 #[.float .f64 x, .float .f64 y]).run Try.prog w = .ok (.value (.float .f64 (hypotW x y))) w := by
  rw [run_callFunc_extern (e := Extern.MathHypot.archHypot) Try.func49 (by kernel_rfl) (by kernel_rfl) (by kernel_rfl) (by kernel_rfl), run_archHypot]; rfl
theorem mHypot_any (x y : Nat) (w : World) :
    Calls Try.prog 41 #[.float .f64 x, .float .f64 y] w fun e w' => e = .returned (.float .f64 (hypotW x y)) ∧ w = w' := by
  go_enter Try.func41, Try.ntmps41
  go_wp2
  go_ret
  exact ⟨rfl, rfl⟩
theorem cAbs_any (x y : Nat) (w : World) :
    Calls Try.prog 38 #[.complex .f64 x y] w fun e w' => e = .returned (.float .f64 (hypotW x y)) ∧ w = w' := by
  go_enter Try.func38, Try.ntmps38
  go_wp2_with (go_at_call 41; refine (mHypot_any _ _ _).mono ?_; rintro e w' ⟨rfl, rfl⟩)
  go_ret
  exact ⟨rfl, rfl⟩
theorem abs_any (x y : Nat) (w : World) :
    Calls Try.prog 18 #[.float .f64 x, .float .f64 y] w fun e w' => e = .returned (.float .f64 (hypotW x y)) ∧ w = w' := by
  go_enter Try.func18, Try.ntmps18
  go_wp2_with (go_at_call 38; refine (cAbs_any _ _ _).mono ?_; rintro e w' ⟨rfl, rfl⟩)
  go_ret
  exact ⟨rfl, rfl⟩
theorem realHypot_any (x y : Nat) (w : World) :
    Calls Try.prog 27 #[.float .f64 x, .float .f64 y] w fun e w' => e = .returned (.float .f64 (hypotW x y)) ∧ w = w' := by
  go_enter Try.func27, Try.ntmps27
  go_wp2_with (go_at_call 41; refine (mHypot_any _ _ _).mono ?_; rintro e w' ⟨rfl, rfl⟩)
  go_ret
  exact ⟨rfl, rfl⟩
/-- A root, or some NaN, is returned. -/
def SqrtRet (x : Nat) (w : World) (e : Ending) (w' : World) : Prop := ∃ r, FRes (fsqrt x) r ∧ e = .returned (.float .f64 r) ∧ w' = w.drewN (fd (fsqrt x))
theorem mSqrt_any (x : Nat) (w : World) : Calls Try.prog 45 #[.float .f64 x] w (SqrtRet x w) := by
  go_enter Try.func45, Try.ntmps45
  go_wp2
  go_ret
  exact ⟨_, fv_res (fsqrt x) x x w, rfl, rfl⟩
theorem realSqrt_any (x : Nat) (w : World) : Calls Try.prog 33 #[.float .f64 x] w (SqrtRet x w) := by
  go_enter Try.func33, Try.ntmps33
  go_wp2_with (go_at_call 45; refine (mSqrt_any _ _).mono ?_; rintro e w' ⟨r, hr, rfl, rfl⟩)
  go_ret
  exact ⟨r, hr, rfl, rfl⟩

theorem realSqrt_some {x z : Nat} (h : fsqrt x = some z) (w : World) :
    Calls Try.prog 33 #[.float .f64 x] w fun e w' => e = .returned (.float .f64 z) ∧ w = w' := by
  refine (realSqrt_any x w).mono ?_
  rintro e w' ⟨r, hr, rfl, rfl⟩
  rw [h] at hr ⊢
  have : r = z := hr
  exact ⟨by rw [this], rfl⟩

end Go.Proofs.Ytojjlkmeicdeeaa

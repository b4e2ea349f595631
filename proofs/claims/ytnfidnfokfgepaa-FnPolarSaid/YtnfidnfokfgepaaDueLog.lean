/- What the reference says of a logarithm (PHASE), held against Log's own two parts. -/
import Derived.Test.YtnfidnfokfgepaaPhaseLaws
import Derived.Test.YtnfidnfokfgepaaDue
set_option linter.unusedSimpArgs false
set_option linter.unusedVariables false
namespace Go.Proofs.Ytnfidnfokfgepaa
open Go.RowKit F64

theorem like_copy {c y : Nat} (hc : Wd c) (nc : Num c) (sc : sg c = false) (ny : Num y) : likeW c y = copyW c y := by
  have e : sizeW c = rg c := sizeW_num hc nc
  unfold likeW copyW
  rw [e]
  unfold minus
  rw [isNan_false.2 ny]
  cases hsg : sg y
  · simp
  · simp
    rw [fneg_eq (rg_wd _)]
    unfold negw
    rw [if_pos (by unfold rg SW; omega)]; rfl
/-- What spec.Log returns. -/
def LogRet (x y : Nat) (w : World) (e : Ending) (w' : World) : Prop := ∃ a b n, e = .returned (.tuple #[.agg #[.float .f64 a, .float .f64 b, .bool false, .bool false], .bool n]) ∧ Wd a ∧ Wd b ∧
  (n = true → same (logW (hypotW x y)) a = true ∧ same (atan2W y x) b = true) ∧ ((isInf x = true ∨ isInf y = true) → n = true) ∧ Below w.heap.size w w'
theorem log_nan : ¬ Num (logW 9221120237041090561) := by
  have : logW 9221120237041090561 = 9221120237041090561 := by decide +kernel
  rw [this]; unfold Num; decide
theorem nanc : ¬ Num 9221120237041090561 := by unfold Num; decide

set_option maxRecDepth 100000 in
theorem specLog_none (x y : Nat) (w : World) (hx : Wd x) (hy : Wd y) (h : (isNan x = true ∧ isInf y = false) ∨ (isNan y = true ∧ isInf x = false)) : Calls Try.prog 28 #[.float .f64 x, .float .f64 y] w (LogRet x y w) := by
  have key : Hid (same (logW (hypotW x y)) = same (logW 9221120237041090561) ∧ atan2W y x = 9221120237041090561 ∧ isInf x = false ∧ isInf y = false) := by
    have hi : isInf x = false ∧ isInf y = false := by
      rcases h with ⟨a, b⟩ | ⟨a, b⟩
      · exact ⟨by unfold isInf isNan at *; simp at *; omega, b⟩
      · exact ⟨b, by unfold isInf isNan at *; simp at *; omega⟩
    have hn : isNan x = true ∨ isNan y = true := by rcases h with ⟨a, b⟩ | ⟨a, b⟩ <;> simp [a]
    exact ⟨by rw [hypotW_nan hi.1 hi.2 hn], atan2_nanW (Or.comm.1 hn), hi.1, hi.2⟩
  have cases' : (isNan x = true ∧ isInf y = false) ∨ (isNan x = false ∧ isNan y = true ∧ isInf x = false) := by
    cases h1 : isNan x
    · right; rw [h1] at h; simpa using h
    · left
      refine ⟨rfl, key.out.2.2.2⟩
  clear h
  rcases cases' with ⟨h1, h2⟩ | ⟨h1, h2, h3⟩
  all_goals
    go_enter Try.func28, Try.ntmps28
    go_wp2_with (first | (go_at_call 16; refine (isNan_any _ _).mono ?_; rintro e w' ⟨rfl, rfl⟩) | (go_at_call 38; refine (infinity_any _).mono ?_; rintro e w' ⟨rfl, rfl⟩) | (go_at_call 36; refine (isInf_any _ _ (by assumption)).mono ?_; rintro e w' ⟨rfl, rfl⟩) | (go_at_call 33; refine (isFinite_any _ _ (by assumption)).mono ?_; rintro e w' ⟨rfl, rfl⟩) | (go_at_call 26; refine (minus_any _ _ (by assumption)).mono ?_; rintro e w' ⟨rfl, rfl⟩) | (go_at_call 17; refine (size_any _ _ (by assumption)).mono ?_; rintro e w' ⟨rfl, rfl⟩) | (go_at_call 15; refine (like_any _ _ _ (by assumption) (by assumption)).mono ?_; rintro e w' ⟨rfl, rfl⟩) | (go_at_call 14; refine (same_any _ _ _ (by assumption) (by assumption)).mono ?_; rintro e w' ⟨rfl, rfl⟩) | (go_at_call 27; refine (conj_any _ _ _).mono ?_; rintro e w' ⟨rfl, rfl⟩) | (go_at_call 25; refine (abs_any _ _ _).mono ?_; rintro e w' ⟨rfl, rfl⟩) | (go_at_call 56; refine (mAbs_any _ _ (by assumption)).mono ?_; rintro e w' ⟨rfl, rfl⟩) | (go_at_call 20; refine (polar_any _ _ _ (by assumption) (by assumption)).mono ?_; rintro e w' ⟨rfl, rfl⟩) | (go_at_call 22; refine (phase_any _ _ _ (by assumption) (by assumption)).mono ?_; rintro e w' ⟨rfl, rfl⟩) | (go_at_call 13; refine (log2_any _ _ _ (by assumption) (by assumption)).mono ?_; rintro e w' ⟨rfl, rfl⟩) | (go_at_call 18; refine (realLog_any _ _ (by assumption)).mono ?_; rintro e w' ⟨rfl, rfl⟩))
    refine (none_any _).mono ?_
    rintro e w1 ⟨r1, r2, n1, wr1, n2, wr2, rfl, hb⟩
    unfold due
    obtain ⟨hc, hf⟩ := bcell hb
    have H1 := hidd n1
    have H2 := hidd n2
    clear n1 n2
    go_wp2_with fail
    refine bodyPost_ret (v := .tuple #[.agg #[.float .f64 r1, .float .f64 r2, .bool false, .bool false], .bool true]) (by simp [results, Try.results28, go_sem, hc]) rfl ⟨r1, r2, true, rfl, wr1, wr2, fun _ => ⟨?_, ?_⟩, fun _ => rfl, ?_⟩
    · rw [key.out.1]; exact same_nan log_nan H1.out
    · rw [key.out.2.1]; exact same_nan nanc H2.out
    · exact ((((((Below.refl _ _).alloc (Nat.le_refl _) _).trans (hb.mono (by simp))).setCell (by simp) _).setCell (by simp) _).setCell (by simp) _).setCell (by simp) _

theorem logI : logW 9218868437227405312 = 9218868437227405312 := by decide +kernel
theorem pinf_eq {x : Nat} (hx : Wd x) : feq x 9218868437227405312 = (isInf x && !sg x) := by
  have n2 : rg 9218868437227405312 = INF := by decide
  unfold feq isInf
  by_cases h : Num x
  · rw [eq_iff h (by unfold Num; decide)]
    have a1 := val_eq_iff (y := 9218868437227405312) hx (by unfold Wd; decide)
    have hI : INF ≠ 0 := by decide
    rw [Bool.eq_iff_iff]
    simp only [decide_eq_true_eq, a1, n2, hI, and_false, or_false, Bool.and_eq_true, Bool.not_eq_true']
    constructor
    · rintro rfl; exact ⟨n2, by decide⟩
    · rintro ⟨h1, h2⟩; exact wd_ext hx (by unfold Wd; decide) (by rw [h2]; decide) (by rw [h1, n2])
  · rw [order_nanl h]
    have : rg x ≠ INF := by unfold Num at h; omega
    simp [this]
theorem ninf_eq {x : Nat} (hx : Wd x) : feq x (fneg 9218868437227405312) = (isInf x && sg x) := by
  have e1 : fneg 9218868437227405312 = 18442240474082181120 := by decide
  have n2 : rg 18442240474082181120 = INF := by decide
  rw [e1]
  unfold feq isInf
  by_cases h : Num x
  · rw [eq_iff h (by unfold Num; decide)]
    have a1 := val_eq_iff (y := 18442240474082181120) hx (by unfold Wd; decide)
    have hI : INF ≠ 0 := by decide
    rw [Bool.eq_iff_iff]
    simp only [decide_eq_true_eq, a1, n2, hI, and_false, or_false, Bool.and_eq_true]
    constructor
    · rintro rfl; exact ⟨n2, by decide⟩
    · rintro ⟨h1, h2⟩; exact wd_ext hx (by unfold Wd; decide) (by rw [h2]; decide) (by rw [h1, n2])
  · rw [order_nanl h]
    have : rg x ≠ INF := by unfold Num at h; omega
    simp [this]
theorem inf_num {x : Nat} (h : isInf x = true) : isNan x = false ∧ feq x 0 = false := by
  unfold isInf at h
  simp at h
  have hI : INF ≠ 0 := by decide
  refine ⟨by unfold isNan; rw [h]; simp, by rw [feq_zero, h]; simpa using hI⟩

set_option maxRecDepth 100000 in
theorem specLog_half (x y : Nat) (w : World) (hx : Wd x) (hy : Wd y) (h : (isNan x = true ∧ isInf y = true) ∨ (isNan y = true ∧ isInf x = true)) : Calls Try.prog 28 #[.float .f64 x, .float .f64 y] w (LogRet x y w) := by
  have wI : Wd 9218868437227405312 := by unfold Wd; decide
  have key : Hid (logW (hypotW x y) = 9218868437227405312 ∧ atan2W y x = 9221120237041090561) := by
    have hi : isInf x = true ∨ isInf y = true := by rcases h with ⟨a, b⟩ | ⟨a, b⟩ <;> simp [b]
    have hn : isNan x = true ∨ isNan y = true := by rcases h with ⟨a, b⟩ | ⟨a, b⟩ <;> simp [a]
    exact ⟨by rw [hypotW_inf hi]; exact logI, atan2_nanW (Or.comm.1 hn)⟩
  rcases h with ⟨h1, h2⟩ | ⟨h1, h2⟩
  · obtain ⟨h3, _⟩ := inf_num h2
    go_enter Try.func28, Try.ntmps28
    go_wp2_with (first | (go_at_call 35; refine (nan_any _).mono ?_; rintro e w' ⟨r, hr, hrw, rfl, rfl⟩) | first | (go_at_call 16; refine (isNan_any _ _).mono ?_; rintro e w' ⟨rfl, rfl⟩) | (go_at_call 38; refine (infinity_any _).mono ?_; rintro e w' ⟨rfl, rfl⟩) | (go_at_call 36; refine (isInf_any _ _ (by assumption)).mono ?_; rintro e w' ⟨rfl, rfl⟩) | (go_at_call 33; refine (isFinite_any _ _ (by assumption)).mono ?_; rintro e w' ⟨rfl, rfl⟩) | (go_at_call 26; refine (minus_any _ _ (by assumption)).mono ?_; rintro e w' ⟨rfl, rfl⟩) | (go_at_call 17; refine (size_any _ _ (by assumption)).mono ?_; rintro e w' ⟨rfl, rfl⟩) | (go_at_call 15; refine (like_any _ _ _ (by assumption) (by assumption)).mono ?_; rintro e w' ⟨rfl, rfl⟩) | (go_at_call 14; refine (same_any _ _ _ (by assumption) (by assumption)).mono ?_; rintro e w' ⟨rfl, rfl⟩) | (go_at_call 27; refine (conj_any _ _ _).mono ?_; rintro e w' ⟨rfl, rfl⟩) | (go_at_call 25; refine (abs_any _ _ _).mono ?_; rintro e w' ⟨rfl, rfl⟩) | (go_at_call 56; refine (mAbs_any _ _ (by assumption)).mono ?_; rintro e w' ⟨rfl, rfl⟩) | (go_at_call 20; refine (polar_any _ _ _ (by assumption) (by assumption)).mono ?_; rintro e w' ⟨rfl, rfl⟩) | (go_at_call 22; refine (phase_any _ _ _ (by assumption) (by assumption)).mono ?_; rintro e w' ⟨rfl, rfl⟩) | (go_at_call 13; refine (log2_any _ _ _ (by assumption) (by assumption)).mono ?_; rintro e w' ⟨rfl, rfl⟩) | (go_at_call 18; refine (realLog_any _ _ (by assumption)).mono ?_; rintro e w' ⟨rfl, rfl⟩))
    refine bodyPost_ret (v := .tuple #[.agg #[.float .f64 9218868437227405312, .float .f64 r, .bool false, .bool false], .bool true]) (by simp [results, Try.results28, go_sem]) rfl ⟨_, r, true, rfl, wI, hrw, fun _ => ⟨same_of_eq key.out.1, ?_⟩, fun _ => rfl, ?_⟩
    · rw [key.out.2]; exact same_nan nanc hr
    · exact ((((below_drewN ((Below.refl _ _).alloc (Nat.le_refl _) _) _).setCell (by simp) _).setCell (by simp) _).setCell (by simp) _).setCell (by simp) _
  · obtain ⟨h3, _⟩ := inf_num h2
    go_enter Try.func28, Try.ntmps28
    go_wp2_with (first | (go_at_call 35; refine (nan_any _).mono ?_; rintro e w' ⟨r, hr, hrw, rfl, rfl⟩) | first | (go_at_call 16; refine (isNan_any _ _).mono ?_; rintro e w' ⟨rfl, rfl⟩) | (go_at_call 38; refine (infinity_any _).mono ?_; rintro e w' ⟨rfl, rfl⟩) | (go_at_call 36; refine (isInf_any _ _ (by assumption)).mono ?_; rintro e w' ⟨rfl, rfl⟩) | (go_at_call 33; refine (isFinite_any _ _ (by assumption)).mono ?_; rintro e w' ⟨rfl, rfl⟩) | (go_at_call 26; refine (minus_any _ _ (by assumption)).mono ?_; rintro e w' ⟨rfl, rfl⟩) | (go_at_call 17; refine (size_any _ _ (by assumption)).mono ?_; rintro e w' ⟨rfl, rfl⟩) | (go_at_call 15; refine (like_any _ _ _ (by assumption) (by assumption)).mono ?_; rintro e w' ⟨rfl, rfl⟩) | (go_at_call 14; refine (same_any _ _ _ (by assumption) (by assumption)).mono ?_; rintro e w' ⟨rfl, rfl⟩) | (go_at_call 27; refine (conj_any _ _ _).mono ?_; rintro e w' ⟨rfl, rfl⟩) | (go_at_call 25; refine (abs_any _ _ _).mono ?_; rintro e w' ⟨rfl, rfl⟩) | (go_at_call 56; refine (mAbs_any _ _ (by assumption)).mono ?_; rintro e w' ⟨rfl, rfl⟩) | (go_at_call 20; refine (polar_any _ _ _ (by assumption) (by assumption)).mono ?_; rintro e w' ⟨rfl, rfl⟩) | (go_at_call 22; refine (phase_any _ _ _ (by assumption) (by assumption)).mono ?_; rintro e w' ⟨rfl, rfl⟩) | (go_at_call 13; refine (log2_any _ _ _ (by assumption) (by assumption)).mono ?_; rintro e w' ⟨rfl, rfl⟩) | (go_at_call 18; refine (realLog_any _ _ (by assumption)).mono ?_; rintro e w' ⟨rfl, rfl⟩))
    refine bodyPost_ret (v := .tuple #[.agg #[.float .f64 9218868437227405312, .float .f64 r, .bool false, .bool false], .bool true]) (by simp [results, Try.results28, go_sem]) rfl ⟨_, r, true, rfl, wI, hrw, fun _ => ⟨same_of_eq key.out.1, ?_⟩, fun _ => rfl, ?_⟩
    · rw [key.out.2]; exact same_nan nanc hr
    · exact ((((below_drewN ((Below.refl _ _).alloc (Nat.le_refl _) _) _).setCell (by simp) _).setCell (by simp) _).setCell (by simp) _).setCell (by simp) _
set_option maxRecDepth 100000 in
theorem specLog_zero (x y : Nat) (w : World) (hx : Wd x) (hy : Wd y) (h1 : feq x 0 = true) (h2 : feq y 0 = true) : Calls Try.prog 28 #[.float .f64 x, .float .f64 y] w (LogRet x y w) := by
  have wI : Wd (fneg 9218868437227405312) := by unfold Wd; decide
  have wP : Wd 4614256656552045848 := by unfold Wd; decide
  have x0 : rg x = 0 := by rw [feq_zero] at h1; simpa using h1
  have y0 : rg y = 0 := by rw [feq_zero] at h2; simpa using h2
  have nx : Num x := by unfold Num; rw [x0]; exact Nat.zero_le _
  have ny : Num y := by unfold Num; rw [y0]; exact Nat.zero_le _
  have h3 := isNan_false.2 nx
  have h4 := isNan_false.2 ny
  have hI : (0 : Nat) ≠ INF := by decide
  have i1 : isInf x = false := by unfold isInf; rw [x0]; simpa using hI
  have i2 : isInf y = false := by unfold isInf; rw [y0]; simpa using hI
  have key : Hid (logW (hypotW x y) = fneg 9218868437227405312) := by
    show logW (hypotW x y) = fneg 9218868437227405312
    rw [hypotW_zero x0 y0, logW_zero (by decide)]; decide
  have mx : minus x = sg x := by unfold minus; rw [h3]; simp
  have at2 : Hid (atan2W y x = if minus x then likeW 4614256656552045848 y else y) := by
    show atan2W y x = if minus x then likeW 4614256656552045848 y else y
    have g : fge x 0 = true := by
      have v0 : val x = 0 := by rw [val_pm, x0, rv_zero]; simp
      rw [fge_val nx num_zero, val_zero, v0]; simp [Rat.le_refl]
    unfold atan2W
    rw [h3, h4, h2, g, mx]
    cases hs : sg x
    · simp
      exact wd_ext (copyW_wd _ _) hy (copyW_sg _ _) (by rw [copyW_rg, y0]; decide)
    · simp
      rw [like_copy wP (by unfold Num; decide) (by decide) ny]; rfl
  have wl := hidd (@likeW_wd 4614256656552045848 y wP)
  clear x0 y0 nx ny hI
  cases hm : minus x
  · clear mx
    go_enter Try.func28, Try.ntmps28
    go_wp2_with (first | (go_at_call 16; refine (isNan_any _ _).mono ?_; rintro e w' ⟨rfl, rfl⟩) | (go_at_call 38; refine (infinity_any _).mono ?_; rintro e w' ⟨rfl, rfl⟩) | (go_at_call 36; refine (isInf_any _ _ (by assumption)).mono ?_; rintro e w' ⟨rfl, rfl⟩) | (go_at_call 33; refine (isFinite_any _ _ (by assumption)).mono ?_; rintro e w' ⟨rfl, rfl⟩) | (go_at_call 26; refine (minus_any _ _ (by assumption)).mono ?_; rintro e w' ⟨rfl, rfl⟩) | (go_at_call 17; refine (size_any _ _ (by assumption)).mono ?_; rintro e w' ⟨rfl, rfl⟩) | (go_at_call 15; refine (like_any _ _ _ (by assumption) (by assumption)).mono ?_; rintro e w' ⟨rfl, rfl⟩) | (go_at_call 14; refine (same_any _ _ _ (by assumption) (by assumption)).mono ?_; rintro e w' ⟨rfl, rfl⟩) | (go_at_call 27; refine (conj_any _ _ _).mono ?_; rintro e w' ⟨rfl, rfl⟩) | (go_at_call 25; refine (abs_any _ _ _).mono ?_; rintro e w' ⟨rfl, rfl⟩) | (go_at_call 56; refine (mAbs_any _ _ (by assumption)).mono ?_; rintro e w' ⟨rfl, rfl⟩) | (go_at_call 20; refine (polar_any _ _ _ (by assumption) (by assumption)).mono ?_; rintro e w' ⟨rfl, rfl⟩) | (go_at_call 22; refine (phase_any _ _ _ (by assumption) (by assumption)).mono ?_; rintro e w' ⟨rfl, rfl⟩) | (go_at_call 13; refine (log2_any _ _ _ (by assumption) (by assumption)).mono ?_; rintro e w' ⟨rfl, rfl⟩) | (go_at_call 18; refine (realLog_any _ _ (by assumption)).mono ?_; rintro e w' ⟨rfl, rfl⟩))
    refine bodyPost_ret (v := .tuple #[.agg #[.float .f64 (fneg 9218868437227405312), .float .f64 y, .bool false, .bool false], .bool true]) (by simp [results, Try.results28, go_sem]) rfl ⟨_, _, true, rfl, wI, hy, fun _ => ⟨same_of_eq key.out, same_of_eq (by rw [at2.out, hm]; rfl)⟩, fun _ => rfl, ?_⟩
    first | exact (Below.refl _ _).alloc (Nat.le_refl _) _ | exact ((((((Below.refl _ _).alloc (Nat.le_refl _) _)).setCell (by simp) _).setCell (by simp) _).setCell (by simp) _).setCell (by simp) _
  · clear mx
    go_enter Try.func28, Try.ntmps28
    go_wp2_with (first | (go_at_call 16; refine (isNan_any _ _).mono ?_; rintro e w' ⟨rfl, rfl⟩) | (go_at_call 38; refine (infinity_any _).mono ?_; rintro e w' ⟨rfl, rfl⟩) | (go_at_call 36; refine (isInf_any _ _ (by assumption)).mono ?_; rintro e w' ⟨rfl, rfl⟩) | (go_at_call 33; refine (isFinite_any _ _ (by assumption)).mono ?_; rintro e w' ⟨rfl, rfl⟩) | (go_at_call 26; refine (minus_any _ _ (by assumption)).mono ?_; rintro e w' ⟨rfl, rfl⟩) | (go_at_call 17; refine (size_any _ _ (by assumption)).mono ?_; rintro e w' ⟨rfl, rfl⟩) | (go_at_call 15; refine (like_any _ _ _ (by assumption) (by assumption)).mono ?_; rintro e w' ⟨rfl, rfl⟩) | (go_at_call 14; refine (same_any _ _ _ (by assumption) (by assumption)).mono ?_; rintro e w' ⟨rfl, rfl⟩) | (go_at_call 27; refine (conj_any _ _ _).mono ?_; rintro e w' ⟨rfl, rfl⟩) | (go_at_call 25; refine (abs_any _ _ _).mono ?_; rintro e w' ⟨rfl, rfl⟩) | (go_at_call 56; refine (mAbs_any _ _ (by assumption)).mono ?_; rintro e w' ⟨rfl, rfl⟩) | (go_at_call 20; refine (polar_any _ _ _ (by assumption) (by assumption)).mono ?_; rintro e w' ⟨rfl, rfl⟩) | (go_at_call 22; refine (phase_any _ _ _ (by assumption) (by assumption)).mono ?_; rintro e w' ⟨rfl, rfl⟩) | (go_at_call 13; refine (log2_any _ _ _ (by assumption) (by assumption)).mono ?_; rintro e w' ⟨rfl, rfl⟩) | (go_at_call 18; refine (realLog_any _ _ (by assumption)).mono ?_; rintro e w' ⟨rfl, rfl⟩))
    refine bodyPost_ret (v := .tuple #[.agg #[.float .f64 (fneg 9218868437227405312), .float .f64 (likeW 4614256656552045848 y), .bool false, .bool false], .bool true]) (by simp [results, Try.results28, go_sem]) rfl ⟨_, _, true, rfl, wI, wl.out, fun _ => ⟨same_of_eq key.out, same_of_eq (by rw [at2.out, hm]; rfl)⟩, fun _ => rfl, ?_⟩
    first | exact (Below.refl _ _).alloc (Nat.le_refl _) _ | exact ((((((Below.refl _ _).alloc (Nat.le_refl _) _)).setCell (by simp) _).setCell (by simp) _).setCell (by simp) _).setCell (by simp) _
/-- The phase of an infinite number. -/
theorem inf_phase {x y : Nat} (hx : Wd x) (hy : Wd y) (nx : Num x) (ny : Num y) (y0 : feq y 0 = false) :
    (isInf y = true → isInf x = false → atan2W y x = likeW 4609753056924675352 y) ∧ (isInf y = true → isInf x = true → sg x = false → atan2W y x = likeW 4605249457297304856 y) ∧ (isInf y = true → isInf x = true → sg x = true → atan2W y x = likeW 4612488097114038738 y) := by
  have h1 := isNan_false.2 nx
  have h2 := isNan_false.2 ny
  refine ⟨?_, ?_, ?_⟩
  · intro a b
    rw [like_copy (by unfold Wd; decide) (by unfold Num; decide) (by decide) ny]
    unfold atan2W
    rw [h1, h2, y0, a, b]
    cases feq x 0 <;> rfl
  · intro a b c
    rw [like_copy (by unfold Wd; decide) (by unfold Num; decide) (by decide) ny]
    unfold atan2W isPInf
    rw [h1, h2, y0, a, b, c, (inf_num b).2]; rfl
  · intro a b c
    rw [like_copy (by unfold Wd; decide) (by unfold Num; decide) (by decide) ny]
    unfold atan2W isPInf
    rw [h1, h2, y0, a, b, c, (inf_num b).2]; rfl
theorem inf_phase2 {x y : Nat} (hx : Wd x) (hy : Wd y) (ny : Num y) (iy : isInf y = false) (ix : isInf x = true) :
    (sg x = false → atan2W y x = likeW 0 y) ∧ (sg x = true → atan2W y x = likeW 4614256656552045848 y) := by
  have h1 := (inf_num ix).1
  have h2 := isNan_false.2 ny
  have g : sg x = false → fge x 0 = true := fun h => by rw [fge_val (isNan_false.1 h1) num_zero, val_zero]; simpa using val_nonneg h
  constructor
  · intro c
    rw [like_copy (by unfold Wd; decide) (by unfold Num; decide) (by decide) ny]
    unfold atan2W isPInf
    rw [h1, h2, ix, c, (inf_num ix).2, iy, g c]
    cases feq y 0 <;> rfl
  · intro c
    rw [like_copy (by unfold Wd; decide) (by unfold Num; decide) (by decide) ny]
    unfold atan2W isPInf
    rw [h1, h2, ix, c, (inf_num ix).2, iy]
    cases feq y 0
    · rfl
    · simp; rfl
set_option maxRecDepth 100000 in
theorem specLog_infy (x y : Nat) (w : World) (hx : Wd x) (hy : Wd y) (h1 : isNan x = false) (h2 : isInf y = true) : Calls Try.prog 28 #[.float .f64 x, .float .f64 y] w (LogRet x y w) := by
  have wI : Wd 9218868437227405312 := by unfold Wd; decide
  have c1 : Wd 4609753056924675352 := by unfold Wd; decide
  have c2 : Wd 4605249457297304856 := by unfold Wd; decide
  have c3 : Wd 4612488097114038738 := by unfold Wd; decide
  obtain ⟨h3, h4⟩ := inf_num h2
  have key : Hid (logW (hypotW x y) = 9218868437227405312) := by
    show logW (hypotW x y) = 9218868437227405312
    rw [hypotW_inf (Or.inr h2)]; exact logI
  have P := hidd (inf_phase hx hy (isNan_false.1 h1) (isNan_false.1 h3) h4)
  have p1 := pinf_eq hx
  have p2 := ninf_eq hx
  have l1 := hidd (@likeW_wd 4609753056924675352 y c1)
  have l2 := hidd (@likeW_wd 4605249457297304856 y c2)
  have l3 := hidd (@likeW_wd 4612488097114038738 y c3)
  cases h5 : isInf x <;> cases h6 : sg x <;> rw [h5, h6] at p1 p2 <;> simp only [Bool.false_and, Bool.true_and, Bool.not_false, Bool.not_true] at p1 p2
  · cases h7 : feq x 0
    all_goals
      go_enter Try.func28, Try.ntmps28
      go_wp2_with (first | (go_at_call 16; refine (isNan_any _ _).mono ?_; rintro e w' ⟨rfl, rfl⟩) | (go_at_call 38; refine (infinity_any _).mono ?_; rintro e w' ⟨rfl, rfl⟩) | (go_at_call 36; refine (isInf_any _ _ (by assumption)).mono ?_; rintro e w' ⟨rfl, rfl⟩) | (go_at_call 33; refine (isFinite_any _ _ (by assumption)).mono ?_; rintro e w' ⟨rfl, rfl⟩) | (go_at_call 26; refine (minus_any _ _ (by assumption)).mono ?_; rintro e w' ⟨rfl, rfl⟩) | (go_at_call 17; refine (size_any _ _ (by assumption)).mono ?_; rintro e w' ⟨rfl, rfl⟩) | (go_at_call 15; refine (like_any _ _ _ (by assumption) (by assumption)).mono ?_; rintro e w' ⟨rfl, rfl⟩) | (go_at_call 14; refine (same_any _ _ _ (by assumption) (by assumption)).mono ?_; rintro e w' ⟨rfl, rfl⟩) | (go_at_call 27; refine (conj_any _ _ _).mono ?_; rintro e w' ⟨rfl, rfl⟩) | (go_at_call 25; refine (abs_any _ _ _).mono ?_; rintro e w' ⟨rfl, rfl⟩) | (go_at_call 56; refine (mAbs_any _ _ (by assumption)).mono ?_; rintro e w' ⟨rfl, rfl⟩) | (go_at_call 20; refine (polar_any _ _ _ (by assumption) (by assumption)).mono ?_; rintro e w' ⟨rfl, rfl⟩) | (go_at_call 22; refine (phase_any _ _ _ (by assumption) (by assumption)).mono ?_; rintro e w' ⟨rfl, rfl⟩) | (go_at_call 13; refine (log2_any _ _ _ (by assumption) (by assumption)).mono ?_; rintro e w' ⟨rfl, rfl⟩) | (go_at_call 18; refine (realLog_any _ _ (by assumption)).mono ?_; rintro e w' ⟨rfl, rfl⟩))
      refine bodyPost_ret (v := .tuple #[.agg #[.float .f64 9218868437227405312, .float .f64 (likeW 4609753056924675352 y), .bool false, .bool false], .bool true]) (by simp [results, Try.results28, go_sem]) rfl ⟨_, _, true, rfl, wI, l1.out, fun _ => ⟨same_of_eq key.out, same_of_eq (P.out.1 h2 h5)⟩, fun _ => rfl, ?_⟩
      first | exact (Below.refl _ _).alloc (Nat.le_refl _) _ | exact ((((((Below.refl _ _).alloc (Nat.le_refl _) _)).setCell (by simp) _).setCell (by simp) _).setCell (by simp) _).setCell (by simp) _
  · cases h7 : feq x 0
    all_goals
      go_enter Try.func28, Try.ntmps28
      go_wp2_with (first | (go_at_call 16; refine (isNan_any _ _).mono ?_; rintro e w' ⟨rfl, rfl⟩) | (go_at_call 38; refine (infinity_any _).mono ?_; rintro e w' ⟨rfl, rfl⟩) | (go_at_call 36; refine (isInf_any _ _ (by assumption)).mono ?_; rintro e w' ⟨rfl, rfl⟩) | (go_at_call 33; refine (isFinite_any _ _ (by assumption)).mono ?_; rintro e w' ⟨rfl, rfl⟩) | (go_at_call 26; refine (minus_any _ _ (by assumption)).mono ?_; rintro e w' ⟨rfl, rfl⟩) | (go_at_call 17; refine (size_any _ _ (by assumption)).mono ?_; rintro e w' ⟨rfl, rfl⟩) | (go_at_call 15; refine (like_any _ _ _ (by assumption) (by assumption)).mono ?_; rintro e w' ⟨rfl, rfl⟩) | (go_at_call 14; refine (same_any _ _ _ (by assumption) (by assumption)).mono ?_; rintro e w' ⟨rfl, rfl⟩) | (go_at_call 27; refine (conj_any _ _ _).mono ?_; rintro e w' ⟨rfl, rfl⟩) | (go_at_call 25; refine (abs_any _ _ _).mono ?_; rintro e w' ⟨rfl, rfl⟩) | (go_at_call 56; refine (mAbs_any _ _ (by assumption)).mono ?_; rintro e w' ⟨rfl, rfl⟩) | (go_at_call 20; refine (polar_any _ _ _ (by assumption) (by assumption)).mono ?_; rintro e w' ⟨rfl, rfl⟩) | (go_at_call 22; refine (phase_any _ _ _ (by assumption) (by assumption)).mono ?_; rintro e w' ⟨rfl, rfl⟩) | (go_at_call 13; refine (log2_any _ _ _ (by assumption) (by assumption)).mono ?_; rintro e w' ⟨rfl, rfl⟩) | (go_at_call 18; refine (realLog_any _ _ (by assumption)).mono ?_; rintro e w' ⟨rfl, rfl⟩))
      refine bodyPost_ret (v := .tuple #[.agg #[.float .f64 9218868437227405312, .float .f64 (likeW 4609753056924675352 y), .bool false, .bool false], .bool true]) (by simp [results, Try.results28, go_sem]) rfl ⟨_, _, true, rfl, wI, l1.out, fun _ => ⟨same_of_eq key.out, same_of_eq (P.out.1 h2 h5)⟩, fun _ => rfl, ?_⟩
      first | exact (Below.refl _ _).alloc (Nat.le_refl _) _ | exact ((((((Below.refl _ _).alloc (Nat.le_refl _) _)).setCell (by simp) _).setCell (by simp) _).setCell (by simp) _).setCell (by simp) _
  · obtain ⟨_, h7⟩ := inf_num h5
    go_enter Try.func28, Try.ntmps28
    go_wp2_with (first | (go_at_call 16; refine (isNan_any _ _).mono ?_; rintro e w' ⟨rfl, rfl⟩) | (go_at_call 38; refine (infinity_any _).mono ?_; rintro e w' ⟨rfl, rfl⟩) | (go_at_call 36; refine (isInf_any _ _ (by assumption)).mono ?_; rintro e w' ⟨rfl, rfl⟩) | (go_at_call 33; refine (isFinite_any _ _ (by assumption)).mono ?_; rintro e w' ⟨rfl, rfl⟩) | (go_at_call 26; refine (minus_any _ _ (by assumption)).mono ?_; rintro e w' ⟨rfl, rfl⟩) | (go_at_call 17; refine (size_any _ _ (by assumption)).mono ?_; rintro e w' ⟨rfl, rfl⟩) | (go_at_call 15; refine (like_any _ _ _ (by assumption) (by assumption)).mono ?_; rintro e w' ⟨rfl, rfl⟩) | (go_at_call 14; refine (same_any _ _ _ (by assumption) (by assumption)).mono ?_; rintro e w' ⟨rfl, rfl⟩) | (go_at_call 27; refine (conj_any _ _ _).mono ?_; rintro e w' ⟨rfl, rfl⟩) | (go_at_call 25; refine (abs_any _ _ _).mono ?_; rintro e w' ⟨rfl, rfl⟩) | (go_at_call 56; refine (mAbs_any _ _ (by assumption)).mono ?_; rintro e w' ⟨rfl, rfl⟩) | (go_at_call 20; refine (polar_any _ _ _ (by assumption) (by assumption)).mono ?_; rintro e w' ⟨rfl, rfl⟩) | (go_at_call 22; refine (phase_any _ _ _ (by assumption) (by assumption)).mono ?_; rintro e w' ⟨rfl, rfl⟩) | (go_at_call 13; refine (log2_any _ _ _ (by assumption) (by assumption)).mono ?_; rintro e w' ⟨rfl, rfl⟩) | (go_at_call 18; refine (realLog_any _ _ (by assumption)).mono ?_; rintro e w' ⟨rfl, rfl⟩))
    refine bodyPost_ret (v := .tuple #[.agg #[.float .f64 9218868437227405312, .float .f64 (likeW 4605249457297304856 y), .bool false, .bool false], .bool true]) (by simp [results, Try.results28, go_sem]) rfl ⟨_, _, true, rfl, wI, l2.out, fun _ => ⟨same_of_eq key.out, same_of_eq (P.out.2.1 h2 h5 h6)⟩, fun _ => rfl, ?_⟩
    first | exact (Below.refl _ _).alloc (Nat.le_refl _) _ | exact ((((((Below.refl _ _).alloc (Nat.le_refl _) _)).setCell (by simp) _).setCell (by simp) _).setCell (by simp) _).setCell (by simp) _
  · obtain ⟨_, h7⟩ := inf_num h5
    go_enter Try.func28, Try.ntmps28
    go_wp2_with (first | (go_at_call 16; refine (isNan_any _ _).mono ?_; rintro e w' ⟨rfl, rfl⟩) | (go_at_call 38; refine (infinity_any _).mono ?_; rintro e w' ⟨rfl, rfl⟩) | (go_at_call 36; refine (isInf_any _ _ (by assumption)).mono ?_; rintro e w' ⟨rfl, rfl⟩) | (go_at_call 33; refine (isFinite_any _ _ (by assumption)).mono ?_; rintro e w' ⟨rfl, rfl⟩) | (go_at_call 26; refine (minus_any _ _ (by assumption)).mono ?_; rintro e w' ⟨rfl, rfl⟩) | (go_at_call 17; refine (size_any _ _ (by assumption)).mono ?_; rintro e w' ⟨rfl, rfl⟩) | (go_at_call 15; refine (like_any _ _ _ (by assumption) (by assumption)).mono ?_; rintro e w' ⟨rfl, rfl⟩) | (go_at_call 14; refine (same_any _ _ _ (by assumption) (by assumption)).mono ?_; rintro e w' ⟨rfl, rfl⟩) | (go_at_call 27; refine (conj_any _ _ _).mono ?_; rintro e w' ⟨rfl, rfl⟩) | (go_at_call 25; refine (abs_any _ _ _).mono ?_; rintro e w' ⟨rfl, rfl⟩) | (go_at_call 56; refine (mAbs_any _ _ (by assumption)).mono ?_; rintro e w' ⟨rfl, rfl⟩) | (go_at_call 20; refine (polar_any _ _ _ (by assumption) (by assumption)).mono ?_; rintro e w' ⟨rfl, rfl⟩) | (go_at_call 22; refine (phase_any _ _ _ (by assumption) (by assumption)).mono ?_; rintro e w' ⟨rfl, rfl⟩) | (go_at_call 13; refine (log2_any _ _ _ (by assumption) (by assumption)).mono ?_; rintro e w' ⟨rfl, rfl⟩) | (go_at_call 18; refine (realLog_any _ _ (by assumption)).mono ?_; rintro e w' ⟨rfl, rfl⟩))
    refine bodyPost_ret (v := .tuple #[.agg #[.float .f64 9218868437227405312, .float .f64 (likeW 4612488097114038738 y), .bool false, .bool false], .bool true]) (by simp [results, Try.results28, go_sem]) rfl ⟨_, _, true, rfl, wI, l3.out, fun _ => ⟨same_of_eq key.out, same_of_eq (P.out.2.2 h2 h5 h6)⟩, fun _ => rfl, ?_⟩
    first | exact (Below.refl _ _).alloc (Nat.le_refl _) _ | exact ((((((Below.refl _ _).alloc (Nat.le_refl _) _)).setCell (by simp) _).setCell (by simp) _).setCell (by simp) _).setCell (by simp) _
set_option maxRecDepth 100000 in
theorem specLog_rest (x y : Nat) (w : World) (hx : Wd x) (hy : Wd y) (h1 : isNan x = false) (h2 : isNan y = false) (h3 : isInf y = false) (h : feq x 0 = false ∨ feq y 0 = false) : Calls Try.prog 28 #[.float .f64 x, .float .f64 y] w (LogRet x y w) := by
  have wI : Wd 9218868437227405312 := by unfold Wd; decide
  have c1 : Wd 4614256656552045848 := by unfold Wd; decide
  have c0 : Wd 0 := by unfold Wd; decide
  have p1 := pinf_eq hx
  have p2 := ninf_eq hx
  have l1 := hidd (@likeW_wd 4614256656552045848 y c1)
  have l2 := hidd (@likeW_wd 0 y c0)
  cases h5 : isInf x
  · rw [h5] at p1 p2
    simp only [Bool.false_and] at p1 p2
    cases h6 : feq x 0
    · clear h
      go_enter Try.func28, Try.ntmps28
      go_wp2_with (first | (go_at_call 16; refine (isNan_any _ _).mono ?_; rintro e w' ⟨rfl, rfl⟩) | (go_at_call 38; refine (infinity_any _).mono ?_; rintro e w' ⟨rfl, rfl⟩) | (go_at_call 36; refine (isInf_any _ _ (by assumption)).mono ?_; rintro e w' ⟨rfl, rfl⟩) | (go_at_call 33; refine (isFinite_any _ _ (by assumption)).mono ?_; rintro e w' ⟨rfl, rfl⟩) | (go_at_call 26; refine (minus_any _ _ (by assumption)).mono ?_; rintro e w' ⟨rfl, rfl⟩) | (go_at_call 17; refine (size_any _ _ (by assumption)).mono ?_; rintro e w' ⟨rfl, rfl⟩) | (go_at_call 15; refine (like_any _ _ _ (by assumption) (by assumption)).mono ?_; rintro e w' ⟨rfl, rfl⟩) | (go_at_call 14; refine (same_any _ _ _ (by assumption) (by assumption)).mono ?_; rintro e w' ⟨rfl, rfl⟩) | (go_at_call 27; refine (conj_any _ _ _).mono ?_; rintro e w' ⟨rfl, rfl⟩) | (go_at_call 25; refine (abs_any _ _ _).mono ?_; rintro e w' ⟨rfl, rfl⟩) | (go_at_call 56; refine (mAbs_any _ _ (by assumption)).mono ?_; rintro e w' ⟨rfl, rfl⟩) | (go_at_call 20; refine (polar_any _ _ _ (by assumption) (by assumption)).mono ?_; rintro e w' ⟨rfl, rfl⟩) | (go_at_call 22; refine (phase_any _ _ _ (by assumption) (by assumption)).mono ?_; rintro e w' ⟨rfl, rfl⟩) | (go_at_call 13; refine (log2_any _ _ _ (by assumption) (by assumption)).mono ?_; rintro e w' ⟨rfl, rfl⟩) | (go_at_call 18; refine (realLog_any _ _ (by assumption)).mono ?_; rintro e w' ⟨rfl, rfl⟩))
      refine bodyPost_ret (v := .tuple #[.agg #[.float .f64 0, .float .f64 0, .bool false, .bool false], .bool false]) (by simp [results, Try.results28, go_sem]) rfl ⟨_, _, false, rfl, c0, c0, (fun h => by cases h), (fun h => by rw [h5, h3] at h; simp at h), ?_⟩
      first | exact (Below.refl _ _).alloc (Nat.le_refl _) _ | exact ((((((Below.refl _ _).alloc (Nat.le_refl _) _)).setCell (by simp) _).setCell (by simp) _).setCell (by simp) _).setCell (by simp) _
    · have h7 : feq y 0 = false := by rw [h6] at h; simpa using h
      clear h
      go_enter Try.func28, Try.ntmps28
      go_wp2_with (first | (go_at_call 16; refine (isNan_any _ _).mono ?_; rintro e w' ⟨rfl, rfl⟩) | (go_at_call 38; refine (infinity_any _).mono ?_; rintro e w' ⟨rfl, rfl⟩) | (go_at_call 36; refine (isInf_any _ _ (by assumption)).mono ?_; rintro e w' ⟨rfl, rfl⟩) | (go_at_call 33; refine (isFinite_any _ _ (by assumption)).mono ?_; rintro e w' ⟨rfl, rfl⟩) | (go_at_call 26; refine (minus_any _ _ (by assumption)).mono ?_; rintro e w' ⟨rfl, rfl⟩) | (go_at_call 17; refine (size_any _ _ (by assumption)).mono ?_; rintro e w' ⟨rfl, rfl⟩) | (go_at_call 15; refine (like_any _ _ _ (by assumption) (by assumption)).mono ?_; rintro e w' ⟨rfl, rfl⟩) | (go_at_call 14; refine (same_any _ _ _ (by assumption) (by assumption)).mono ?_; rintro e w' ⟨rfl, rfl⟩) | (go_at_call 27; refine (conj_any _ _ _).mono ?_; rintro e w' ⟨rfl, rfl⟩) | (go_at_call 25; refine (abs_any _ _ _).mono ?_; rintro e w' ⟨rfl, rfl⟩) | (go_at_call 56; refine (mAbs_any _ _ (by assumption)).mono ?_; rintro e w' ⟨rfl, rfl⟩) | (go_at_call 20; refine (polar_any _ _ _ (by assumption) (by assumption)).mono ?_; rintro e w' ⟨rfl, rfl⟩) | (go_at_call 22; refine (phase_any _ _ _ (by assumption) (by assumption)).mono ?_; rintro e w' ⟨rfl, rfl⟩) | (go_at_call 13; refine (log2_any _ _ _ (by assumption) (by assumption)).mono ?_; rintro e w' ⟨rfl, rfl⟩) | (go_at_call 18; refine (realLog_any _ _ (by assumption)).mono ?_; rintro e w' ⟨rfl, rfl⟩))
      refine bodyPost_ret (v := .tuple #[.agg #[.float .f64 0, .float .f64 0, .bool false, .bool false], .bool false]) (by simp [results, Try.results28, go_sem]) rfl ⟨_, _, false, rfl, c0, c0, (fun h => by cases h), (fun h => by rw [h5, h3] at h; simp at h), ?_⟩
      first | exact (Below.refl _ _).alloc (Nat.le_refl _) _ | exact ((((((Below.refl _ _).alloc (Nat.le_refl _) _)).setCell (by simp) _).setCell (by simp) _).setCell (by simp) _).setCell (by simp) _
  · clear h
    have key : Hid (logW (hypotW x y) = 9218868437227405312) := by
      show logW (hypotW x y) = 9218868437227405312
      rw [hypotW_inf (Or.inl h5)]; exact logI
    have P := hidd (inf_phase2 hx hy (isNan_false.1 h2) h3 h5)
    obtain ⟨_, h7⟩ := inf_num h5
    cases h6 : sg x <;> rw [h5, h6] at p1 p2 <;> simp only [Bool.true_and, Bool.not_false, Bool.not_true] at p1 p2
    · go_enter Try.func28, Try.ntmps28
      go_wp2_with (first | (go_at_call 16; refine (isNan_any _ _).mono ?_; rintro e w' ⟨rfl, rfl⟩) | (go_at_call 38; refine (infinity_any _).mono ?_; rintro e w' ⟨rfl, rfl⟩) | (go_at_call 36; refine (isInf_any _ _ (by assumption)).mono ?_; rintro e w' ⟨rfl, rfl⟩) | (go_at_call 33; refine (isFinite_any _ _ (by assumption)).mono ?_; rintro e w' ⟨rfl, rfl⟩) | (go_at_call 26; refine (minus_any _ _ (by assumption)).mono ?_; rintro e w' ⟨rfl, rfl⟩) | (go_at_call 17; refine (size_any _ _ (by assumption)).mono ?_; rintro e w' ⟨rfl, rfl⟩) | (go_at_call 15; refine (like_any _ _ _ (by assumption) (by assumption)).mono ?_; rintro e w' ⟨rfl, rfl⟩) | (go_at_call 14; refine (same_any _ _ _ (by assumption) (by assumption)).mono ?_; rintro e w' ⟨rfl, rfl⟩) | (go_at_call 27; refine (conj_any _ _ _).mono ?_; rintro e w' ⟨rfl, rfl⟩) | (go_at_call 25; refine (abs_any _ _ _).mono ?_; rintro e w' ⟨rfl, rfl⟩) | (go_at_call 56; refine (mAbs_any _ _ (by assumption)).mono ?_; rintro e w' ⟨rfl, rfl⟩) | (go_at_call 20; refine (polar_any _ _ _ (by assumption) (by assumption)).mono ?_; rintro e w' ⟨rfl, rfl⟩) | (go_at_call 22; refine (phase_any _ _ _ (by assumption) (by assumption)).mono ?_; rintro e w' ⟨rfl, rfl⟩) | (go_at_call 13; refine (log2_any _ _ _ (by assumption) (by assumption)).mono ?_; rintro e w' ⟨rfl, rfl⟩) | (go_at_call 18; refine (realLog_any _ _ (by assumption)).mono ?_; rintro e w' ⟨rfl, rfl⟩))
      refine bodyPost_ret (v := .tuple #[.agg #[.float .f64 9218868437227405312, .float .f64 (likeW 0 y), .bool false, .bool false], .bool true]) (by simp [results, Try.results28, go_sem]) rfl ⟨_, _, true, rfl, wI, l2.out, fun _ => ⟨same_of_eq key.out, same_of_eq (P.out.1 h6)⟩, fun _ => rfl, ?_⟩
      first | exact (Below.refl _ _).alloc (Nat.le_refl _) _ | exact ((((((Below.refl _ _).alloc (Nat.le_refl _) _)).setCell (by simp) _).setCell (by simp) _).setCell (by simp) _).setCell (by simp) _
    · go_enter Try.func28, Try.ntmps28
      go_wp2_with (first | (go_at_call 16; refine (isNan_any _ _).mono ?_; rintro e w' ⟨rfl, rfl⟩) | (go_at_call 38; refine (infinity_any _).mono ?_; rintro e w' ⟨rfl, rfl⟩) | (go_at_call 36; refine (isInf_any _ _ (by assumption)).mono ?_; rintro e w' ⟨rfl, rfl⟩) | (go_at_call 33; refine (isFinite_any _ _ (by assumption)).mono ?_; rintro e w' ⟨rfl, rfl⟩) | (go_at_call 26; refine (minus_any _ _ (by assumption)).mono ?_; rintro e w' ⟨rfl, rfl⟩) | (go_at_call 17; refine (size_any _ _ (by assumption)).mono ?_; rintro e w' ⟨rfl, rfl⟩) | (go_at_call 15; refine (like_any _ _ _ (by assumption) (by assumption)).mono ?_; rintro e w' ⟨rfl, rfl⟩) | (go_at_call 14; refine (same_any _ _ _ (by assumption) (by assumption)).mono ?_; rintro e w' ⟨rfl, rfl⟩) | (go_at_call 27; refine (conj_any _ _ _).mono ?_; rintro e w' ⟨rfl, rfl⟩) | (go_at_call 25; refine (abs_any _ _ _).mono ?_; rintro e w' ⟨rfl, rfl⟩) | (go_at_call 56; refine (mAbs_any _ _ (by assumption)).mono ?_; rintro e w' ⟨rfl, rfl⟩) | (go_at_call 20; refine (polar_any _ _ _ (by assumption) (by assumption)).mono ?_; rintro e w' ⟨rfl, rfl⟩) | (go_at_call 22; refine (phase_any _ _ _ (by assumption) (by assumption)).mono ?_; rintro e w' ⟨rfl, rfl⟩) | (go_at_call 13; refine (log2_any _ _ _ (by assumption) (by assumption)).mono ?_; rintro e w' ⟨rfl, rfl⟩) | (go_at_call 18; refine (realLog_any _ _ (by assumption)).mono ?_; rintro e w' ⟨rfl, rfl⟩))
      refine bodyPost_ret (v := .tuple #[.agg #[.float .f64 9218868437227405312, .float .f64 (likeW 4614256656552045848 y), .bool false, .bool false], .bool true]) (by simp [results, Try.results28, go_sem]) rfl ⟨_, _, true, rfl, wI, l1.out, fun _ => ⟨same_of_eq key.out, same_of_eq (P.out.2 h6)⟩, fun _ => rfl, ?_⟩
      first | exact (Below.refl _ _).alloc (Nat.le_refl _) _ | exact ((((((Below.refl _ _).alloc (Nat.le_refl _) _)).setCell (by simp) _).setCell (by simp) _).setCell (by simp) _).setCell (by simp) _
theorem specLog_any (x y : Nat) (w : World) (hx : Wd x) (hy : Wd y) : Calls Try.prog 28 #[.float .f64 x, .float .f64 y] w (LogRet x y w) := by
  cases h1 : isNan x
  · cases h2 : isNan y
    · cases h3 : isInf y
      · by_cases h : feq x 0 = false ∨ feq y 0 = false
        · exact specLog_rest x y w hx hy h1 h2 h3 h
        · exact specLog_zero x y w hx hy (by simpa using fun h' => h (Or.inl h')) (by simpa using fun h' => h (Or.inr h'))
      · exact specLog_infy x y w hx hy h1 h3
    · cases h3 : isInf x
      · exact specLog_none x y w hx hy (Or.inr ⟨h2, h3⟩)
      · exact specLog_half x y w hx hy (Or.inr ⟨h2, h3⟩)
  · cases h3 : isInf y
    · exact specLog_none x y w hx hy (Or.inl ⟨h1, h3⟩)
    · exact specLog_half x y w hx hy (Or.inl ⟨h1, h3⟩)

end Go.Proofs.Ytnfidnfokfgepaa

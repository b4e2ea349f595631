/- What Atan, Atan2, Phase, Polar and Log give, told in plain functions on words: one contract a function. -/
import Derived.Test.YtnfidnfokfgepaaAtanW
set_option linter.unusedSimpArgs false
set_option linter.unusedVariables false
namespace Go.Proofs.Ytnfidnfokfgepaa
open Go.RowKit F64

/-- The arctangent, and that of a quotient, on words. -/
def atanW (q : Nat) : Nat := if feq q 0 then q else if fgt q 0 then satanW q else fneg (satanW (fneg q))
def quadW (q x : Nat) : Nat := if flt x 0 then (if fle q 0 then (fadd q PI).getD 0 else (fsub q PI).getD 0) else q
def atan2W (y x : Nat) : Nat :=
  if isNan y || isNan x then 9221120237041090561
  else if feq y 0 then (if fge x 0 && !sg x then copyW 0 y else copyW PI y)
  else if feq x 0 then copyW PIH y
  else if isInf x then (if isPInf x then (if isInf y then copyW 4605249457297304856 y else copyW 0 y) else (if isInf y then copyW 4612488097114038738 y else copyW PI y))
  else if isInf y then copyW PIH y
  else quadW (atanW ((fdiv y x).getD 0)) x

theorem fgt_zero_num {q : Nat} (hn : Num q) (h0 : rg q ≠ 0) : fgt q 0 = !sg q := by
  rw [fgt_zero, isNan_false.2 hn]; simp [h0]
/-- The arctangent's range and sign. -/
theorem atan_ok {q : Nat} (hq : Wd q) (nq : Num q) : Wd (atanW q) ∧ Fi (atanW q) ∧ val (rg (atanW q)) ≤ val PIH ∧ (rg q ≠ 0 → sg (atanW q) = sg q ∧ rg (atanW q) ≠ 0) := by
  by_cases h0 : rg q = 0
  · have e : atanW q = q := by unfold atanW; rw [show feq q 0 = true from by rw [feq_zero]; simpa using h0]; rfl
    rw [e]
    have hI : (0 : Nat) < INF := by decide
    refine ⟨hq, by unfold Fi; omega, ?_, fun h => absurd h0 h⟩
    rw [h0, val_zero]; exact val_nonneg pi_facts.2.2.2.2.2.1
  · have e0 : feq q 0 = false := by rw [feq_zero]; simpa using h0
    cases hs : sg q
    · obtain ⟨_, w, f, p, l⟩ := sat_ok hq nq hs h0
      have e : atanW q = satanW q := by unfold atanW; rw [e0, fgt_zero_num nq h0, hs]; rfl
      rw [e]
      have sgn : sg (satanW q) = false := by
        cases h : sg (satanW q)
        · rfl
        · have := rv_nonneg (rg (satanW q)); rw [val_pm, h] at p; unfold pm at p; simp at p; grind
      have nz : rg (satanW q) ≠ 0 := by intro h; rw [val_pos_word sgn, h, rv_zero] at p; grind
      exact ⟨w, f, by rw [val_rg, ← val_pos_word sgn]; exact l, fun _ => ⟨sgn, nz⟩⟩
    · have hq' := fneg_wd hq
      obtain ⟨_, w, f, p, l⟩ := sat_ok hq' (fneg_num hq nq) (by rw [fneg_sg hq, hs]; rfl) (by rw [fneg_rg hq]; exact h0)
      have e : atanW q = fneg (satanW (fneg q)) := by unfold atanW; rw [e0, fgt_zero_num nq h0, hs]; rfl
      rw [e]
      have sgn : sg (satanW (fneg q)) = false := by
        cases h : sg (satanW (fneg q))
        · rfl
        · have := rv_nonneg (rg (satanW (fneg q))); rw [val_pm, h] at p; unfold pm at p; simp at p; grind
      have nz : rg (satanW (fneg q)) ≠ 0 := by intro h; rw [val_pos_word sgn, h, rv_zero] at p; grind
      refine ⟨fneg_wd w, fneg_fi w f, by rw [fneg_rg w, val_rg, ← val_pos_word sgn]; exact l, fun _ => ⟨by rw [fneg_sg w, sgn]; rfl, by rw [fneg_rg w]; exact nz⟩⟩

theorem val_bounds {x : Nat} {A : Rat} (h : val (rg x) ≤ A) : val x ≤ A ∧ -A ≤ val x := by
  rw [val_rg] at h
  have := rv_nonneg (rg x)
  rw [val_pm]; unfold pm; cases sg x <;> simp <;> grind
/-- The last step: into the quadrant. -/
theorem quad_add {q : Nat} (wq : Wd q) (fq : Fi q) (h : val (rg q) ≤ val PIH) : ∃ z, fadd q PI = some z ∧ Rnd e53 (val q + val PI) z ∧ Fi z ∧ sg z = false ∧ val PIH ≤ val z := by
  obtain ⟨pf1, pf2, pf3, pf4, pf5, pf6, pf7, pf8, pf9⟩ := pi_facts
  obtain ⟨b1, b2⟩ := val_bounds h
  have hM := big_le_MAXF
  obtain ⟨z, e, R, s1, _⟩ := add_rnd fq pf1
  have l := R.lo PIH pf2.num (by grind)
  exact ⟨z, e, R, R.fin (by grind) (by grind), by rw [s1 (by grind)]; simp; grind, l⟩
theorem quad_sub {q : Nat} (wq : Wd q) (fq : Fi q) (h : val (rg q) ≤ val PIH) : ∃ z, fsub q PI = some z ∧ Rnd e53 (val q - val PI) z ∧ Fi z ∧ sg z = true ∧ val z ≤ -(val PIH) := by
  obtain ⟨pf1, pf2, pf3, pf4, pf5, pf6, pf7, pf8, pf9⟩ := pi_facts
  obtain ⟨b1, b2⟩ := val_bounds h
  have hM := big_le_MAXF
  obtain ⟨z, e, R, s1, _⟩ := add_rnd fq (negw_fin pf3 pf1)
  rw [negw_val pf3, show val q + -(val PI) = val q - val PI from by grind] at R s1
  have l := R.up (negw PIH) (negw_num pf4 pf2.num) (by rw [negw_val pf4]; grind)
  rw [negw_val pf4] at l
  exact ⟨z, by rw [fsub_add pf3]; exact e, R, R.fin (by grind) (by grind), by rw [s1 (by grind)]; simp; grind, l⟩

/-- A quotient of finite numbers, neither 0. -/
theorem quot_ok {y x : Nat} (hy : Wd y) (hx : Wd x) (fy : Fi y) (fx : Fi x) (y0 : rg y ≠ 0) (x0 : rg x ≠ 0) :
    ∃ q, fdiv y x = some q ∧ Wd q ∧ Num q ∧ sg q = (sg y ^^ sg x) := by
  obtain ⟨q, e, R, s⟩ := div_rnd fy fx x0
  exact ⟨q, e, R.wd, R.num, s⟩

set_option maxRecDepth 100000 in
theorem xatan_any (v : Nat) (w : World) (h : XatArg v) :
    Calls Try.prog 70 #[.float .f64 v] w fun e w' => e = .returned (.float .f64 (xatanW v)) ∧ w = w' := by
  obtain ⟨z0, n1, n2, n3, n4, n5, n6, n7, n8, n9, d1, d2, d3, d4, d5, d6, d7, d8, d9, z, y, r, S, _⟩ := xat_steps h.1 h.2.1 h.2.2.1 h.2.2.2
  have H := hidd S.eq
  obtain ⟨e1, e2, e3, e4, e5, e6, e7, e8, e9, e10, e11, e12, e13, e14, e15, e16, e17, e18, e19, e20, e21, e22⟩ := S
  clear h
  go_enter Try.func70, Try.ntmps70
  go_wp2
  go_ret
  exact ⟨by rw [H.out]; rfl, rfl⟩
theorem satan_any (x : Nat) (w : World) (h : Sat x) :
    Calls Try.prog 69 #[.float .f64 x] w fun e w' => e = .returned (.float .f64 (satanW x)) ∧ w = w' := by
  have HS : Hid (satanW x = if fle x 4604119971053405471 then xatanW x
    else if fgt x 4612618744449965542 then ((fdiv ONE x).bind fun i => (fsub PIH (xatanW i)).bind fun a => fadd a 4364452196894661639).getD 0
    else ((fsub x ONE).bind fun n => (fadd x ONE).bind fun d => (fdiv n d).bind fun q => (fadd 4605249457297304856 (xatanW q)).bind fun a => fadd a 4359948597267291143).getD 0) := rfl
  rcases h with ⟨c1, ha⟩ | ⟨c1, c2, i, a, z, ⟨e1, e2, e3⟩, ha, he⟩ | ⟨c1, c2, n, d, q, a, z, ⟨e1, e2, e3, e4, e5⟩, ha, he⟩
  · have HA := hidd ha
    have C : Hid (fle x 4604119971053405471 = true) := c1
    clear ha
    unfold fle at c1
    rcases Bool.eq_false_or_eq_true (flt x 4604119971053405471) with f1 | f1
    · go_enter Try.func69, Try.ntmps69
      go_wp2_with (go_at_call 70; refine (xatan_any _ _ HA.out).mono ?_; rintro e w' ⟨rfl, rfl⟩)
      go_ret
      exact ⟨by rw [HS.out, C.out]; rfl, rfl⟩
    · have f2 : feq x 4604119971053405471 = true := by rw [f1] at c1; simpa using c1
      clear c1
      go_enter Try.func69, Try.ntmps69
      go_wp2_with (go_at_call 70; refine (xatan_any _ _ HA.out).mono ?_; rintro e w' ⟨rfl, rfl⟩)
      go_ret
      exact ⟨by rw [HS.out, C.out]; rfl, rfl⟩
  · have HA := hidd ha
    have HE := hidd he
    have f1 : flt x 4604119971053405471 = false := by unfold fle at c1; revert c1; cases flt x 4604119971053405471 <;> simp
    have f2 : feq x 4604119971053405471 = false := by unfold fle at c1; revert c1; cases feq x 4604119971053405471 <;> simp
    clear ha he
    unfold ONE at e1
    unfold PIH at e2
    go_enter Try.func69, Try.ntmps69
    go_wp2_with (go_at_call 70; refine (xatan_any _ _ HA.out).mono ?_; rintro e w' ⟨rfl, rfl⟩)
    go_ret
    exact ⟨by rw [HE.out]; rfl, rfl⟩
  · have HA := hidd ha
    have HE := hidd he
    have f1 : flt x 4604119971053405471 = false := by unfold fle at c1; revert c1; cases flt x 4604119971053405471 <;> simp
    have f2 : feq x 4604119971053405471 = false := by unfold fle at c1; revert c1; cases feq x 4604119971053405471 <;> simp
    clear ha he
    unfold ONE at e1 e2
    go_enter Try.func69, Try.ntmps69
    go_wp2_with (go_at_call 70; refine (xatan_any _ _ HA.out).mono ?_; rintro e w' ⟨rfl, rfl⟩)
    go_ret
    exact ⟨by rw [HE.out]; rfl, rfl⟩
theorem atan_any (q : Nat) (w : World) (hq : Wd q) (nq : Num q) :
    Calls Try.prog 67 #[.float .f64 q] w fun e w' => e = .returned (.float .f64 (atanW q)) ∧ w = w' := by
  have HS : Hid (atanW q = if feq q 0 then q else if fgt q 0 then satanW q else fneg (satanW (fneg q))) := rfl
  cases c1 : feq q 0
  · have h0 : rg q ≠ 0 := by rw [feq_zero] at c1; simpa using c1
    cases hs : sg q
    · have c2 : fgt q 0 = true := by rw [fgt_zero_num nq h0, hs]; rfl
      have HA := hidd (sat_ok hq nq hs h0).1
      go_enter Try.func67, Try.ntmps67
      go_wp2_with (go_at_call 69; refine (satan_any _ _ HA.out).mono ?_; rintro e w' ⟨rfl, rfl⟩)
      go_ret
      exact ⟨by rw [HS.out, c1, c2]; rfl, rfl⟩
    · have c2 : fgt q 0 = false := by rw [fgt_zero_num nq h0, hs]; rfl
      have HA := hidd (sat_ok (fneg_wd hq) (fneg_num hq nq) (by rw [fneg_sg hq, hs]; rfl) (by rw [fneg_rg hq]; exact h0)).1
      go_enter Try.func67, Try.ntmps67
      go_wp2_with (go_at_call 69; refine (satan_any _ _ HA.out).mono ?_; rintro e w' ⟨rfl, rfl⟩)
      go_ret
      exact ⟨by rw [HS.out, c1, c2]; rfl, rfl⟩
  · go_enter Try.func67, Try.ntmps67
    go_wp2_with fail
    go_ret
    exact ⟨by rw [HS.out, c1]; rfl, rfl⟩
theorem mAtan_any (q : Nat) (w : World) (hq : Wd q) (nq : Num q) :
    Calls Try.prog 62 #[.float .f64 q] w fun e w' => e = .returned (.float .f64 (atanW q)) ∧ w = w' := by
  go_enter Try.func62, Try.ntmps62
  go_wp2_with (go_at_call 67; refine (atan_any _ _ hq nq).mono ?_; rintro e w' ⟨rfl, rfl⟩)
  go_ret
  exact ⟨rfl, rfl⟩
theorem atan2_def (y x : Nat) : Hid (atan2W y x = if isNan y || isNan x then 9221120237041090561
  else if feq y 0 then (if fge x 0 && !sg x then copyW 0 y else copyW PI y)
  else if feq x 0 then copyW PIH y
  else if isInf x then (if isPInf x then (if isInf y then copyW 4605249457297304856 y else copyW 0 y) else (if isInf y then copyW 4612488097114038738 y else copyW PI y))
  else if isInf y then copyW PIH y
  else quadW (atanW ((fdiv y x).getD 0)) x) := rfl
set_option maxRecDepth 100000 in
theorem atan2_nan (y x : Nat) (w : World) (h : isNan y = true ∨ isNan x = true) :
    Calls Try.prog 53 #[.float .f64 y, .float .f64 x] w fun e w' => e = .returned (.float .f64 (atan2W y x)) ∧ w = w' := by
  have HS := atan2_def y x
  cases h1 : isNan y
  · have h2 : isNan x = true := by rw [h1] at h; simpa using h
    clear h
    go_enter Try.func53, Try.ntmps53
    go_wp2_with (first | (go_at_call 61; refine (mCopysign_any _ _ _ (by assumption) (by assumption)).mono ?_; rintro e w' ⟨rfl, rfl⟩) | (go_at_call 47; refine (mIsNaN_any _ _).mono ?_; rintro e w' ⟨rfl, rfl⟩) | (go_at_call 60; refine (mSignbit_any _ _ (by assumption)).mono ?_; rintro e w' ⟨rfl, rfl⟩) | (go_at_call 48; ((with_reducible refine (mIsInf0_any _ _ (by assumption)).mono ?_); rintro e w' ⟨rfl, rfl⟩)) | (go_at_call 48; ((with_reducible refine (mIsInf1_any _ _).mono ?_); rintro e w' ⟨rfl, rfl⟩)) | (go_at_call 49; refine (mNaN_any _).mono ?_; rintro e w' ⟨rfl, rfl⟩) | (go_at_call 62; refine (mAtan_any _ _ (by assumption) (by assumption)).mono ?_; rintro e w' ⟨rfl, rfl⟩))
    go_ret
    exact ⟨by rw [HS.out, h1, h2]; rfl, rfl⟩
  · clear h
    go_enter Try.func53, Try.ntmps53
    go_wp2_with (first | (go_at_call 61; refine (mCopysign_any _ _ _ (by assumption) (by assumption)).mono ?_; rintro e w' ⟨rfl, rfl⟩) | (go_at_call 47; refine (mIsNaN_any _ _).mono ?_; rintro e w' ⟨rfl, rfl⟩) | (go_at_call 60; refine (mSignbit_any _ _ (by assumption)).mono ?_; rintro e w' ⟨rfl, rfl⟩) | (go_at_call 48; ((with_reducible refine (mIsInf0_any _ _ (by assumption)).mono ?_); rintro e w' ⟨rfl, rfl⟩)) | (go_at_call 48; ((with_reducible refine (mIsInf1_any _ _).mono ?_); rintro e w' ⟨rfl, rfl⟩)) | (go_at_call 49; refine (mNaN_any _).mono ?_; rintro e w' ⟨rfl, rfl⟩) | (go_at_call 62; refine (mAtan_any _ _ (by assumption) (by assumption)).mono ?_; rintro e w' ⟨rfl, rfl⟩))
    go_ret
    exact ⟨by rw [HS.out, h1]; rfl, rfl⟩
set_option maxRecDepth 100000 in
theorem atan2_y0 (y x : Nat) (w : World) (hy : Wd y) (hx : Wd x) (h1 : isNan y = false) (h2 : isNan x = false) (h3 : feq y 0 = true) :
    Calls Try.prog 53 #[.float .f64 y, .float .f64 x] w fun e w' => e = .returned (.float .f64 (atan2W y x)) ∧ w = w' := by
  have HS := atan2_def y x
  have HG : Hid (fge x 0 = (fgt x 0 || feq x 0)) := rfl
  have w0 : Wd 0 := by unfold Wd; decide
  have w1 : Wd 4614256656552045848 := by unfold Wd; decide
  have w2 : Wd 4609753056924675352 := by unfold Wd; decide
  have w3 : Wd 4605249457297304856 := by unfold Wd; decide
  have w4 : Wd 4612488097114038738 := by unfold Wd; decide
  cases h4 : fgt x 0 <;> cases h5 : feq x 0 <;> cases h6 : sg x
  all_goals
    go_enter Try.func53, Try.ntmps53
    go_wp2_with (first | (go_at_call 61; refine (mCopysign_any _ _ _ (by assumption) (by assumption)).mono ?_; rintro e w' ⟨rfl, rfl⟩) | (go_at_call 47; refine (mIsNaN_any _ _).mono ?_; rintro e w' ⟨rfl, rfl⟩) | (go_at_call 60; refine (mSignbit_any _ _ (by assumption)).mono ?_; rintro e w' ⟨rfl, rfl⟩) | (go_at_call 48; ((with_reducible refine (mIsInf0_any _ _ (by assumption)).mono ?_); rintro e w' ⟨rfl, rfl⟩)) | (go_at_call 48; ((with_reducible refine (mIsInf1_any _ _).mono ?_); rintro e w' ⟨rfl, rfl⟩)) | (go_at_call 49; refine (mNaN_any _).mono ?_; rintro e w' ⟨rfl, rfl⟩) | (go_at_call 62; refine (mAtan_any _ _ (by assumption) (by assumption)).mono ?_; rintro e w' ⟨rfl, rfl⟩))
    go_ret
    exact ⟨by rw [HS.out, HG.out, h1, h2, h3, h4, h5, h6]; rfl, rfl⟩
set_option maxRecDepth 100000 in
theorem atan2_inf (y x : Nat) (w : World) (hy : Wd y) (hx : Wd x) (h1 : isNan y = false) (h2 : isNan x = false) (h3 : feq y 0 = false) (h : feq x 0 = true ∨ isInf x = true ∨ isInf y = true) :
    Calls Try.prog 53 #[.float .f64 y, .float .f64 x] w fun e w' => e = .returned (.float .f64 (atan2W y x)) ∧ w = w' := by
  have HS := atan2_def y x
  have w0 : Wd 0 := by unfold Wd; decide
  have w1 : Wd 4614256656552045848 := by unfold Wd; decide
  have w2 : Wd 4609753056924675352 := by unfold Wd; decide
  have w3 : Wd 4605249457297304856 := by unfold Wd; decide
  have w4 : Wd 4612488097114038738 := by unfold Wd; decide
  cases h4 : feq x 0
  · cases h5 : isInf x
    · have h6 : isInf y = true := by rw [h4, h5] at h; simpa using h
      clear h
      go_enter Try.func53, Try.ntmps53
      go_wp2_with (first | (go_at_call 61; refine (mCopysign_any _ _ _ (by assumption) (by assumption)).mono ?_; rintro e w' ⟨rfl, rfl⟩) | (go_at_call 47; refine (mIsNaN_any _ _).mono ?_; rintro e w' ⟨rfl, rfl⟩) | (go_at_call 60; refine (mSignbit_any _ _ (by assumption)).mono ?_; rintro e w' ⟨rfl, rfl⟩) | (go_at_call 48; ((with_reducible refine (mIsInf0_any _ _ (by assumption)).mono ?_); rintro e w' ⟨rfl, rfl⟩)) | (go_at_call 48; ((with_reducible refine (mIsInf1_any _ _).mono ?_); rintro e w' ⟨rfl, rfl⟩)) | (go_at_call 49; refine (mNaN_any _).mono ?_; rintro e w' ⟨rfl, rfl⟩) | (go_at_call 62; refine (mAtan_any _ _ (by assumption) (by assumption)).mono ?_; rintro e w' ⟨rfl, rfl⟩))
      go_ret
      exact ⟨by rw [HS.out, h1, h2, h3, h4, h5, h6]; rfl, rfl⟩
    · clear h
      cases h6 : isPInf x <;> cases h7 : isInf y
      all_goals
        go_enter Try.func53, Try.ntmps53
        go_wp2_with (first | (go_at_call 61; refine (mCopysign_any _ _ _ (by assumption) (by assumption)).mono ?_; rintro e w' ⟨rfl, rfl⟩) | (go_at_call 47; refine (mIsNaN_any _ _).mono ?_; rintro e w' ⟨rfl, rfl⟩) | (go_at_call 60; refine (mSignbit_any _ _ (by assumption)).mono ?_; rintro e w' ⟨rfl, rfl⟩) | (go_at_call 48; ((with_reducible refine (mIsInf0_any _ _ (by assumption)).mono ?_); rintro e w' ⟨rfl, rfl⟩)) | (go_at_call 48; ((with_reducible refine (mIsInf1_any _ _).mono ?_); rintro e w' ⟨rfl, rfl⟩)) | (go_at_call 49; refine (mNaN_any _).mono ?_; rintro e w' ⟨rfl, rfl⟩) | (go_at_call 62; refine (mAtan_any _ _ (by assumption) (by assumption)).mono ?_; rintro e w' ⟨rfl, rfl⟩))
        go_ret
        exact ⟨by rw [HS.out, h1, h2, h3, h4, h5, h6, h7]; rfl, rfl⟩
  · clear h
    go_enter Try.func53, Try.ntmps53
    go_wp2_with (first | (go_at_call 61; refine (mCopysign_any _ _ _ (by assumption) (by assumption)).mono ?_; rintro e w' ⟨rfl, rfl⟩) | (go_at_call 47; refine (mIsNaN_any _ _).mono ?_; rintro e w' ⟨rfl, rfl⟩) | (go_at_call 60; refine (mSignbit_any _ _ (by assumption)).mono ?_; rintro e w' ⟨rfl, rfl⟩) | (go_at_call 48; ((with_reducible refine (mIsInf0_any _ _ (by assumption)).mono ?_); rintro e w' ⟨rfl, rfl⟩)) | (go_at_call 48; ((with_reducible refine (mIsInf1_any _ _).mono ?_); rintro e w' ⟨rfl, rfl⟩)) | (go_at_call 49; refine (mNaN_any _).mono ?_; rintro e w' ⟨rfl, rfl⟩) | (go_at_call 62; refine (mAtan_any _ _ (by assumption) (by assumption)).mono ?_; rintro e w' ⟨rfl, rfl⟩))
    go_ret
    exact ⟨by rw [HS.out, h1, h2, h3, h4]; rfl, rfl⟩
set_option maxRecDepth 100000 in
theorem atan2_fin (y x : Nat) (w : World) (hy : Wd y) (hx : Wd x) (h1 : isNan y = false) (h2 : isNan x = false) (h3 : feq y 0 = false) (h4 : feq x 0 = false) (h5 : isInf x = false) (h6 : isInf y = false) :
    Calls Try.prog 53 #[.float .f64 y, .float .f64 x] w fun e w' => e = .returned (.float .f64 (atan2W y x)) ∧ w = w' := by
  have HS := atan2_def y x
  have fy : Fi y := num_fi (isNan_false.1 h1) (by unfold isInf at h6; simpa using h6)
  have fx : Fi x := num_fi (isNan_false.1 h2) (by unfold isInf at h5; simpa using h5)
  obtain ⟨q, eq', wq, nq, sq⟩ := quot_ok hy hx fy fx (by rw [feq_zero] at h3; simpa using h3) (by rw [feq_zero] at h4; simpa using h4)
  obtain ⟨a1, a2, a3, a4⟩ := atan_ok wq nq
  obtain ⟨z1, g1, _⟩ := quad_add a1 a2 a3
  obtain ⟨z2, g2, _⟩ := quad_sub a1 a2 a3
  have HQ : Hid (quadW (atanW q) x = if flt x 0 then (if fle (atanW q) 0 then (fadd (atanW q) PI).getD 0 else (fsub (atanW q) PI).getD 0) else atanW q) := rfl
  have G1 := hidd g1
  have G2 := hidd g2
  unfold PI at g1 g2
  clear fy fx sq a1 a2 a3 a4
  cases h7 : flt x 0
  · go_enter Try.func53, Try.ntmps53
    go_wp2_with (first | (go_at_call 61; refine (mCopysign_any _ _ _ (by assumption) (by assumption)).mono ?_; rintro e w' ⟨rfl, rfl⟩) | (go_at_call 47; refine (mIsNaN_any _ _).mono ?_; rintro e w' ⟨rfl, rfl⟩) | (go_at_call 60; refine (mSignbit_any _ _ (by assumption)).mono ?_; rintro e w' ⟨rfl, rfl⟩) | (go_at_call 48; ((with_reducible refine (mIsInf0_any _ _ (by assumption)).mono ?_); rintro e w' ⟨rfl, rfl⟩)) | (go_at_call 48; ((with_reducible refine (mIsInf1_any _ _).mono ?_); rintro e w' ⟨rfl, rfl⟩)) | (go_at_call 49; refine (mNaN_any _).mono ?_; rintro e w' ⟨rfl, rfl⟩) | (go_at_call 62; refine (mAtan_any _ _ (by assumption) (by assumption)).mono ?_; rintro e w' ⟨rfl, rfl⟩))
    go_ret
    exact ⟨by rw [HS.out, h1, h2, h3, h4, h5, h6, eq', show (some q).getD 0 = q from rfl, HQ.out, h7]; rfl, rfl⟩
  · have HL : Hid (fle (atanW q) 0 = (flt (atanW q) 0 || feq (atanW q) 0)) := rfl
    cases h8 : flt (atanW q) 0 <;> cases h9 : feq (atanW q) 0
    all_goals
      go_enter Try.func53, Try.ntmps53
      go_wp2_with (first | (go_at_call 61; refine (mCopysign_any _ _ _ (by assumption) (by assumption)).mono ?_; rintro e w' ⟨rfl, rfl⟩) | (go_at_call 47; refine (mIsNaN_any _ _).mono ?_; rintro e w' ⟨rfl, rfl⟩) | (go_at_call 60; refine (mSignbit_any _ _ (by assumption)).mono ?_; rintro e w' ⟨rfl, rfl⟩) | (go_at_call 48; ((with_reducible refine (mIsInf0_any _ _ (by assumption)).mono ?_); rintro e w' ⟨rfl, rfl⟩)) | (go_at_call 48; ((with_reducible refine (mIsInf1_any _ _).mono ?_); rintro e w' ⟨rfl, rfl⟩)) | (go_at_call 49; refine (mNaN_any _).mono ?_; rintro e w' ⟨rfl, rfl⟩) | (go_at_call 62; refine (mAtan_any _ _ (by assumption) (by assumption)).mono ?_; rintro e w' ⟨rfl, rfl⟩))
      go_ret
      exact ⟨by rw [HS.out, h1, h2, h3, h4, h5, h6, eq', show (some q).getD 0 = q from rfl, HQ.out, h7, HL.out, h8, h9, G1.out, G2.out]; rfl, rfl⟩
theorem atan2_any (y x : Nat) (w : World) (hy : Wd y) (hx : Wd x) :
    Calls Try.prog 53 #[.float .f64 y, .float .f64 x] w fun e w' => e = .returned (.float .f64 (atan2W y x)) ∧ w = w' := by
  by_cases h : isNan y = true ∨ isNan x = true
  · exact atan2_nan y x w h
  · have h1 : isNan y = false := by simpa using fun h' => h (Or.inl h')
    have h2 : isNan x = false := by simpa using fun h' => h (Or.inr h')
    cases h3 : feq y 0
    · by_cases h4 : feq x 0 = true ∨ isInf x = true ∨ isInf y = true
      · exact atan2_inf y x w hy hx h1 h2 h3 h4
      · exact atan2_fin y x w hy hx h1 h2 h3 (by simpa using fun h' => h4 (Or.inl h')) (by simpa using fun h' => h4 (Or.inr (Or.inl h'))) (by simpa using fun h' => h4 (Or.inr (Or.inr h')))
    · exact atan2_y0 y x w hy hx h1 h2 h3
theorem mAtan2_any (y x : Nat) (w : World) (hy : Wd y) (hx : Wd x) :
    Calls Try.prog 45 #[.float .f64 y, .float .f64 x] w fun e w' => e = .returned (.float .f64 (atan2W y x)) ∧ w = w' := by
  go_enter Try.func45, Try.ntmps45
  go_wp2_with (go_at_call 53; refine (atan2_any _ _ _ hy hx).mono ?_; rintro e w' ⟨rfl, rfl⟩)
  go_ret
  exact ⟨rfl, rfl⟩
theorem cPhase_any (x y : Nat) (w : World) (hx : Wd x) (hy : Wd y) :
    Calls Try.prog 37 #[.complex .f64 x y] w fun e w' => e = .returned (.float .f64 (atan2W y x)) ∧ w = w' := by
  go_enter Try.func37, Try.ntmps37
  go_wp2_with (go_at_call 45; refine (mAtan2_any _ _ _ hy hx).mono ?_; rintro e w' ⟨rfl, rfl⟩)
  go_ret
  exact ⟨rfl, rfl⟩
theorem phase_any (x y : Nat) (w : World) (hx : Wd x) (hy : Wd y) :
    Calls Try.prog 22 #[.float .f64 x, .float .f64 y] w fun e w' => e = .returned (.float .f64 (atan2W y x)) ∧ w = w' := by
  go_enter Try.func22, Try.ntmps22
  go_wp2_with (go_at_call 37; refine (cPhase_any _ _ _ hx hy).mono ?_; rintro e w' ⟨rfl, rfl⟩)
  go_ret
  exact ⟨rfl, rfl⟩
theorem cPolar_any (x y : Nat) (w : World) (hx : Wd x) (hy : Wd y) :
    Calls Try.prog 34 #[.complex .f64 x y] w fun e w' => e = .returned (.tuple #[.float .f64 (hypotW x y), .float .f64 (atan2W y x)]) ∧ w = w' := by
  go_enter Try.func34, Try.ntmps34
  go_wp2_with (first | (go_at_call 37; refine (cPhase_any _ _ _ hx hy).mono ?_; rintro e w' ⟨rfl, rfl⟩) | (go_at_call 39; refine (cAbs_any _ _ _).mono ?_; rintro e w' ⟨rfl, rfl⟩))
  go_ret2
  exact ⟨rfl, rfl⟩
theorem polar_any (x y : Nat) (w : World) (hx : Wd x) (hy : Wd y) :
    Calls Try.prog 20 #[.float .f64 x, .float .f64 y] w fun e w' => e = .returned (.tuple #[.float .f64 (hypotW x y), .float .f64 (atan2W y x)]) ∧ w = w' := by
  go_enter Try.func20, Try.ntmps20
  go_wp2_with (go_at_call 34; refine (cPolar_any _ _ _ hx hy).mono ?_; rintro e w' ⟨rfl, rfl⟩)
  go_ret2
  exact ⟨rfl, rfl⟩
theorem cLog_any (x y : Nat) (w : World) (hx : Wd x) (hy : Wd y) :
    Calls Try.prog 31 #[.complex .f64 x y] w fun e w' => e = .returned (.complex .f64 (logW (hypotW x y)) (atan2W y x)) ∧ w = w' := by
  have hw := hypotW_wd x y
  go_enter Try.func31, Try.ntmps31
  go_wp2_with (first | (go_at_call 37; refine (cPhase_any _ _ _ hx hy).mono ?_; rintro e w' ⟨rfl, rfl⟩) | (go_at_call 39; refine (cAbs_any _ _ _).mono ?_; rintro e w' ⟨rfl, rfl⟩) | (go_at_call 32; refine (mLog_any _ _ hw).mono ?_; rintro e w' ⟨rfl, rfl⟩))
  go_ret
  exact ⟨rfl, rfl⟩
theorem log2_any (x y : Nat) (w : World) (hx : Wd x) (hy : Wd y) :
    Calls Try.prog 13 #[.float .f64 x, .float .f64 y] w fun e w' => e = .returned (.tuple #[.float .f64 (logW (hypotW x y)), .float .f64 (atan2W y x)]) ∧ w = w' := by
  go_enter Try.func13, Try.ntmps13
  go_wp2_with (first | (go_at_call 31; refine (cLog_any _ _ _ hx hy).mono ?_; rintro e w' ⟨rfl, rfl⟩) | (go_at_call 30; refine (split_any _ _ _).mono ?_; rintro e w' ⟨rfl, rfl⟩))
  go_ret2
  exact ⟨rfl, rfl⟩

end Go.Proofs.Ytnfidnfokfgepaa

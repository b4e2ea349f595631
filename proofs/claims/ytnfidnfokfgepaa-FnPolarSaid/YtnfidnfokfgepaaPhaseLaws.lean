/- Plain laws of the phase on words (PHASE): its range, its sign, the conjugate's phase. -/
import Derived.Test.YtnfidnfokfgepaaPhase
import Derived.Test.YtnfidnfokfgepaaNegLaws
set_option linter.unusedSimpArgs false
set_option linter.unusedVariables false
namespace Go.Proofs.Ytnfidnfokfgepaa
open Go.RowKit F64

/-- The quotient of two parts that are not 0 is 0. -/
def lostB (x y : Nat) : Bool := isFin x && !feq x 0 && !feq y 0 && (match fdiv y x with | some q => feq q 0 | none => false)
theorem feq_nan {r : Nat} (h : ¬ Num r) : feq r 0 = false := by
  rw [feq_zero]; have : rg r ≠ 0 := by unfold Num at h; omega
  simpa using this
/-- A bool, with some draws. -/
def BoolRet (b : Bool) (w : World) (e : Ending) (w' : World) : Prop := ∃ n, e = .returned (.bool b) ∧ w' = w.drewN n
theorem lost_any (x y : Nat) (w : World) (hx : Wd x) (hy : Wd y) : Calls Try.prog 19 #[.float .f64 x, .float .f64 y] w (BoolRet (lostB x y) w) := by
  have HL : Hid (lostB x y = (isFin x && !feq x 0 && !feq y 0 && (match fdiv y x with | some q => feq q 0 | none => false))) := rfl
  cases h1 : isFin x
  · go_enter Try.func19, Try.ntmps19
    go_wp2_with (first | (go_at_call 16; refine (isNan_any _ _).mono ?_; rintro e w' ⟨rfl, rfl⟩) | (go_at_call 38; refine (infinity_any _).mono ?_; rintro e w' ⟨rfl, rfl⟩) | (go_at_call 36; refine (isInf_any _ _ (by assumption)).mono ?_; rintro e w' ⟨rfl, rfl⟩) | (go_at_call 33; refine (isFinite_any _ _ (by assumption)).mono ?_; rintro e w' ⟨rfl, rfl⟩) | (go_at_call 26; refine (minus_any _ _ (by assumption)).mono ?_; rintro e w' ⟨rfl, rfl⟩) | (go_at_call 17; refine (size_any _ _ (by assumption)).mono ?_; rintro e w' ⟨rfl, rfl⟩) | (go_at_call 15; refine (like_any _ _ _ (by assumption) (by assumption)).mono ?_; rintro e w' ⟨rfl, rfl⟩) | (go_at_call 14; refine (same_any _ _ _ (by assumption) (by assumption)).mono ?_; rintro e w' ⟨rfl, rfl⟩) | (go_at_call 27; refine (conj_any _ _ _).mono ?_; rintro e w' ⟨rfl, rfl⟩) | (go_at_call 25; refine (abs_any _ _ _).mono ?_; rintro e w' ⟨rfl, rfl⟩) | (go_at_call 56; refine (mAbs_any _ _ (by assumption)).mono ?_; rintro e w' ⟨rfl, rfl⟩) | (go_at_call 20; refine (polar_any _ _ _ (by assumption) (by assumption)).mono ?_; rintro e w' ⟨rfl, rfl⟩) | (go_at_call 22; refine (phase_any _ _ _ (by assumption) (by assumption)).mono ?_; rintro e w' ⟨rfl, rfl⟩) | (go_at_call 13; refine (log2_any _ _ _ (by assumption) (by assumption)).mono ?_; rintro e w' ⟨rfl, rfl⟩) | (go_at_call 18; refine (realLog_any _ _ (by assumption)).mono ?_; rintro e w' ⟨rfl, rfl⟩))
    go_ret
    exact ⟨_, by rw [HL.out, h1]; rfl, rfl⟩
  · cases h2 : feq x 0
    · cases h3 : feq y 0
      · cases h4 : fdiv y x with
        | some q =>
          go_enter Try.func19, Try.ntmps19
          go_wp2_with (first | (go_at_call 16; refine (isNan_any _ _).mono ?_; rintro e w' ⟨rfl, rfl⟩) | (go_at_call 38; refine (infinity_any _).mono ?_; rintro e w' ⟨rfl, rfl⟩) | (go_at_call 36; refine (isInf_any _ _ (by assumption)).mono ?_; rintro e w' ⟨rfl, rfl⟩) | (go_at_call 33; refine (isFinite_any _ _ (by assumption)).mono ?_; rintro e w' ⟨rfl, rfl⟩) | (go_at_call 26; refine (minus_any _ _ (by assumption)).mono ?_; rintro e w' ⟨rfl, rfl⟩) | (go_at_call 17; refine (size_any _ _ (by assumption)).mono ?_; rintro e w' ⟨rfl, rfl⟩) | (go_at_call 15; refine (like_any _ _ _ (by assumption) (by assumption)).mono ?_; rintro e w' ⟨rfl, rfl⟩) | (go_at_call 14; refine (same_any _ _ _ (by assumption) (by assumption)).mono ?_; rintro e w' ⟨rfl, rfl⟩) | (go_at_call 27; refine (conj_any _ _ _).mono ?_; rintro e w' ⟨rfl, rfl⟩) | (go_at_call 25; refine (abs_any _ _ _).mono ?_; rintro e w' ⟨rfl, rfl⟩) | (go_at_call 56; refine (mAbs_any _ _ (by assumption)).mono ?_; rintro e w' ⟨rfl, rfl⟩) | (go_at_call 20; refine (polar_any _ _ _ (by assumption) (by assumption)).mono ?_; rintro e w' ⟨rfl, rfl⟩) | (go_at_call 22; refine (phase_any _ _ _ (by assumption) (by assumption)).mono ?_; rintro e w' ⟨rfl, rfl⟩) | (go_at_call 13; refine (log2_any _ _ _ (by assumption) (by assumption)).mono ?_; rintro e w' ⟨rfl, rfl⟩) | (go_at_call 18; refine (realLog_any _ _ (by assumption)).mono ?_; rintro e w' ⟨rfl, rfl⟩))
          go_ret
          exact ⟨_, by rw [HL.out, h1, h2, h3, h4]; rfl, rfl⟩
        | none =>
          have HN : Hid (∀ w, feq (fv none y x w) 0 = false) := fun w => feq_nan (nanAt_nan y x w).1
          go_enter Try.func19, Try.ntmps19
          go_wp2_with (first | (go_at_call 16; refine (isNan_any _ _).mono ?_; rintro e w' ⟨rfl, rfl⟩) | (go_at_call 38; refine (infinity_any _).mono ?_; rintro e w' ⟨rfl, rfl⟩) | (go_at_call 36; refine (isInf_any _ _ (by assumption)).mono ?_; rintro e w' ⟨rfl, rfl⟩) | (go_at_call 33; refine (isFinite_any _ _ (by assumption)).mono ?_; rintro e w' ⟨rfl, rfl⟩) | (go_at_call 26; refine (minus_any _ _ (by assumption)).mono ?_; rintro e w' ⟨rfl, rfl⟩) | (go_at_call 17; refine (size_any _ _ (by assumption)).mono ?_; rintro e w' ⟨rfl, rfl⟩) | (go_at_call 15; refine (like_any _ _ _ (by assumption) (by assumption)).mono ?_; rintro e w' ⟨rfl, rfl⟩) | (go_at_call 14; refine (same_any _ _ _ (by assumption) (by assumption)).mono ?_; rintro e w' ⟨rfl, rfl⟩) | (go_at_call 27; refine (conj_any _ _ _).mono ?_; rintro e w' ⟨rfl, rfl⟩) | (go_at_call 25; refine (abs_any _ _ _).mono ?_; rintro e w' ⟨rfl, rfl⟩) | (go_at_call 56; refine (mAbs_any _ _ (by assumption)).mono ?_; rintro e w' ⟨rfl, rfl⟩) | (go_at_call 20; refine (polar_any _ _ _ (by assumption) (by assumption)).mono ?_; rintro e w' ⟨rfl, rfl⟩) | (go_at_call 22; refine (phase_any _ _ _ (by assumption) (by assumption)).mono ?_; rintro e w' ⟨rfl, rfl⟩) | (go_at_call 13; refine (log2_any _ _ _ (by assumption) (by assumption)).mono ?_; rintro e w' ⟨rfl, rfl⟩) | (go_at_call 18; refine (realLog_any _ _ (by assumption)).mono ?_; rintro e w' ⟨rfl, rfl⟩))
          go_ret
          exact ⟨_, by rw [HL.out, h1, h2, h3, h4]; exact congrArg (fun b => Ending.returned (.bool b)) (HN.out _), rfl⟩
      · go_enter Try.func19, Try.ntmps19
        go_wp2_with (first | (go_at_call 16; refine (isNan_any _ _).mono ?_; rintro e w' ⟨rfl, rfl⟩) | (go_at_call 38; refine (infinity_any _).mono ?_; rintro e w' ⟨rfl, rfl⟩) | (go_at_call 36; refine (isInf_any _ _ (by assumption)).mono ?_; rintro e w' ⟨rfl, rfl⟩) | (go_at_call 33; refine (isFinite_any _ _ (by assumption)).mono ?_; rintro e w' ⟨rfl, rfl⟩) | (go_at_call 26; refine (minus_any _ _ (by assumption)).mono ?_; rintro e w' ⟨rfl, rfl⟩) | (go_at_call 17; refine (size_any _ _ (by assumption)).mono ?_; rintro e w' ⟨rfl, rfl⟩) | (go_at_call 15; refine (like_any _ _ _ (by assumption) (by assumption)).mono ?_; rintro e w' ⟨rfl, rfl⟩) | (go_at_call 14; refine (same_any _ _ _ (by assumption) (by assumption)).mono ?_; rintro e w' ⟨rfl, rfl⟩) | (go_at_call 27; refine (conj_any _ _ _).mono ?_; rintro e w' ⟨rfl, rfl⟩) | (go_at_call 25; refine (abs_any _ _ _).mono ?_; rintro e w' ⟨rfl, rfl⟩) | (go_at_call 56; refine (mAbs_any _ _ (by assumption)).mono ?_; rintro e w' ⟨rfl, rfl⟩) | (go_at_call 20; refine (polar_any _ _ _ (by assumption) (by assumption)).mono ?_; rintro e w' ⟨rfl, rfl⟩) | (go_at_call 22; refine (phase_any _ _ _ (by assumption) (by assumption)).mono ?_; rintro e w' ⟨rfl, rfl⟩) | (go_at_call 13; refine (log2_any _ _ _ (by assumption) (by assumption)).mono ?_; rintro e w' ⟨rfl, rfl⟩) | (go_at_call 18; refine (realLog_any _ _ (by assumption)).mono ?_; rintro e w' ⟨rfl, rfl⟩))
        go_ret
        exact ⟨_, by rw [HL.out, h1, h2, h3]; rfl, rfl⟩
    · go_enter Try.func19, Try.ntmps19
      go_wp2_with (first | (go_at_call 16; refine (isNan_any _ _).mono ?_; rintro e w' ⟨rfl, rfl⟩) | (go_at_call 38; refine (infinity_any _).mono ?_; rintro e w' ⟨rfl, rfl⟩) | (go_at_call 36; refine (isInf_any _ _ (by assumption)).mono ?_; rintro e w' ⟨rfl, rfl⟩) | (go_at_call 33; refine (isFinite_any _ _ (by assumption)).mono ?_; rintro e w' ⟨rfl, rfl⟩) | (go_at_call 26; refine (minus_any _ _ (by assumption)).mono ?_; rintro e w' ⟨rfl, rfl⟩) | (go_at_call 17; refine (size_any _ _ (by assumption)).mono ?_; rintro e w' ⟨rfl, rfl⟩) | (go_at_call 15; refine (like_any _ _ _ (by assumption) (by assumption)).mono ?_; rintro e w' ⟨rfl, rfl⟩) | (go_at_call 14; refine (same_any _ _ _ (by assumption) (by assumption)).mono ?_; rintro e w' ⟨rfl, rfl⟩) | (go_at_call 27; refine (conj_any _ _ _).mono ?_; rintro e w' ⟨rfl, rfl⟩) | (go_at_call 25; refine (abs_any _ _ _).mono ?_; rintro e w' ⟨rfl, rfl⟩) | (go_at_call 56; refine (mAbs_any _ _ (by assumption)).mono ?_; rintro e w' ⟨rfl, rfl⟩) | (go_at_call 20; refine (polar_any _ _ _ (by assumption) (by assumption)).mono ?_; rintro e w' ⟨rfl, rfl⟩) | (go_at_call 22; refine (phase_any _ _ _ (by assumption) (by assumption)).mono ?_; rintro e w' ⟨rfl, rfl⟩) | (go_at_call 13; refine (log2_any _ _ _ (by assumption) (by assumption)).mono ?_; rintro e w' ⟨rfl, rfl⟩) | (go_at_call 18; refine (realLog_any _ _ (by assumption)).mono ?_; rintro e w' ⟨rfl, rfl⟩))
      go_ret
      exact ⟨_, by rw [HL.out, h1, h2]; rfl, rfl⟩

theorem fadd_neg {a b z : Nat} (wa : Wd a) (wb : Wd b) (fa : Fi a) (fb : Fi b) (h : val a + val b ≠ 0) (e : fadd a b = some z) : fadd (fneg a) (fneg b) = some (fneg z) := by
  obtain ⟨m, p, e1, e2, _⟩ := read_fin fa
  obtain ⟨n, q, f1, f2, _⟩ := read_fin fb
  rw [fneg_eq wa, fneg_eq wb]
  have hz : Wd z := wd_width (Ieee.double.add_lt e)
  rw [fneg_eq hz]
  unfold fadd Ieee.Format.add at *
  rw [read_negw wa, read_negw wb]
  rw [e1, f1] at e ⊢
  simp only [Ieee.Datum.opposite, Ieee.Datum.sum, Option.map_some, Ieee.Format.write, Option.some.injEq] at e ⊢
  obtain ⟨b0, hb⟩ : ∃ b0, b0 = min p q := ⟨_, rfl⟩
  rw [← hb] at e ⊢
  have s1 := scaled_val (base := b0) (by omega) e2
  have s2 := scaled_val (base := b0) (by omega) f2
  have tot : (((Ieee.signed (sg a) m (p - b0).toNat + Ieee.signed (sg b) n (q - b0).toNat : Int)) : Rat) * (2 : Rat) ^ b0 = val a + val b := by
    rw [Rat.intCast_add, Rat.add_mul, s1, s2]
  have neg : ∀ (s : Bool) (k u : Nat), Ieee.signed (!s) k u = -(Ieee.signed s k u) := by
    intro s k u; unfold Ieee.signed; cases s <;> simp
  rw [neg, neg]
  generalize Ieee.signed (sg a) m (p - b0).toNat = A at *
  generalize Ieee.signed (sg b) n (q - b0).toNat = C at *
  have t0 : A + C ≠ 0 := by
    intro h0; rw [h0] at tot; rw [← tot] at h; simp at h
  rw [if_neg t0] at e
  have t1 : -A + -C ≠ 0 := by clear e; omega
  rw [if_neg t1, ← e, ← map_write_neg']
  have h1 : (-A + -C).natAbs = (A + C).natAbs := by clear e; omega
  have h2 : decide (-A + -C < 0) = !decide (A + C < 0) := by
    clear e
    by_cases h : A + C < 0
    · have : ¬ (-A + -C < 0) := by omega
      simp [h, this]
    · have : -A + -C < 0 := by omega
      simp [h, this]
  rw [h1, h2]

theorem fsub_negadd {a z : Nat} (wa : Wd a) (fa : Fi a) (h : val (rg a) ≤ val PIH) (e : fsub a PI = some z) : fadd (fneg a) PI = some (fneg z) := by
  obtain ⟨pf1, pf2, pf3, pf4, pf5, pf6, pf7, pf8, pf9⟩ := pi_facts
  rw [fsub_add pf3] at e
  obtain ⟨b1, b2⟩ := val_bounds h
  have := fadd_neg wa (negw_wd pf3) fa (negw_fin pf3 pf1) (by rw [negw_val pf3]; grind) e
  rwa [fneg_eq (negw_wd pf3), negw_negw pf3] at this
theorem fadd_negsub {a z : Nat} (wa : Wd a) (fa : Fi a) (h : val (rg a) ≤ val PIH) (e : fadd a PI = some z) : fsub (fneg a) PI = some (fneg z) := by
  obtain ⟨pf1, pf2, pf3, pf4, pf5, pf6, pf7, pf8, pf9⟩ := pi_facts
  rw [fsub_add pf3]
  obtain ⟨b1, b2⟩ := val_bounds h
  have := fadd_neg wa pf3 fa pf1 (by grind) e
  rwa [fneg_eq pf3] at this

theorem atanW_neg {q : Nat} (hq : Wd q) (nq : Num q) : atanW (fneg q) = fneg (atanW q) := by
  have nn := fneg_num hq nq
  by_cases h0 : rg q = 0
  · have e1 : feq q 0 = true := by rw [feq_zero]; simpa using h0
    have e2 : feq (fneg q) 0 = true := by rw [feq_zero, fneg_rg hq]; simpa using h0
    unfold atanW; rw [e1, e2]; rfl
  · have e1 : feq q 0 = false := by rw [feq_zero]; simpa using h0
    have e2 : feq (fneg q) 0 = false := by rw [feq_zero, fneg_rg hq]; simpa using h0
    have g1 := fgt_zero_num nq h0
    have g2 := fgt_zero_num nn (by rw [fneg_rg hq]; exact h0)
    unfold atanW
    rw [e1, e2, g1, g2, fneg_sg hq, fneg_fneg hq]
    cases hs : sg q
    · simp
    · simp
      have w := (sat_ok (fneg_wd hq) nn (by rw [fneg_sg hq, hs]; rfl) (by rw [fneg_rg hq]; exact h0)).2.1
      rw [fneg_fneg w]

theorem copyW_neg {c y : Nat} (hy : Wd y) : copyW c (fneg y) = fneg (copyW c y) :=
  wd_ext (copyW_wd _ _) (fneg_wd (copyW_wd _ _)) (by rw [copyW_sg, fneg_sg (copyW_wd _ _), copyW_sg, fneg_sg hy]) (by rw [copyW_rg, fneg_rg (copyW_wd _ _), copyW_rg])

/-- All that is said of a phase. -/
structure PhaseOk (x y t : Nat) : Prop where
  wd : Wd t
  fi : Fi t
  sgn : sg t = sg y
  lePi : val (rg t) ≤ val PI
  leHalf : sg x = false → val (rg t) ≤ val PIH

theorem pi_words : Fi 4605249457297304856 ∧ Fi 4612488097114038738 ∧ val (rg 4605249457297304856) ≤ val PIH ∧ val (rg 4612488097114038738) ≤ val PI ∧ val (rg PI) ≤ val PI ∧ val (rg PIH) ≤ val PIH ∧ val (rg PIH) ≤ val PI ∧ val (rg 4605249457297304856) ≤ val PI ∧ val (rg 0) ≤ val PIH ∧ val (rg 0) ≤ val PI :=
  ⟨by unfold Fi; decide, by unfold Fi; decide, by decide +kernel, by decide +kernel, by decide +kernel, by decide +kernel, by decide +kernel, by decide +kernel, by decide +kernel, by decide +kernel⟩
theorem ok_copy {x y c : Nat} (fc : Fi c) (h1 : val (rg c) ≤ val PI) (h2 : sg x = false → val (rg c) ≤ val PIH) : PhaseOk x y (copyW c y) :=
  ⟨copyW_wd _ _, by unfold Fi at *; rw [copyW_rg]; exact fc, copyW_sg _ _, by rw [copyW_rg]; exact h1, fun h => by rw [copyW_rg]; exact h2 h⟩

theorem phase_ok {x y : Nat} (hx : Wd x) (hy : Wd y) (nx : Num x) (ny : Num y) (hl : lostB x y = false) :
    PhaseOk x y (atan2W y x) ∧ atan2W (fneg y) x = fneg (atan2W y x) := by
  obtain ⟨k1, k2, k3, k4, k5, k6, k7, k8, k9, k10⟩ := pi_words
  obtain ⟨pf1, pf2, pf3, pf4, pf5, pf6, pf7, pf8, pf9⟩ := pi_facts
  have f0 : Fi 0 := by unfold Fi; decide
  have e1 : feq (fneg y) 0 = feq y 0 := by rw [feq_zero, feq_zero, fneg_rg hy]
  have e2 : isInf (fneg y) = isInf y := by unfold isInf; rw [fneg_rg hy]
  have e3 : isNan (fneg y) = isNan y := by unfold isNan; rw [fneg_rg hy]
  have e4 : isNan y = false := isNan_false.2 ny
  have e5 : isNan x = false := isNan_false.2 nx
  unfold atan2W
  rw [e1, e2, e3, e4, e5]
  simp only [Bool.or_self, Bool.false_eq_true, if_false]
  cases c1 : feq y 0
  · simp only [Bool.false_eq_true, if_false]
    have y0 : rg y ≠ 0 := by rw [feq_zero] at c1; simpa using c1
    cases c2 : feq x 0
    · simp only [Bool.false_eq_true, if_false]
      have x0 : rg x ≠ 0 := by rw [feq_zero] at c2; simpa using c2
      cases c3 : isInf x
      · simp only [Bool.false_eq_true, if_false]
        have fx : Fi x := num_fi nx (by unfold isInf at c3; simpa using c3)
        cases c4 : isInf y
        · simp only [Bool.false_eq_true, if_false]
          have fy : Fi y := num_fi ny (by unfold isInf at c4; simpa using c4)
          obtain ⟨q, eq', wq, nq, sq⟩ := quot_ok hy hx fy fx y0 x0
          have eqn := fdiv_negl hy fy fx x0 eq'
          rw [eq', eqn]
          simp only [Option.getD_some]
          rw [atanW_neg wq nq]
          have q0 : rg q ≠ 0 := by
            unfold lostB at hl
            have hf : isFin x = true := by unfold isFin; unfold Fi at fx; simpa using fx
            rw [hf, c2, c1, eq'] at hl
            simp only [Bool.not_false, Bool.and_self, Bool.true_and] at hl
            rw [feq_zero] at hl
            simpa using hl
          obtain ⟨a1, a2, a3, a4⟩ := atan_ok wq nq
          obtain ⟨a5, a6⟩ := a4 q0
          generalize atanW q = t at *
          have l1 : flt x 0 = sg x := by rw [flt_zero]; unfold minus; rw [e5]; simp [x0]
          unfold quadW
          rw [l1]
          cases hsx : sg x
          · simp only [Bool.false_eq_true, if_false]
            rw [hsx, Bool.xor_false] at sq
            have hpp : val PIH ≤ val PI := by have := val_nonneg pf6; grind
            exact ⟨⟨a1, a2, by rw [a5, sq], Rat.le_trans a3 hpp, fun _ => a3⟩, trivial⟩
          · simp only [if_true]
            rw [hsx, Bool.xor_true] at sq
            have le1 : fle t 0 = sg t := by
              rw [fle_val a2.num num_zero, val_zero]
              cases hst : sg t
              · have := val_pos hst a6
                have h : ¬ val t ≤ 0 := by grind
                simpa using h
              · have := rv_nonneg (rg t)
                have h : val t ≤ 0 := by rw [val_pm, hst]; unfold pm; simp; grind
                simpa using h
            have le2 : fle (fneg t) 0 = !sg t := by
              rw [fle_val (fneg_num a1 a2.num) num_zero, val_zero, fneg_val a1]
              cases hst : sg t
              · have := val_pos hst a6
                have h : -(val t) ≤ 0 := by grind
                simpa using h
              · have hp := rv_pos (g := rg t) (by omega)
                have h : ¬ -(val t) ≤ 0 := by rw [val_pm, hst]; unfold pm; simp; grind
                simpa using h
            rw [le1, le2]
            obtain ⟨z1, g1, R1, f1, s1, b1⟩ := quad_add a1 a2 a3
            obtain ⟨z2, g2, R2, f2, s2, b2⟩ := quad_sub a1 a2 a3
            have g3 := fadd_negsub a1 a2 a3 g1
            have g4 := fsub_negadd a1 a2 a3 g2
            rw [g1, g2, g3, g4]
            simp only [Option.getD_some]
            cases hst : sg t
            · simp only [Bool.false_eq_true, if_false, Bool.not_false, if_true]
              have tp := val_pos hst a6
              refine ⟨⟨R2.wd, f2, ?_, ?_, fun h => by rw [hsx] at h; cases h⟩, trivial⟩
              · rw [s2]; rw [a5, sq] at hst; revert hst; cases sg y <;> simp
              · have l := R2.lo (negw PI) (negw_num pf3 pf1.num) (by rw [negw_val pf3]; grind)
                rw [negw_val pf3] at l
                rw [val_rg]; rw [val_pm z2, s2] at l; unfold pm at l; simp at l; grind
            · simp only [if_true, Bool.not_true, Bool.false_eq_true, if_false]
              have tn : val t ≤ 0 := by have := rv_nonneg (rg t); rw [val_pm, hst]; unfold pm; simp; grind
              refine ⟨⟨R1.wd, f1, ?_, ?_, fun h => by rw [hsx] at h; cases h⟩, trivial⟩
              · rw [s1]; rw [a5, sq] at hst; revert hst; cases sg y <;> simp
              · have l := R1.up PI pf1.num (by grind)
                rw [val_rg]; rw [val_pos_word s1] at l; exact l
        · simp only [if_true]
          exact ⟨ok_copy pf2 k7 (fun _ => k6), copyW_neg hy⟩
      · simp only [if_true]
        have isx : isPInf x = !sg x := by unfold isPInf; rw [c3]; rfl
        rw [isx]
        cases hsx : sg x <;> cases c4 : isInf y <;> simp only [Bool.not_false, Bool.not_true, Bool.false_eq_true, if_false, if_true]
        · exact ⟨ok_copy f0 k10 (fun _ => k9), copyW_neg hy⟩
        · exact ⟨ok_copy k1 k8 (fun _ => k3), copyW_neg hy⟩
        · exact ⟨ok_copy pf1 k5 (fun h => by rw [hsx] at h; cases h), copyW_neg hy⟩
        · exact ⟨ok_copy k2 k4 (fun h => by rw [hsx] at h; cases h), copyW_neg hy⟩
    · simp only [if_true]
      exact ⟨ok_copy pf2 k7 (fun _ => k6), copyW_neg hy⟩
  · simp only [if_true]
    have hge : (fge x 0 && !sg x) = !sg x := by
      cases hs : sg x
      · have : fge x 0 = true := by rw [fge_val nx num_zero, val_zero]; simpa using val_nonneg hs
        rw [this]; rfl
      · simp
    rw [hge]
    cases hs : sg x <;> simp only [Bool.not_false, Bool.not_true, Bool.false_eq_true, if_false, if_true]
    · exact ⟨ok_copy f0 k10 (fun _ => k9), copyW_neg hy⟩
    · exact ⟨ok_copy pf1 k5 (fun h => by rw [hs] at h; cases h), copyW_neg hy⟩

theorem atan2_nanW {x y : Nat} (h : isNan y = true ∨ isNan x = true) : atan2W y x = 9221120237041090561 := by
  unfold atan2W
  rw [if_pos (by simpa using h)]
theorem atan2_wd {x y : Nat} (hx : Wd x) (hy : Wd y) : Wd (atan2W y x) := by
  by_cases h : isNan y = true ∨ isNan x = true
  · rw [atan2_nanW h]; unfold Wd; decide
  · have ny := isNan_false.1 (show isNan y = false by simpa using fun h' => h (Or.inl h'))
    have nx := isNan_false.1 (show isNan x = false by simpa using fun h' => h (Or.inr h'))
    cases hl : lostB x y
    · exact (phase_ok hx hy nx ny hl).1.wd
    · -- finite parts, a quotient that is 0
      unfold lostB at hl
      simp at hl
      obtain ⟨⟨⟨h1, h2⟩, h3⟩, h4⟩ := hl
      have fx : Fi x := by unfold isFin at h1; simpa [Fi] using h1
      unfold atan2W
      have e4 : isNan y = false := isNan_false.2 ny
      have e5 : isNan x = false := isNan_false.2 nx
      rw [e4, e5]
      simp only [Bool.or_self, Bool.false_eq_true, if_false, h2, h3]
      have e6 : isInf x = false := by unfold isInf; unfold Fi at fx; simp; omega
      rw [e6]
      simp only [Bool.false_eq_true, if_false]
      cases e7 : isInf y
      · simp only [Bool.false_eq_true, if_false]
        have fy : Fi y := num_fi ny (by unfold isInf at e7; simpa using e7)
        obtain ⟨q, eq', wq, nq, sq⟩ := quot_ok hy hx fy fx (by rw [feq_zero] at h3; simpa using h3) (by rw [feq_zero] at h2; simpa using h2)
        rw [eq']
        simp only [Option.getD_some]
        obtain ⟨a1, a2, a3, a4⟩ := atan_ok wq nq
        obtain ⟨z1, g1, R1, _⟩ := quad_add a1 a2 a3
        obtain ⟨z2, g2, R2, _⟩ := quad_sub a1 a2 a3
        unfold quadW
        rw [g1, g2]
        simp only [Option.getD_some]
        split
        · split
          · exact R1.wd
          · exact R2.wd
        · exact a1
      · simp only [if_true]; exact copyW_wd _ _

end Go.Proofs.Ytnfidnfokfgepaa

/- Whole numbers times powers of 2, as words. -/
import Derived.Test.YtojjlkmeicdeeaaScale
set_option linter.unusedSimpArgs false
set_option linter.unusedVariables false
namespace Go.Proofs.Ytojjlkmeicdeeaa
open F64

theorem pow_bounds {k : Int} (h1 : -900 ≤ k) (h2 : k ≤ 900) (N : Nat) (hN : N ≤ 1073741824) : (N : Rat) * (2 : Rat) ^ k ≤ P1022 ∧ (N : Rat) * (2 : Rat) ^ k ≤ MAXF := by
  have a1 : (N : Rat) ≤ ((1073741824 : Nat) : Rat) := Rat.natCast_le_natCast.2 (by omega)
  have a2 : (2 : Rat) ^ k ≤ (2 : Rat) ^ (900 : Int) := zp_mono h2
  have a3 : ((1073741824 : Nat) : Rat) * (2 : Rat) ^ (900 : Int) ≤ P1022 := by unfold P1022; decide +kernel
  have a4 := Rat.mul_le_mul_of_nonneg_right a1 (Rat.le_of_lt (zp_pos k))
  have a5 := Rat.mul_le_mul_of_nonneg_left a2 (show (0 : Rat) ≤ ((1073741824 : Nat) : Rat) from Rat.natCast_nonneg)
  have a6 := P1022_MAXF
  have a7 := P1022_pos
  have a8 := Rat.le_trans a4 (Rat.le_trans a5 a3)
  exact ⟨a8, by grind⟩

/-- A whole number times a power of 2. -/
theorem scaled_int {x : Nat} {n : Int} {k : Int} (fx : Fi x) (vx : val x = (n : Rat)) (hn : n.natAbs ≤ 1073741824) (h1 : -900 ≤ k) (h2 : k ≤ 900) :
    ∃ x', fmul x (powW k) = some x' ∧ Wd x' ∧ Fi x' ∧ sg x' = sg x ∧ rv (rg x) = (n.natAbs : Rat) ∧ rv (rg x') = (n.natAbs : Rat) * (2 : Rat) ^ k := by
  have hBv : B = 4503599627370496 := rfl
  obtain ⟨p1, p2, p3, p4, p5⟩ := powW_spec (k := k) (by omega) (by omega)
  obtain ⟨z, e, R, s⟩ := mul_rnd fx p2
  have s' : sg z = sg x := by rw [s, p3]; cases sg x <;> rfl
  have rx := rv_abs vx
  have hv : val x * val (powW k) = pm (sg x) * ((n.natAbs : Rat) * (2 : Rat) ^ k) := by rw [val_pm x, rx, p5, Rat.mul_assoc]
  obtain ⟨a, b⟩ := R.rep (sg x) n.natAbs k (by omega) (by omega) (pow_bounds h1 h2 _ hn).2 hv
  refine ⟨z, e, R.wd, b, s', rx, ?_⟩
  rw [hv, val_pm z, s'] at a
  unfold pm at a
  cases h : sg x <;> simp [h] at a <;> grind
/-- The size of such a number: 0, or not small. -/
theorem whole_rung {x N : Nat} {k : Int} (h1 : -900 ≤ k) (hv : rv (rg x) = (N : Rat) * (2 : Rat) ^ k) : rg x = 0 ∨ B ≤ rg x := by
  by_cases h : N = 0
  · left
    rw [h, show ((0 : Nat) : Rat) * (2 : Rat) ^ k = rv 0 from by rw [rv_zero]; simp] at hv
    exact rv_inj hv
  · right
    refine rv_le_iff.1 ?_
    rw [hv]
    have a1 : ((1 : Nat) : Rat) ≤ (N : Rat) := Rat.natCast_le_natCast.2 (by omega)
    have a2 : (2 : Rat) ^ (-900 : Int) ≤ (2 : Rat) ^ k := zp_mono h1
    have a3 : rv B ≤ (2 : Rat) ^ (-900 : Int) := by decide +kernel
    have a4 := Rat.mul_le_mul_of_nonneg_right a1 (Rat.le_of_lt (zp_pos k))
    rw [show ((1 : Nat) : Rat) = 1 from rfl, Rat.one_mul] at a4
    exact Rat.le_trans a3 (Rat.le_trans a2 a4)
theorem hypotW_fi {x y : Nat} (fx : Fi x) (fy : Fi y) (mx : rv (rg x) ≤ P1022) (my : rv (rg y) ≤ P1022) : Fi (hypotW x y) := by
  by_cases h0 : rg x = 0 ∧ rg y = 0
  · rw [hypotW_zero h0.1 h0.2]; unfold Fi; decide
  · obtain ⟨big, small, r, s, tt, q, hb, fb, fs, sb, ss, hb0, hle, H⟩ := hypotW_gen fx fy h0
    have hb2 : val big ≤ P1022 := by
      rcases hb with ⟨e1, e2⟩ | ⟨e1, e2⟩ <;> rw [e1, val_rg]
      · exact mx
      · exact my
    have k3 := mul_le_mul' H.bq2 hb2 (val_nonneg H.sq) (Rat.le_of_lt P1022_pos)
    have k4 := Rat.mul_nonneg (val_nonneg H.sq) (val_nonneg sb)
    have k5 := P1022_MAXF
    have k6 := P1022_pos
    exact H.r5.fin (by grind) (by grind)
theorem fmul_zero_pow {k : Int} (h1 : -900 ≤ k) (h2 : k ≤ 900) : fmul 0 (powW k) = some 0 := by
  obtain ⟨p1, p2, p3, p4, p5⟩ := powW_spec (k := k) (by omega) (by omega)
  obtain ⟨z, e, R, s⟩ := mul_rnd (show Fi 0 by unfold Fi; decide) p2
  rw [val_zero, Rat.zero_mul] at R
  have := R.eq_word num_zero (by unfold Wd; decide) val_zero (by rw [s, p3]; decide)
  rw [← this]
  rw [this] at e
  rw [this]
  exact e
end Go.Proofs.Ytojjlkmeicdeeaa

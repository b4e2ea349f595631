/- Which numbers are words: a whole number of at most 53 digits at a place that the format has. A rounding of such a number is exact. Whole numbers as floats. -/
import Derived.Test.YtojjlkmeicdeeaaHypotLaws
set_option linter.unusedSimpArgs false
set_option linter.unusedVariables false
namespace Go.Proofs.Ytojjlkmeicdeeaa
open F64

theorem rep (k : Nat) (e : Int) (hk : k < 2 * B) (he : -1074 ≤ e) : ∃ g, rv g = (k : Rat) * (2 : Rat) ^ e := by
  have hBe := B_eq
  by_cases h0 : k = 0
  · exact ⟨0, by rw [rv_zero, h0]; simp⟩
  · have h1 := Nat.log2_self_le h0
    have h2 : k < 2 ^ (k.log2 + 1) := Nat.lt_log2_self
    have hL : k.log2 ≤ 52 := by
      by_cases h3 : k.log2 ≤ 52
      · exact h3
      · have : 2 ^ 53 ≤ 2 ^ k.log2 := Nat.pow_le_pow_right (by omega) (by omega)
        omega
    generalize k.log2 = L at *
    by_cases hc : -1074 ≤ e - (52 - L : Nat)
    · refine ⟨(e - (52 - L : Nat) + 1074).toNat * B + k * 2 ^ (52 - L), ?_⟩
      rw [rv_of _ _ (Or.inr ⟨?_, ?_⟩)]
      · rw [Rat.natCast_mul, ← zp_nat, Rat.mul_assoc, ← zp_add]
        congr 2; omega
      · calc B = 2 ^ L * 2 ^ (52 - L) := by rw [hBe, ← Nat.pow_add]; congr 1; omega
          _ ≤ k * 2 ^ (52 - L) := Nat.mul_le_mul_right _ h1
      · have : k * 2 ^ (52 - L) < 2 ^ (L + 1) * 2 ^ (52 - L) := Nat.mul_lt_mul_of_pos_right h2 (Nat.two_pow_pos _)
        rw [← Nat.pow_add, show L + 1 + (52 - L) = 53 from by omega] at this
        omega
    · refine ⟨k * 2 ^ (e + 1074).toNat, ?_⟩
      have := rv_of 0 (k * 2 ^ (e + 1074).toNat) (Or.inl ⟨rfl, ?_⟩)
      · rw [Nat.zero_mul, Nat.zero_add] at this
        rw [this, Rat.natCast_mul, ← zp_nat, Rat.mul_assoc, ← zp_add]
        congr 2; omega
      · have : k * 2 ^ (e + 1074).toNat < 2 ^ (L + 1) * 2 ^ (e + 1074).toNat := Nat.mul_lt_mul_of_pos_right h2 (Nat.two_pow_pos _)
        rw [← Nat.pow_add] at this
        have h4 : 2 ^ (L + 1 + (e + 1074).toNat) ≤ 2 ^ 52 := Nat.pow_le_pow_right (by omega) (by omega)
        omega

theorem rep_word (n : Bool) (k : Nat) (e : Int) (hk : k < 2 * B) (he : -1074 ≤ e) (hm : (k : Rat) * (2 : Rat) ^ e ≤ MAXF) :
    ∃ c, Wd c ∧ Fi c ∧ sg c = n ∧ val c = pm n * ((k : Rat) * (2 : Rat) ^ e) := by
  obtain ⟨g, hg⟩ := rep k e hk he
  have h1 : g ≤ INF - 1 := rv_le_iff.1 (by rw [hg]; exact hm)
  have h2 : (0 : Nat) < INF := by decide
  have h3 := inf_lt_sw
  have h4 : g < SW := by omega
  exact ⟨Ieee.double.word n g, word_wd h4, by unfold Fi; rw [word_rg h4]; omega, word_sg h4, by rw [val_word h4, hg]⟩

theorem F64.Rnd.rep {q v : Rat} {z : Nat} (h : Rnd q v z) (n : Bool) (k : Nat) (e : Int) (hk : k < 2 * B) (he : -1074 ≤ e) (hm : (k : Rat) * (2 : Rat) ^ e ≤ MAXF)
    (hv : v = pm n * ((k : Rat) * (2 : Rat) ^ e)) : val z = v ∧ Fi z := by
  obtain ⟨c, c1, c2, c3, c4⟩ := rep_word n k e hk he hm
  have h1 := h.exact c2.num (by rw [c4, hv])
  refine ⟨h1, h.fin ?_ ?_⟩
  · have h0 : (0 : Rat) ≤ (k : Rat) * (2 : Rat) ^ e := Rat.mul_nonneg Rat.natCast_nonneg (Rat.le_of_lt (zp_pos _))
    rw [hv]; unfold pm; cases n <;> simp <;> grind
  · have h0 : (0 : Rat) ≤ (k : Rat) * (2 : Rat) ^ e := Rat.mul_nonneg Rat.natCast_nonneg (Rat.le_of_lt (zp_pos _))
    rw [hv]; unfold pm; cases n <;> simp <;> grind

theorem big_le_MAXF : (9007199254740992 : Rat) ≤ MAXF := by unfold MAXF; decide +kernel
theorem natAbs_pm (n : Int) : (n : Rat) = pm (decide (n < 0)) * ((n.natAbs : Rat) * (2 : Rat) ^ (0 : Int)) := by
  rw [Rat.zpow_zero, Rat.mul_one]
  unfold pm
  by_cases h : n < 0
  · simp only [h, decide_true, if_true]
    have : (n.natAbs : Rat) = -(n : Rat) := by rw [← Rat.intCast_natCast, ← Rat.intCast_neg]; congr 1; omega
    rw [this]; grind
  · simp only [h, decide_false, Bool.false_eq_true, if_false]
    have : (n.natAbs : Rat) = (n : Rat) := by rw [← Rat.intCast_natCast]; congr 1; omega
    rw [this]; grind
theorem F64.Rnd.int {q : Rat} {n : Int} {z : Nat} (h : Rnd q (n : Rat) z) (hn : n.natAbs < 2 * B) : val z = (n : Rat) ∧ Fi z := by
  refine h.rep (decide (n < 0)) n.natAbs 0 hn (by omega) ?_ (natAbs_pm n)
  rw [Rat.zpow_zero, Rat.mul_one]
  have h1 : (n.natAbs : Rat) ≤ ((2 * B : Nat) : Rat) := Rat.natCast_le_natCast.2 (by omega)
  have h2 : ((2 * B : Nat) : Rat) = 9007199254740992 := by decide +kernel
  have := big_le_MAXF
  grind
theorem F64.Rnd.nat {q : Rat} {n : Nat} {z : Nat} (h : Rnd q (n : Rat) z) (hn : n < 2 * B) : val z = (n : Rat) ∧ Fi z := by
  rw [← Rat.intCast_natCast] at h ⊢
  exact h.int (by omega)

/-- 'float64(n)'. -/
theorem ofInt_spec {n : Int} (hn : n.natAbs < 2 * B) : Wd (floatOfInt .f64 n) ∧ Fi (floatOfInt .f64 n) ∧ val (floatOfInt .f64 n) = (n : Rat) ∧ sg (floatOfInt .f64 n) = decide (n < 0) := by
  have e : floatOfInt .f64 n = Ieee.double.nearest (decide (n < 0)) n.natAbs 0 := rfl
  rw [e]
  have R := nearest_rnd (decide (n < 0)) n.natAbs 0
  rw [← natAbs_pm] at R
  obtain ⟨h1, h2⟩ := R.int hn
  exact ⟨R.wd, h2, h1, nearest_sg _ _ _⟩
/-- Its size. -/
theorem sizeInt_spec {n : Int} (hn : n.natAbs < 2 * B) : Wd (sizeW (floatOfInt .f64 n)) ∧ Fi (sizeW (floatOfInt .f64 n)) ∧ sg (sizeW (floatOfInt .f64 n)) = false ∧ val (sizeW (floatOfInt .f64 n)) = (n.natAbs : Rat) := by
  obtain ⟨h1, h2, h3, h4⟩ := ofInt_spec hn
  have e := sizeW_num h1 h2.num
  rw [e]
  refine ⟨rg_wd _, by unfold Fi at *; rw [rg_rg]; exact h2, sg_rg _, ?_⟩
  rw [val_rg]
  have h5 : val (floatOfInt .f64 n) = pm (decide (n < 0)) * rv (rg (floatOfInt .f64 n)) := by rw [val_pm, h4]
  rw [h3, natAbs_pm n, Rat.zpow_zero, Rat.mul_one] at h5
  unfold pm at h5
  by_cases h : n < 0
  · simp only [h, decide_true, if_true] at h5; grind
  · simp only [h, decide_false, Bool.false_eq_true, if_false] at h5; grind

end Go.Proofs.Ytojjlkmeicdeeaa

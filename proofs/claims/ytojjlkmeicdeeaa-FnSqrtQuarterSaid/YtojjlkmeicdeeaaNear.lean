/- Whole numbers as words; the test that two numbers are near. -/
import Derived.Test.YtojjlkmeicdeeaaRelErr
import Derived.Test.YtojjlkmeicdeeaaWhole
import Derived.Test.YtojjlkmeicdeeaaMid
set_option linter.unusedSimpArgs false
set_option linter.unusedVariables false
namespace Go.Proofs.Ytojjlkmeicdeeaa
open Go.RowKit F64

/-- A whole number that is not negative, as a word. -/
structure IsNW (a A : Nat) : Prop where
  wd : Wd a
  fi : Fi a
  sgn : sg a = false
  v : val a = (A : Rat)
theorem IsNW.of_rnd {q v : Rat} {z A : Nat} (R : Rnd q v z) (hs : sg z = false) (hv : v = (A : Rat)) (hA : A < 2 * B) : IsNW z A := by
  rw [hv] at R
  obtain ⟨h1, h2⟩ := R.nat hA
  exact ⟨R.wd, h2, hs, h1⟩
theorem rv_abs {x : Nat} {n : Int} (h : val x = (n : Rat)) : rv (rg x) = (n.natAbs : Rat) := by
  have h0 := rv_nonneg (rg x)
  have e := natAbs_pm n
  rw [Rat.zpow_zero, Rat.mul_one] at e
  have h1 : (0 : Rat) ≤ (n.natAbs : Rat) := Rat.natCast_nonneg
  rw [val_pm x, e] at h
  unfold pm at h
  cases h3 : sg x <;> cases h4 : (decide (n < 0)) <;> simp [h3, h4] at h <;> grind
/-- The square of a whole number. -/
theorem sq_word {x : Nat} {n : Int} (fx : Fi x) (hv : val x = (n : Rat)) (hn : n.natAbs * n.natAbs < 2 * B) : ∃ z, fmul x x = some z ∧ IsNW z (n.natAbs * n.natAbs) := by
  obtain ⟨z, e, R, s⟩ := mul_rnd fx fx
  refine ⟨z, e, IsNW.of_rnd R (by rw [s]; cases sg x <;> rfl) ?_ hn⟩
  rw [Rat.natCast_mul, ← rv_abs hv, val_pm x]; unfold pm; cases sg x <;> simp <;> grind
theorem IsNW.add {a b A C : Nat} (ha : IsNW a A) (hb : IsNW b C) (h : A + C < 2 * B) : ∃ z, fadd a b = some z ∧ IsNW z (A + C) := by
  obtain ⟨x, e3, R3, s3, s3'⟩ := add_rnd ha.fi hb.fi
  have v3 : val a + val b = ((A + C : Nat) : Rat) := by rw [ha.v, hb.v, Rat.natCast_add]
  refine ⟨x, e3, IsNW.of_rnd R3 ?_ v3 h⟩
  by_cases h0 : val a + val b = 0
  · rw [s3' h0, ha.sgn]; rfl
  · rw [s3 h0]
    have : (0 : Rat) ≤ ((A + C : Nat) : Rat) := Rat.natCast_nonneg
    rw [v3]; simp; grind
/-- A whole number times a power of 2. -/
theorem IsNW.part {a A : Nat} (ha : IsNW a A) {k : Int} (h1 : -900 ≤ k) (h2 : k ≤ 0) (h : A < 2 * B) : ∃ z, fmul a (powW k) = some z ∧ Wd z ∧ Fi z ∧ sg z = false ∧ val z = (A : Rat) * (2 : Rat) ^ k := by
  obtain ⟨p1, p2, p3, p4, p5⟩ := powW_spec (k := k) (by omega) (by omega)
  obtain ⟨u, eu, Ru, su⟩ := mul_rnd ha.fi p2
  have hv : val a * val (powW k) = pm false * ((A : Rat) * (2 : Rat) ^ k) := by rw [ha.v, p5]; unfold pm; simp
  have hm : (A : Rat) * (2 : Rat) ^ k ≤ MAXF := by
    have a1 : (A : Rat) ≤ ((2 * B : Nat) : Rat) := Rat.natCast_le_natCast.2 (by omega)
    have a2 : (2 : Rat) ^ k ≤ 1 := by
      have e : (2 : Rat) ^ k * (2 : Rat) ^ (((-k).toNat : Nat) : Int) = 1 := by
        rw [← zp_add, show k + (((-k).toNat : Nat) : Int) = 0 from by omega]; rfl
      rw [zp_nat] at e
      have : ((1 : Nat) : Rat) ≤ ((2 ^ (-k).toNat : Nat) : Rat) := Rat.natCast_le_natCast.2 Nat.one_le_two_pow
      have h := Rat.mul_le_mul_of_nonneg_left this (Rat.le_of_lt (zp_pos k))
      rw [e, show ((1 : Nat) : Rat) = 1 from rfl, Rat.mul_one] at h
      exact h
    have a3 : ((2 * B : Nat) : Rat) ≤ MAXF := by unfold MAXF; decide +kernel
    have a4 := Rat.mul_le_mul_of_nonneg_left a2 (show (0 : Rat) ≤ (A : Rat) from Rat.natCast_nonneg)
    grind
  obtain ⟨vu, fu⟩ := Ru.rep false A k (by omega) (by omega) hm hv
  refine ⟨u, eu, Ru.wd, fu, by rw [su, ha.sgn, p3]; rfl, ?_⟩
  rw [vu, hv]; unfold pm; simp

theorem size_eq {x : Nat} (h : Wd x) (hn : Num x) : val (sizeW x) = rv (rg x) ∧ Num (sizeW x) := by
  rw [sizeW_num h hn, val_rg]
  exact ⟨rfl, by unfold Num at *; rw [rg_rg]; exact hn⟩
/-- What is within a word of a number: the rounded difference is too. -/
theorem sub_size {a b m : Nat} (fa : Fi a) (fb : Fi b) (wb : Wd b) (nm : Num m) (wm : Wd m) (sm : sg m = false) (h1 : val a - val b ≤ val m) (h2 : val b - val a ≤ val m) :
    ∃ d, fsub a b = some d ∧ Wd d ∧ Num d ∧ fle (sizeW d) m = true := by
  obtain ⟨d, e, R, _, _⟩ := add_rnd fa (negw_fin wb fb)
  rw [negw_val wb] at R
  have e' : fsub a b = some d := by unfold fsub; rw [sub_eq_add wb]; exact e
  have k1 := R.up m nm (by grind)
  have k2 := R.lo (negw m) (negw_num wm nm) (by rw [negw_val wm]; grind)
  rw [negw_val wm] at k2
  obtain ⟨s1, s2⟩ := size_eq R.wd R.num
  refine ⟨d, e', R.wd, R.num, ?_⟩
  rw [fle_val s2 nm, s1]
  rw [val_pm d] at k1 k2
  unfold pm at k1 k2
  cases h3 : sg d <;> simp [h3] at k1 k2 ⊢ <;> grind

theorem near_ok {a b p d m : Nat} (w : World) (ha : Wd a) (hb : Wd b) (h1 : fsub a b = some d) (hd : Wd d) (h2 : fmul (sizeW b) p = some m) (h3 : fle (sizeW d) m = true) :
    Calls Try.prog 25 #[.float .f64 a, .float .f64 b, .float .f64 p] w fun e w' => e = .returned (.bool true) ∧ w = w' := by
  go_enter Try.func25, Try.ntmps25
  go_wp2_with first | (go_at_call 19; refine (isNan_any _ _).mono ?_; rintro e w' ⟨rfl, rfl⟩) | (go_at_call 20; refine (infinity_any _).mono ?_; rintro e w' ⟨rfl, rfl⟩) | (go_at_call 35; refine (isInf_any _ _ (by assumption)).mono ?_; rintro e w' ⟨rfl, rfl⟩) | (go_at_call 17; refine (isFinite_any _ _ (by assumption)).mono ?_; rintro e w' ⟨rfl, rfl⟩) | (go_at_call 31; refine (minus_any _ _ (by assumption)).mono ?_; rintro e w' ⟨rfl, rfl⟩) | (go_at_call 26; refine (size_any _ _ (by assumption)).mono ?_; rintro e w' ⟨rfl, rfl⟩) | (go_at_call 32; refine (like_any _ _ _ (by assumption) (by assumption)).mono ?_; rintro e w' ⟨rfl, rfl⟩) | (go_at_call 22; refine (same_any _ _ _ (by assumption) (by assumption)).mono ?_; rintro e w' ⟨rfl, rfl⟩) | (go_at_call 21; refine (conj_any _ _ _).mono ?_; rintro e w' ⟨rfl, rfl⟩) | (go_at_call 15; refine (isInf2_any _ _ _ (by assumption) (by assumption)).mono ?_; rintro e w' ⟨rfl, rfl⟩) | (go_at_call 16; refine (isNaN2_any _ _ _ (by assumption) (by assumption)).mono ?_; rintro e w' ⟨rfl, rfl⟩) | (go_at_call 18; refine (abs_any _ _ _).mono ?_; rintro e w' ⟨rfl, rfl⟩) | (go_at_call 27; refine (realHypot_any _ _ _).mono ?_; rintro e w' ⟨rfl, rfl⟩) | (go_at_call 54; refine (mAbs_any _ _ (by assumption)).mono ?_; rintro e w' ⟨rfl, rfl⟩)
  go_ret
  exact ⟨rfl, rfl⟩
end Go.Proofs.Ytojjlkmeicdeeaa

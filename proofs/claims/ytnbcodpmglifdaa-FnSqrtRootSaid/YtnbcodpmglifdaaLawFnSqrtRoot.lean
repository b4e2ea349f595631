/- Proved: for every two 32-bit integers: the root of the square of a whole number a up to 2^25 is a, and that of a number above it by less than 2^20 and at most 2a lies from a to a + 1 and is a only where nothing was added. No condition. -/
import Derived.Test.YtnbcodpmglifdaaRows
import Derived.Test.YtnbcodpmglifdaaMid
import Derived.Test.YtnbcodpmglifdaaHypotLaws
import Derived.Test.YtnbcodpmglifdaaWhole
import Derived.Test.YtnbcodpmglifdaaFrame
set_option linter.unusedSimpArgs false
set_option linter.unusedVariables false
namespace Go.Proofs.Ytnbcodpmglifdaa.fnSqrtRoot
open Go.ChangeShapes Go.WideShapes Go.ChangeAt Go.RowKit F64

theorem nat_sq_le {A : Nat} (h : A ≤ 33554432) : A * A ≤ 1125899906842624 := by
  have := Nat.mul_le_mul h h; omega
/-- A whole number as a word. -/
structure IsN (a A : Nat) : Prop where
  wd : Wd a
  fi : Fi a
  sgn : sg a = false
  v : val a = (A : Rat)
theorem IsN.of_rnd {q v : Rat} {z A : Nat} (R : Rnd q v z) (hs : sg z = false) (hv : v = (A : Rat)) (hA : A < 2 * B) : IsN z A := by
  rw [hv] at R
  obtain ⟨h1, h2⟩ := R.nat hA
  exact ⟨R.wd, h2, hs, h1⟩
theorem IsN.zero {a A : Nat} (h : IsN a A) : rg a = 0 ↔ A = 0 := by
  have hv := h.v
  rw [val_pos_word h.sgn] at hv
  constructor
  · intro h0; rw [h0, rv_zero] at hv
    exact Rat.natCast_eq_zero_iff.1 hv.symm
  · intro h0
    by_cases h1 : rg a = 0
    · exact h1
    · have := rv_pos (g := rg a) (by omega)
      rw [hv, h0] at this; exact absurd this (by simp)
theorem root_plain (A R a b : Nat) (ha : IsN a A) (hb : IsN b R) (hA : A ≤ 33554432) (hR : R < 1048576) :
    ∃ aa x a2, fmul a a = some aa ∧ fsqrt aa = some a ∧ feq a a = true ∧ fadd aa b = some x ∧ fmul 4611686018427387904 a = some a2 ∧
      ((fgt b a2 = true ∧ fgt a 0 = true) ∨ (fgt b a2 = true ∧ fgt a 0 = false) ∨
       (fgt b a2 = false ∧ ∃ r a1, fsqrt x = some r ∧ fge r a = true ∧ fadd a 4607182418800017408 = some a1 ∧ fle r a1 = true ∧ feq b 0 = feq r a)) := by
  have hBv : B = 4503599627370496 := rfl
  have hAA := nat_sq_le hA
  have an := ha.fi.num
  have bn := hb.fi.num
  -- the square
  obtain ⟨aa, e1, R1, s1⟩ := mul_rnd ha.fi ha.fi
  have haa : IsN aa (A * A) := IsN.of_rnd R1 (by rw [s1, ha.sgn]; rfl) (by rw [ha.v, Rat.natCast_mul]) (by omega)
  have e2 : fsqrt aa = some a := by
    by_cases h0 : A = 0
    · have z1 := ha.zero.2 h0
      have z2 : rg aa = 0 := haa.zero.2 (by rw [h0])
      have : aa = a := wd_ext haa.wd ha.wd (by rw [haa.sgn, ha.sgn]) (by rw [z1, z2])
      rw [this]; exact sqrt_zero ha.wd z1
    · obtain ⟨z, ez, Rz⟩ := sqrt_rnd haa.fi haa.sgn (fun h => h0 (by have := haa.zero.1 h; exact (Nat.mul_eq_zero.1 this).elim id id))
      have : z = a := Rz.eq_word an ha.wd ha.sgn (by rw [ha.v, haa.v, Rat.natCast_mul])
      rw [← this]; exact ez
  obtain ⟨x, e3, R3, s3, s3'⟩ := add_rnd haa.fi hb.fi
  have hx : IsN x (A * A + R) := by
    have v3 : val aa + val b = ((A * A + R : Nat) : Rat) := by rw [haa.v, hb.v, Rat.natCast_add]
    refine IsN.of_rnd R3 ?_ v3 (by omega)
    by_cases h0 : val aa + val b = 0
    · rw [s3' h0, haa.sgn]; rfl
    · rw [s3 h0]
      have : (0 : Rat) ≤ ((A * A + R : Nat) : Rat) := Rat.natCast_nonneg
      rw [v3]; simp; grind
  obtain ⟨a2, e4, R4, s4⟩ := mul_rnd fin_TWO ha.fi
  have ha2 : IsN a2 (2 * A) := IsN.of_rnd R4 (by rw [s4, ha.sgn]; decide) (by rw [ha.v, val_TWO, Rat.natCast_mul]; rfl) (by omega)
  have hgt : fgt b a2 = decide (2 * A < R) := by
    rw [fgt_val bn ha2.fi.num, hb.v, ha2.v]; simp only [Rat.natCast_lt_natCast]
  refine ⟨aa, x, a2, e1, e2, by rw [feq_self', isNan_false.2 an]; rfl, e3, e4, ?_⟩
  by_cases hc : 2 * A < R
  · rw [hgt]
    cases h : fgt a 0
    · right; left; exact ⟨by simpa using hc, rfl⟩
    · left; exact ⟨by simpa using hc, rfl⟩
  · right; right
    refine ⟨by rw [hgt]; simpa using hc, ?_⟩
    obtain ⟨a1, e5, R5, s5, s5'⟩ := add_rnd ha.fi fin_ONE
    have v5 : val a + val ONE = ((A + 1 : Nat) : Rat) := by rw [ha.v, val_ONE, Rat.natCast_add]; rfl
    have ha1 : IsN a1 (A + 1) := by
      refine IsN.of_rnd R5 ?_ v5 (by omega)
      have h0 : (0 : Rat) < ((A + 1 : Nat) : Rat) := Rat.natCast_pos.2 (by omega)
      rw [s5 (by rw [v5]; grind), v5]; simp; grind
    by_cases hx0 : A * A + R = 0
    · -- zero
      have hA0 : A = 0 := (Nat.mul_eq_zero.1 (show A * A = 0 by omega)).elim id id
      have hR0 : R = 0 := by omega
      have z1 := ha.zero.2 hA0
      have z2 : rg x = 0 := hx.zero.2 hx0
      have z3 := hb.zero.2 hR0
      have ex : x = a := wd_ext hx.wd ha.wd (by rw [hx.sgn, ha.sgn]) (by rw [z1, z2])
      refine ⟨a, a1, by rw [ex]; exact sqrt_zero ha.wd z1, ?_, e5, ?_, ?_⟩
      · rw [fge_val an an]; simp [Rat.le_refl]
      · rw [fle_val an ha1.fi.num, ha.v, ha1.v]; simp only [decide_eq_true_eq]; exact Rat.natCast_le_natCast.2 (by omega)
      · rw [feq_zero, z3, feq_self', isNan_false.2 an]; rfl
    · obtain ⟨r, e6, R6⟩ := sqrt_rnd hx.fi hx.sgn (fun h => hx0 (hx.zero.1 h))
      have rn := R6.fin.num
      have l1 : val a ≤ val r := R6.lo a an ha.sgn (by
        rw [ha.v, hx.v, ← Rat.natCast_mul]; exact Rat.natCast_le_natCast.2 (by omega))
      have l2 : val r ≤ val a1 := R6.up a1 ha1.fi.num ha1.sgn (by
        rw [ha1.v, hx.v, ← Rat.natCast_mul]; refine Rat.natCast_le_natCast.2 ?_
        rw [Nat.add_mul, Nat.mul_add]; omega)
      refine ⟨r, a1, e6, ?_, e5, ?_, ?_⟩
      · rw [fge_val rn an]; simpa using l1
      · rw [fle_val rn ha1.fi.num]; simpa using l2
      · rw [feq_val rn an, feq_zero]
        by_cases hR0 : R = 0
        · have : r = a := R6.eq_word an ha.wd ha.sgn (by rw [ha.v, hx.v, ← Rat.natCast_mul, hR0]; rfl)
          rw [this, hb.zero.2 hR0]; simp
        · have hz : rg b ≠ 0 := fun h => hR0 (hb.zero.1 h)
          -- there is a word between: a + 2^-27
          obtain ⟨c, c1, c2, c3, c4⟩ := rep_word false (A * 134217728 + 1) (-27) (by omega) (by omega) (by
            have h1 : ((A * 134217728 + 1 : Nat) : Rat) ≤ ((2 * B : Nat) : Rat) := Rat.natCast_le_natCast.2 (by omega)
            have h2 : ((2 * B : Nat) : Rat) = 9007199254740992 := by decide +kernel
            have h3 : (2 : Rat) ^ (-27 : Int) ≤ 1 := by decide +kernel
            have h4 := Rat.mul_le_mul_of_nonneg_left h3 (show (0 : Rat) ≤ ((A * 134217728 + 1 : Nat) : Rat) from Rat.natCast_nonneg)
            have := big_le_MAXF
            grind)
          have cv : val c = (A : Rat) + 1 / 134217728 := by
            rw [c4]
            have h3 : (2 : Rat) ^ (-27 : Int) = 1 / 134217728 := by decide +kernel
            rw [h3, Rat.natCast_add, Rat.natCast_mul]
            unfold pm
            simp only [Bool.false_eq_true, if_false, Rat.natCast_ofNat, show ((1 : Nat) : Rat) = 1 from rfl]
            grind
          have hcr : val c ≤ val r := R6.lo c c2.num c3 (by
            rw [cv, hx.v, Rat.natCast_add, Rat.natCast_mul]
            have hA' : (A : Rat) ≤ 33554432 := by
              have := (Rat.natCast_le_natCast (a := A) (b := 33554432)).2 hA
              simpa using this
            have hR' : (1 : Rat) ≤ (R : Rat) := by
              have := (Rat.natCast_le_natCast (a := 1) (b := R)).2 (by omega)
              simpa using this
            grind)
          have hne : val r ≠ val a := by rw [ha.v]; rw [cv] at hcr; grind
          simp [hz, hne]

set_option maxRecDepth 100000 in
theorem walk_core (n m : Int) (wa fb a b aa x a2 : Nat) (w : World) (n1 : -2147483648 ≤ n) (n2 : n ≤ 2147483647) (m1 : -2147483648 ≤ m) (m2 : m ≤ 2147483647)
    (g1 : wholeW n 33554432 = wa) (g2 : sizeW wa = a) (g3 : floatOfInt .f64 (m.tmod 1048576) = fb) (g4 : sizeW fb = b) (w1 : Wd wa) (w2 : Wd fb)
    (f1 : fmul a a = some aa) (f2 : fsqrt aa = some a) (f3 : feq a a = true) (f4 : fadd aa b = some x) (f5 : fmul 4611686018427387904 a = some a2)
    (H : Hid ((fgt b a2 = true ∧ fgt a 0 = true) ∨ (fgt b a2 = true ∧ fgt a 0 = false) ∨
       (fgt b a2 = false ∧ ∃ r a1, fsqrt x = some r ∧ fge r a = true ∧ fadd a 4607182418800017408 = some a1 ∧ fle r a1 = true ∧ feq b 0 = feq r a))) :
    Calls Try.prog 9 #[.int .i32 n, .int .i32 m] w fun e w' => e = .returned (.bool true) ∧ Grown w w' := by
  have h4 : fsqrt 4616189618054758400 = some 4611686018427387904 := by unfold fsqrt; decide +kernel
  have h42 : feq 4611686018427387904 4611686018427387904 = true := by decide +kernel
  rcases H.out with ⟨c1, c2⟩ | ⟨c1, c2⟩ | ⟨c1, r, a1, c2, c3, c4, c5, c6⟩
  · clear H
    go_enter Try.func9, Try.ntmps9
    go_wp2_with (first | (go_at_call 27; refine (whole_any _ _ _ (by assumption) (by assumption) (by omega) (by omega)).mono ?_; rintro e w' ⟨rfl, rfl⟩) | (go_at_call 24; refine (realSqrt_some (by assumption) _).mono ?_; rintro e w' ⟨rfl, rfl⟩) | first | (go_at_call 19; refine (isNan_any _ _).mono ?_; rintro e w' ⟨rfl, rfl⟩) | (go_at_call 18; refine (infinity_any _).mono ?_; rintro e w' ⟨rfl, rfl⟩) | (go_at_call 21; refine (isInf_any _ _ (by assumption)).mono ?_; rintro e w' ⟨rfl, rfl⟩) | (go_at_call 25; refine (isFinite_any _ _ (by assumption)).mono ?_; rintro e w' ⟨rfl, rfl⟩) | (go_at_call 33; refine (minus_any _ _ (by assumption)).mono ?_; rintro e w' ⟨rfl, rfl⟩) | (go_at_call 26; refine (size_any _ _ (by assumption)).mono ?_; rintro e w' ⟨rfl, rfl⟩) | (go_at_call 16; refine (same_any _ _ _ (by assumption) (by assumption)).mono ?_; rintro e w' ⟨rfl, rfl⟩) | (go_at_call 15; refine (conj_any _ _ _).mono ?_; rintro e w' ⟨rfl, rfl⟩) | (go_at_call 17; refine (inf_any _).mono ?_; rintro e w' ⟨rfl, rfl⟩) | (go_at_call 23; refine (naN_any _).mono ?_; rintro e w' ⟨rfl, rfl⟩) | (go_at_call 20; refine (isInf2_any _ _ _ (by assumption) (by assumption)).mono ?_; rintro e w' ⟨rfl, rfl⟩) | (go_at_call 22; refine (isNaN2_any _ _ _ (by assumption) (by assumption)).mono ?_; rintro e w' ⟨rfl, rfl⟩) | (go_at_call 30; refine (abs_any _ _ _).mono ?_; rintro e w' ⟨rfl, rfl⟩) | (go_at_call 28; refine (realHypot_any _ _ _).mono ?_; rintro e w' ⟨rfl, rfl⟩) | (go_at_call 50; refine (mAbs_any _ _ (by assumption)).mono ?_; rintro e w' ⟨rfl, rfl⟩))
    go_ret
    exact ⟨rfl, Grown.refl _⟩
  · clear H
    go_enter Try.func9, Try.ntmps9
    go_wp2_with (first | (go_at_call 27; refine (whole_any _ _ _ (by assumption) (by assumption) (by omega) (by omega)).mono ?_; rintro e w' ⟨rfl, rfl⟩) | (go_at_call 24; refine (realSqrt_some (by assumption) _).mono ?_; rintro e w' ⟨rfl, rfl⟩) | first | (go_at_call 19; refine (isNan_any _ _).mono ?_; rintro e w' ⟨rfl, rfl⟩) | (go_at_call 18; refine (infinity_any _).mono ?_; rintro e w' ⟨rfl, rfl⟩) | (go_at_call 21; refine (isInf_any _ _ (by assumption)).mono ?_; rintro e w' ⟨rfl, rfl⟩) | (go_at_call 25; refine (isFinite_any _ _ (by assumption)).mono ?_; rintro e w' ⟨rfl, rfl⟩) | (go_at_call 33; refine (minus_any _ _ (by assumption)).mono ?_; rintro e w' ⟨rfl, rfl⟩) | (go_at_call 26; refine (size_any _ _ (by assumption)).mono ?_; rintro e w' ⟨rfl, rfl⟩) | (go_at_call 16; refine (same_any _ _ _ (by assumption) (by assumption)).mono ?_; rintro e w' ⟨rfl, rfl⟩) | (go_at_call 15; refine (conj_any _ _ _).mono ?_; rintro e w' ⟨rfl, rfl⟩) | (go_at_call 17; refine (inf_any _).mono ?_; rintro e w' ⟨rfl, rfl⟩) | (go_at_call 23; refine (naN_any _).mono ?_; rintro e w' ⟨rfl, rfl⟩) | (go_at_call 20; refine (isInf2_any _ _ _ (by assumption) (by assumption)).mono ?_; rintro e w' ⟨rfl, rfl⟩) | (go_at_call 22; refine (isNaN2_any _ _ _ (by assumption) (by assumption)).mono ?_; rintro e w' ⟨rfl, rfl⟩) | (go_at_call 30; refine (abs_any _ _ _).mono ?_; rintro e w' ⟨rfl, rfl⟩) | (go_at_call 28; refine (realHypot_any _ _ _).mono ?_; rintro e w' ⟨rfl, rfl⟩) | (go_at_call 50; refine (mAbs_any _ _ (by assumption)).mono ?_; rintro e w' ⟨rfl, rfl⟩))
    go_ret
    exact ⟨rfl, Grown.refl _⟩
  · clear H
    cases h6 : feq r a
    · have c7 : fgt r a = true := by unfold fge at c3; rw [h6] at c3; simpa using c3
      rw [h6] at c6
      go_enter Try.func9, Try.ntmps9
      go_wp2_with (first | (go_at_call 27; refine (whole_any _ _ _ (by assumption) (by assumption) (by omega) (by omega)).mono ?_; rintro e w' ⟨rfl, rfl⟩) | (go_at_call 24; refine (realSqrt_some (by assumption) _).mono ?_; rintro e w' ⟨rfl, rfl⟩) | first | (go_at_call 19; refine (isNan_any _ _).mono ?_; rintro e w' ⟨rfl, rfl⟩) | (go_at_call 18; refine (infinity_any _).mono ?_; rintro e w' ⟨rfl, rfl⟩) | (go_at_call 21; refine (isInf_any _ _ (by assumption)).mono ?_; rintro e w' ⟨rfl, rfl⟩) | (go_at_call 25; refine (isFinite_any _ _ (by assumption)).mono ?_; rintro e w' ⟨rfl, rfl⟩) | (go_at_call 33; refine (minus_any _ _ (by assumption)).mono ?_; rintro e w' ⟨rfl, rfl⟩) | (go_at_call 26; refine (size_any _ _ (by assumption)).mono ?_; rintro e w' ⟨rfl, rfl⟩) | (go_at_call 16; refine (same_any _ _ _ (by assumption) (by assumption)).mono ?_; rintro e w' ⟨rfl, rfl⟩) | (go_at_call 15; refine (conj_any _ _ _).mono ?_; rintro e w' ⟨rfl, rfl⟩) | (go_at_call 17; refine (inf_any _).mono ?_; rintro e w' ⟨rfl, rfl⟩) | (go_at_call 23; refine (naN_any _).mono ?_; rintro e w' ⟨rfl, rfl⟩) | (go_at_call 20; refine (isInf2_any _ _ _ (by assumption) (by assumption)).mono ?_; rintro e w' ⟨rfl, rfl⟩) | (go_at_call 22; refine (isNaN2_any _ _ _ (by assumption) (by assumption)).mono ?_; rintro e w' ⟨rfl, rfl⟩) | (go_at_call 30; refine (abs_any _ _ _).mono ?_; rintro e w' ⟨rfl, rfl⟩) | (go_at_call 28; refine (realHypot_any _ _ _).mono ?_; rintro e w' ⟨rfl, rfl⟩) | (go_at_call 50; refine (mAbs_any _ _ (by assumption)).mono ?_; rintro e w' ⟨rfl, rfl⟩))
      go_ret
      exact ⟨rfl, Grown.refl _⟩
    · rw [h6] at c6
      go_enter Try.func9, Try.ntmps9
      go_wp2_with (first | (go_at_call 27; refine (whole_any _ _ _ (by assumption) (by assumption) (by omega) (by omega)).mono ?_; rintro e w' ⟨rfl, rfl⟩) | (go_at_call 24; refine (realSqrt_some (by assumption) _).mono ?_; rintro e w' ⟨rfl, rfl⟩) | first | (go_at_call 19; refine (isNan_any _ _).mono ?_; rintro e w' ⟨rfl, rfl⟩) | (go_at_call 18; refine (infinity_any _).mono ?_; rintro e w' ⟨rfl, rfl⟩) | (go_at_call 21; refine (isInf_any _ _ (by assumption)).mono ?_; rintro e w' ⟨rfl, rfl⟩) | (go_at_call 25; refine (isFinite_any _ _ (by assumption)).mono ?_; rintro e w' ⟨rfl, rfl⟩) | (go_at_call 33; refine (minus_any _ _ (by assumption)).mono ?_; rintro e w' ⟨rfl, rfl⟩) | (go_at_call 26; refine (size_any _ _ (by assumption)).mono ?_; rintro e w' ⟨rfl, rfl⟩) | (go_at_call 16; refine (same_any _ _ _ (by assumption) (by assumption)).mono ?_; rintro e w' ⟨rfl, rfl⟩) | (go_at_call 15; refine (conj_any _ _ _).mono ?_; rintro e w' ⟨rfl, rfl⟩) | (go_at_call 17; refine (inf_any _).mono ?_; rintro e w' ⟨rfl, rfl⟩) | (go_at_call 23; refine (naN_any _).mono ?_; rintro e w' ⟨rfl, rfl⟩) | (go_at_call 20; refine (isInf2_any _ _ _ (by assumption) (by assumption)).mono ?_; rintro e w' ⟨rfl, rfl⟩) | (go_at_call 22; refine (isNaN2_any _ _ _ (by assumption) (by assumption)).mono ?_; rintro e w' ⟨rfl, rfl⟩) | (go_at_call 30; refine (abs_any _ _ _).mono ?_; rintro e w' ⟨rfl, rfl⟩) | (go_at_call 28; refine (realHypot_any _ _ _).mono ?_; rintro e w' ⟨rfl, rfl⟩) | (go_at_call 50; refine (mAbs_any _ _ (by assumption)).mono ?_; rintro e w' ⟨rfl, rfl⟩))
      go_ret
      exact ⟨rfl, Grown.refl _⟩

theorem walk (n m : Int) (wn : (Lit.int .i32 n).wf = true) (wm : (Lit.int .i32 m).wf = true) (w : World) :
    Calls Try.prog 9 #[.int .i32 n, .int .i32 m] w fun e w' => e = .returned (.bool true) ∧ Grown w w' := by
  obtain ⟨n1, n2⟩ := i32_of_wf wn
  obtain ⟨m1, m2⟩ := i32_of_wf wm
  have hBv : B = 4503599627370496 := rfl
  have b1 := tmod_bound n 33554433 (by omega)
  have b2 := tmod_bound m 1048576 (by omega)
  have q1 := sizeInt_spec (n := n.tmod 33554433) (by omega)
  have q2 := sizeInt_spec (n := m.tmod 1048576) (by omega)
  obtain ⟨aa, x, a2, f1, f2, f3, f4, f5, hc⟩ := root_plain _ _ _ _ ⟨q1.1, q1.2.1, q1.2.2.1, q1.2.2.2⟩ ⟨q2.1, q2.2.1, q2.2.2.1, q2.2.2.2⟩ (by omega) (by omega)
  exact walk_core n m (floatOfInt .f64 (n.tmod 33554433)) (floatOfInt .f64 (m.tmod 1048576)) _ _ aa x a2 w n1 n2 m1 m2 rfl rfl rfl rfl
    (ofInt_spec (n := n.tmod 33554433) (by omega)).1 (ofInt_spec (n := m.tmod 1048576) (by omega)).1 f1 f2 f3 f4 f5 hc

theorem own : ownKnob Try.prog.godebug = none := by kernel_rfl
set_option maxRecDepth 100000 in
theorem lifted (os : Os) (started : os.Started) (H : Type) (enc : TypeId × Value → H) :
    ReturnsInHanded {} Try.checked os 9 .any (Rows.fnSqrtRootSpec.pre6 enc Try.prog Try.f9 Rows.fnSqrtRootRow.domain false) (Rows.fnSqrtRootSpec.post enc Try.prog Try.f9 false true false false) := by
  refine returnsInHanded_of_change (C := Try.checked) own started (by kernel_rfl) Try.func9
    (ChangeSpec.witness6 (enc := enc) (C := Try.checked) false ⟨#[], #[.int .i32 0, .int .i32 0], []⟩ 8 (by kernel_rfl) (by kernel_rfl) (by kernel_rfl) (by kernel_rfl)) ?_
  intro W base args ds gs before hval0 hW hcnd _
  have hval : ∀ (j : Nat) t v, Try.f9.params[j]? = some t → args[j]? = some v → Value.okWide Try.prog W .any base t v := hval0
  have hW' := hW
  obtain ⟨p, q, hA0, hV, rfl, hfz, hnd⟩ := hW
  have hA : DataW.TrodAll enc Try.prog W 0 (fun _ => true) true Try.f9.params.toList args.toList ds p := hA0
  rw [Try.params9] at hA hval
  obtain ⟨v0, vs0, d0, ds0, p0, q0, hargs, rfl, rfl, h0, r0⟩ := trodAll_cons hA
  obtain ⟨v1, vs1, d1, ds1, p1, q1, rfl, rfl, rfl, h1, r1⟩ := trodAll_cons r0
  obtain ⟨rfl, rfl, rfl⟩ := trodAll_nil r1
  obtain rfl : args = #[v0, v1] := by cases args; simp_all
  obtain ⟨rfl, rfl⟩ := trodVars_none hV
  obtain ⟨a0, rfl, rfl, rfl, w0⟩ := open_int Try.underlying21 (hval 0 21 v0 rfl rfl) h0
  obtain ⟨a1, rfl, rfl, rfl, w1⟩ := open_int Try.underlying21 (hval 1 21 v1 rfl rfl) h1
  clear hA0 hval0
  simp only [List.append_nil] at hW'
  refine (walk a0 a1 w0 w1 W).mono fun e W' ⟨he, hg⟩ => ?_
  subst he
  exact ⟨_, rfl, post_of_same (pa := []) (pv := []) hW' (fun _ _ _ => (trodAll_cons_mk (shut_bool Try.underlying4 _) trodAll_mk0)) (fun sp _ => (trodAll_cons_mk (shut_int Try.underlying21 w0) (trodAll_cons_mk (shut_int Try.underlying21 w1) trodAll_mk0))) (fun _ _ => rfl) rfl
    (hg.frame _) hg.2.1 (ok_one (by kernel_rfl) rfl (okWide_bool_mk Try.underlying4 _))⟩
theorem over : Rows.fnSqrtRootRow.holds Try.pinned (OpenSpec.ofChange Rows.fnSqrtRootSpec) :=
  OpenClaim.holds_of_wide 9 Try.f9 rfl rfl rfl rfl rfl rfl rfl ⟨rfl, rfl, rfl, rfl, rfl⟩ rfl rfl rfl rfl rfl (by kernel_rfl) Try.func9 (by kernel_rfl)
    (of_decide_eq_true (by kernel_rfl)) (by unfold Func.isWrapper; first | (rw [if_pos (by decide +kernel)]; kernel_rfl) | (rw [if_neg (by decide +kernel)]; exact ⟨rfl, rfl⟩))
    (fun os started H enc _ => lifted os started H enc)
/-- The given statement. -/
theorem proved : Rows.FnSqrtRootSaid := over
end Go.Proofs.Ytnbcodpmglifdaa.fnSqrtRoot

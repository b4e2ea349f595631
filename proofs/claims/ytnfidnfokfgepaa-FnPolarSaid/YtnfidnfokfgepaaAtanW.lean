/- The arctangent of package math on words: every step of its rational approximation is valid, the result lies from 0 to the argument, and so the whole lies above 0 and at most at pi/2. -/
import Derived.Test.YtnfidnfokfgepaaLogW
set_option linter.unusedSimpArgs false
set_option linter.unusedVariables false
namespace Go.Proofs.Ytnfidnfokfgepaa
open Go.RowKit F64

/-- The approximation's steps. -/
def xatanW (v : Nat) : Nat :=
  ((fmul v v).bind fun z0 => (fmul 13829429103926125972 z0).bind fun n1 => (fadd n1 13848613196940411002).bind fun n2 => (fmul n2 z0).bind fun n3 => (fadd n3 13858350711815275123).bind fun n4 => (fmul n4 z0).bind fun n5 => (fadd n5 13861719834326579749).bind fun n6 => (fmul n6 z0).bind fun n7 => (fadd n7 13857635882265799822).bind fun n8 => (fmul z0 n8).bind fun n9 => (fadd z0 4627690253511319612).bind fun d1 => (fmul d1 z0).bind fun d2 => (fadd d2 4640010388282866213).bind fun d3 => (fmul d3 z0).bind fun d4 => (fadd d4 4646322940342877755).bind fun d5 => (fmul d5 z0).bind fun d6 => (fadd d6 4647246694406179306).bind fun d7 => (fmul d7 z0).bind fun d8 => (fadd d8 4641049159275471596).bind fun d9 => (fdiv n9 d9).bind fun z => (fmul v z).bind fun y => fadd y v).getD 0
structure XatSteps (v z0 n1 n2 n3 n4 n5 n6 n7 n8 n9 d1 d2 d3 d4 d5 d6 d7 d8 d9 z y r : Nat) : Prop where
  e1 : fmul v v = some z0
  e2 : fmul 13829429103926125972 z0 = some n1
  e3 : fadd n1 13848613196940411002 = some n2
  e4 : fmul n2 z0 = some n3
  e5 : fadd n3 13858350711815275123 = some n4
  e6 : fmul n4 z0 = some n5
  e7 : fadd n5 13861719834326579749 = some n6
  e8 : fmul n6 z0 = some n7
  e9 : fadd n7 13857635882265799822 = some n8
  e10 : fmul z0 n8 = some n9
  e11 : fadd z0 4627690253511319612 = some d1
  e12 : fmul d1 z0 = some d2
  e13 : fadd d2 4640010388282866213 = some d3
  e14 : fmul d3 z0 = some d4
  e15 : fadd d4 4646322940342877755 = some d5
  e16 : fmul d5 z0 = some d6
  e17 : fadd d6 4647246694406179306 = some d7
  e18 : fmul d7 z0 = some d8
  e19 : fadd d8 4641049159275471596 = some d9
  e20 : fdiv n9 d9 = some z
  e21 : fmul v z = some y
  e22 : fadd y v = some r

theorem XatSteps.eq {v z0 n1 n2 n3 n4 n5 n6 n7 n8 n9 d1 d2 d3 d4 d5 d6 d7 d8 d9 z y r : Nat} (h : XatSteps v z0 n1 n2 n3 n4 n5 n6 n7 n8 n9 d1 d2 d3 d4 d5 d6 d7 d8 d9 z y r) : xatanW v = r := by
  unfold xatanW
  rw [bind_eq h.e1]
  rw [bind_eq h.e2]
  rw [bind_eq h.e3]
  rw [bind_eq h.e4]
  rw [bind_eq h.e5]
  rw [bind_eq h.e6]
  rw [bind_eq h.e7]
  rw [bind_eq h.e8]
  rw [bind_eq h.e9]
  rw [bind_eq h.e10]
  rw [bind_eq h.e11]
  rw [bind_eq h.e12]
  rw [bind_eq h.e13]
  rw [bind_eq h.e14]
  rw [bind_eq h.e15]
  rw [bind_eq h.e16]
  rw [bind_eq h.e17]
  rw [bind_eq h.e18]
  rw [bind_eq h.e19]
  rw [bind_eq h.e20]
  rw [bind_eq h.e21]
  rw [h.e22]; rfl


/-- Bounds by whole numbers. -/
theorem int_up {e v : Rat} {z : Nat} (R : Rnd e v z) (b : Int) (hb : b.natAbs < 2 * B) (h : v ≤ (b : Rat)) : val z ≤ (b : Rat) := by
  obtain ⟨w1, f1, v1, _⟩ := ofInt_spec hb
  have := R.up _ f1.num (by rw [v1]; exact h)
  rwa [v1] at this
theorem int_lo {e v : Rat} {z : Nat} (R : Rnd e v z) (b : Int) (hb : b.natAbs < 2 * B) (h : (b : Rat) ≤ v) : (b : Rat) ≤ val z := by
  obtain ⟨w1, f1, v1, _⟩ := ofInt_spec hb
  have := R.lo _ f1.num (by rw [v1]; exact h)
  rwa [v1] at this
/-- A finite word between two numbers. -/
structure In (x : Nat) (a b : Rat) : Prop where
  wd : Wd x
  fi : Fi x
  lo : a ≤ val x
  up : val x ≤ b
theorem in_of {e v : Rat} {z : Nat} (R : Rnd e v z) (a b : Int) (ha : a.natAbs ≤ 4000) (hb : b.natAbs ≤ 4000) (h1 : (a : Rat) ≤ v) (h2 : v ≤ (b : Rat)) : In z (a : Rat) (b : Rat) := by
  have hB : B = 4503599627370496 := rfl
  refine ⟨R.wd, ?_, int_lo R a (by omega) h1, int_up R b (by omega) h2⟩
  have hM := big_le_MAXF
  have a1 : ((-4000 : Int) : Rat) ≤ (a : Rat) := Rat.intCast_le_intCast.2 (by omega)
  have b1 : (b : Rat) ≤ ((4000 : Int) : Rat) := Rat.intCast_le_intCast.2 (by omega)
  have e1 : ((-4000 : Int) : Rat) = -4000 := rfl
  have e2 : ((4000 : Int) : Rat) = 4000 := rfl
  exact R.fin (by grind) (by grind)
theorem pn {a b A : Rat} (h1 : -A ≤ a) (h2 : a ≤ 0) (h3 : 0 ≤ b) (h4 : b ≤ 1 / 2) : -(A / 2) ≤ a * b ∧ a * b ≤ 0 := by
  have k1 := Rat.mul_nonneg (show (0 : Rat) ≤ -a by grind) h3
  have k2 := Rat.mul_nonneg (show (0 : Rat) ≤ -a by grind) (show (0 : Rat) ≤ 1 / 2 - b by grind)
  constructor <;> grind
theorem pp {a b A : Rat} (h1 : 0 ≤ a) (h2 : a ≤ A) (h3 : 0 ≤ b) (h4 : b ≤ 1 / 2) : 0 ≤ a * b ∧ a * b ≤ A / 2 := by
  have k1 := Rat.mul_nonneg h1 h3
  have k2 := Rat.mul_nonneg h1 (show (0 : Rat) ≤ 1 / 2 - b by grind)
  constructor <;> grind
theorem cst (c : Nat) (a b : Int) (h : (decide (c < 18446744073709551616) && decide (rg c < INF) && decide ((a : Rat) ≤ val c) && decide (val c ≤ (b : Rat))) = true) : In c (a : Rat) (b : Rat) := by
  simp only [Bool.and_eq_true, decide_eq_true_eq] at h
  obtain ⟨⟨⟨h1, h2⟩, h3⟩, h4⟩ := h
  exact ⟨h1, h2, h3, h4⟩
theorem mulN {x z : Nat} {A : Int} (hx : In x ((-A : Int) : Rat) ((0 : Int) : Rat)) (hz : In z ((0 : Int) : Rat) (1 / 2)) (C : Int) (hC : A ≤ 2 * C) (hC2 : C.natAbs ≤ 4000) : ∃ r, fmul x z = some r ∧ In r ((-C : Int) : Rat) ((0 : Int) : Rat) := by
  obtain ⟨r, e, R, _⟩ := mul_rnd hx.fi hz.fi
  have e0 : ((0 : Int) : Rat) = 0 := rfl
  have l := hx.lo; have u := hx.up; have zl := hz.lo; have zu := hz.up
  rw [Rat.intCast_neg] at l
  rw [e0] at u zl
  obtain ⟨p1, p2⟩ := pn l u zl zu
  have hc : (A : Rat) ≤ ((2 * C : Int) : Rat) := Rat.intCast_le_intCast.2 hC
  rw [Rat.intCast_mul] at hc
  have e2 : ((2 : Int) : Rat) = 2 := rfl
  exact ⟨r, e, in_of R (-C) 0 (by omega) (by omega) (by rw [Rat.intCast_neg]; grind) (by rw [e0]; exact p2)⟩
theorem mulP {x z : Nat} {A : Int} (hx : In x ((0 : Int) : Rat) ((A : Int) : Rat)) (hz : In z ((0 : Int) : Rat) (1 / 2)) (C : Int) (hC : A ≤ 2 * C) (hC2 : C.natAbs ≤ 4000) : ∃ r, fmul x z = some r ∧ In r ((0 : Int) : Rat) ((C : Int) : Rat) := by
  obtain ⟨r, e, R, _⟩ := mul_rnd hx.fi hz.fi
  have e0 : ((0 : Int) : Rat) = 0 := rfl
  have l := hx.lo; have u := hx.up; have zl := hz.lo; have zu := hz.up
  rw [e0] at l zl
  obtain ⟨p1, p2⟩ := pp l u zl zu
  have hc : (A : Rat) ≤ ((2 * C : Int) : Rat) := Rat.intCast_le_intCast.2 hC
  rw [Rat.intCast_mul] at hc
  have e2 : ((2 : Int) : Rat) = 2 := rfl
  exact ⟨r, e, in_of R 0 C (by omega) hC2 (by rw [e0]; exact p1) (by grind)⟩
theorem addI {x y : Nat} {a b c d : Int} (hx : In x (a : Rat) (b : Rat)) (hy : In y (c : Rat) (d : Rat)) (l u : Int) (hl : l ≤ a + c) (hu : b + d ≤ u) (hl2 : l.natAbs ≤ 4000) (hu2 : u.natAbs ≤ 4000) : ∃ r, fadd x y = some r ∧ In r (l : Rat) (u : Rat) := by
  obtain ⟨r, e, R, _⟩ := add_rnd hx.fi hy.fi
  have h1 : (l : Rat) ≤ ((a + c : Int) : Rat) := Rat.intCast_le_intCast.2 hl
  have h2 : ((b + d : Int) : Rat) ≤ (u : Rat) := Rat.intCast_le_intCast.2 hu
  rw [Rat.intCast_add] at h1 h2
  have := hx.lo; have := hx.up; have := hy.lo; have := hy.up
  exact ⟨r, e, in_of R l u hl2 hu2 (by grind) (by grind)⟩
theorem In.weak {x : Nat} {a b : Rat} (c d : Rat) (h : In x a b) (h1 : c ≤ a) (h2 : b ≤ d) : In x c d := ⟨h.wd, h.fi, Rat.le_trans h1 h.lo, Rat.le_trans h.up h2⟩

/-- The steps, and where the factor lies. -/
theorem xat_steps {v : Nat} (hv : Fi v) (wv : Wd v) (h1 : val v ≤ 2 / 3) (h2 : -(2 / 3) ≤ val v) :
    ∃ z0 n1 n2 n3 n4 n5 n6 n7 n8 n9 d1 d2 d3 d4 d5 d6 d7 d8 d9 z y r, XatSteps v z0 n1 n2 n3 n4 n5 n6 n7 n8 n9 d1 d2 d3 d4 d5 d6 d7 d8 d9 z y r ∧ In z (-(1 / 2)) 0 ∧ Rnd e53 (val v * val z) y ∧ Rnd e53 (val y + val v) r ∧ Fi y ∧ (val y + val v ≠ 0 → sg r = decide (val y + val v < 0)) ∧ (val y + val v = 0 → sg r = (sg y && sg v)) := by
  have e0 : ((0 : Int) : Rat) = 0 := rfl
  obtain ⟨z0, e1, R0, s0⟩ := mul_rnd hv hv
  have hz0 : In z0 ((0 : Int) : Rat) (1 / 2) := by
    have q1 : val v * val v ≤ 1 / 2 := by
      have k1 := Rat.mul_nonneg (show (0 : Rat) ≤ 2 / 3 - val v by grind) (show (0 : Rat) ≤ 2 / 3 + val v by grind)
      grind
    have q0 : 0 ≤ val v * val v := by
      by_cases h : 0 ≤ val v
      · exact Rat.mul_nonneg h h
      · have := Rat.mul_nonneg (show (0 : Rat) ≤ -(val v) by grind) (show (0 : Rat) ≤ -(val v) by grind); grind
    have wh : val 4602678819172646912 = 1 / 2 := by decide +kernel
    have u1 := R0.up 4602678819172646912 (by unfold Num; decide) (by rw [wh]; exact q1)
    rw [wh] at u1
    have l1 := R0.lo 0 num_zero (by rw [val_zero]; exact q0)
    rw [val_zero] at l1
    exact ⟨R0.wd, R0.fin (by have := one_le_MAXF; grind) (by have := one_le_MAXF; grind), by rw [e0]; exact l1, u1⟩
  obtain ⟨n1, e2, b2⟩ := mulN (A := 1) (cst 13829429103926125972 (-1) 0 (by decide +kernel)) hz0 1 (by omega) (by omega)
  obtain ⟨n2, e3, b3⟩ := addI b2 (cst 13848613196940411002 (-17) (-16) (by decide +kernel)) (-18) 0 (by omega) (by omega) (by omega) (by omega)
  obtain ⟨n3, e4, b4⟩ := mulN (A := 18) b3 hz0 9 (by omega) (by omega)
  obtain ⟨n4, e5, b5⟩ := addI b4 (cst 13858350711815275123 (-76) (-75) (by decide +kernel)) (-86) 0 (by omega) (by omega) (by omega) (by omega)
  obtain ⟨n5, e6, b6⟩ := mulN (A := 86) b5 hz0 43 (by omega) (by omega)
  obtain ⟨n6, e7, b7⟩ := addI b6 (cst 13861719834326579749 (-123) (-122) (by decide +kernel)) (-166) 0 (by omega) (by omega) (by omega) (by omega)
  obtain ⟨n7, e8, b8⟩ := mulN (A := 166) b7 hz0 83 (by omega) (by omega)
  obtain ⟨n8, e9, b9⟩ := addI b8 (cst 13857635882265799822 (-65) (-64) (by decide +kernel)) (-148) 0 (by omega) (by omega) (by omega) (by omega)
  obtain ⟨n9, e10, b10⟩ : ∃ n9, fmul z0 n8 = some n9 ∧ In n9 ((-74 : Int) : Rat) ((0 : Int) : Rat) := by
    obtain ⟨r, e, R, _⟩ := mul_rnd hz0.fi b9.fi
    have l := b9.lo; have u := b9.up; have zl := hz0.lo; have zu := hz0.up
    have k1 : ((-148 : Int) : Rat) = -148 := rfl
    rw [k1] at l
    rw [e0] at u zl
    obtain ⟨p1, p2⟩ := pn l u zl zu
    rw [Rat.mul_comm] at p1 p2
    exact ⟨r, e, in_of R (-74) 0 (by omega) (by omega) (by rw [show ((-74 : Int) : Rat) = -74 from rfl]; grind) (by rw [e0]; exact p2)⟩
  have hz0' : In z0 ((0 : Int) : Rat) ((1 : Int) : Rat) := hz0.weak _ _ Rat.le_refl (by decide +kernel)
  obtain ⟨d1, e11, b11⟩ := addI hz0' (cst 4627690253511319612 24 25 (by decide +kernel)) 0 26 (by omega) (by omega) (by omega) (by omega)
  obtain ⟨d2, e12, b12⟩ := mulP b11 hz0 13 (by omega) (by omega)
  obtain ⟨d3, e13, b13⟩ := addI b12 (cst 4640010388282866213 165 166 (by decide +kernel)) 0 179 (by omega) (by omega) (by omega) (by omega)
  obtain ⟨d4, e14, b14⟩ := mulP b13 hz0 90 (by omega) (by omega)
  obtain ⟨d5, e15, b15⟩ := addI b14 (cst 4646322940342877755 432 433 (by decide +kernel)) 0 523 (by omega) (by omega) (by omega) (by omega)
  obtain ⟨d6, e16, b16⟩ := mulP b15 hz0 262 (by omega) (by omega)
  obtain ⟨d7, e17, b17⟩ := addI b16 (cst 4647246694406179306 485 486 (by decide +kernel)) 0 748 (by omega) (by omega) (by omega) (by omega)
  obtain ⟨d8, e18, b18⟩ := mulP b17 hz0 374 (by omega) (by omega)
  obtain ⟨d9, e19, b19⟩ := addI b18 (cst 4641049159275471596 194 195 (by decide +kernel)) 194 569 (by omega) (by omega) (by omega) (by omega)
  have dl := b19.lo
  rw [show ((194 : Int) : Rat) = 194 from rfl] at dl
  have d0 : rg d9 ≠ 0 := by
    intro h
    have hz : val d9 = 0 := by rw [val_pm, h, rv_zero]; simp
    rw [hz] at dl; exact absurd dl (by decide +kernel)
  obtain ⟨z, e20, Rz, _⟩ := div_rnd b10.fi b19.fi d0
  have nl := b10.lo
  have nu := b10.up
  rw [show ((-74 : Int) : Rat) = -74 from rfl] at nl
  rw [e0] at nu
  have bz : In z (-(1 / 2)) 0 := by
    have q1 : -(1 / 2) ≤ val n9 / val d9 := by
      rw [← Rat.not_lt, Rat.div_lt_iff (by grind)]; grind
    have q2 : val n9 / val d9 ≤ 0 := by
      rw [← Rat.not_lt, Rat.lt_div_iff (by grind)]; grind
    have wh : val 13826050856027422720 = -(1 / 2) := by decide +kernel
    have l1 := Rz.lo 13826050856027422720 (by unfold Num; decide) (by rw [wh]; exact q1)
    rw [wh] at l1
    have u1 := Rz.up 0 num_zero (by rw [val_zero]; exact q2)
    rw [val_zero] at u1
    exact ⟨Rz.wd, Rz.fin (by have := one_le_MAXF; grind) (by have := one_le_MAXF; grind), l1, u1⟩
  obtain ⟨y, e21, Ry, sy⟩ := mul_rnd hv bz.fi
  have pz : val v * val z ≤ 1 ∧ -1 ≤ val v * val z := by
    obtain ⟨p1, p2⟩ := prod_bd (a := val v) (b := val z) (A := 1) (C := 1) (by grind) (by grind) (by have := bz.up; grind) (by have := bz.lo; grind)
    constructor <;> grind
  have fy : Fi y := Ry.fin (by have := one_le_MAXF; grind) (by have := one_le_MAXF; grind)
  obtain ⟨r, e22, Rr, sr1, sr2⟩ := add_rnd fy hv
  exact ⟨z0, n1, n2, n3, n4, n5, n6, n7, n8, n9, d1, d2, d3, d4, d5, d6, d7, d8, d9, z, y, r, ⟨e1, e2, e3, e4, e5, e6, e7, e8, e9, e10, e11, e12, e13, e14, e15, e16, e17, e18, e19, e20, e21, e22⟩, bz, Ry, Rr, fy, sr1, sr2⟩

/-- Every value is a whole number of units. -/
theorem val_units (x : Nat) : ∃ n : Int, val x = (n : Rat) * u := by
  rw [val_pm]
  unfold rv pm
  cases sg x
  · exact ⟨(V (rg x) : Int), by simp [Rat.intCast_natCast]⟩
  · exact ⟨-(V (rg x) : Int), by simp [Rat.intCast_natCast, Rat.intCast_neg]; grind⟩
theorem val_one_u : val 1 = u := by
  have : rg 1 = 1 := by decide
  rw [val_pos_word (by decide), this]; unfold rv
  have : V 1 = 1 := by decide
  rw [this]; simp
/-- A sum that is not 0 is not rounded to 0. -/
theorem sum_pos {x y z : Nat} {e : Rat} (R : Rnd e (val x + val y) z) (h : 0 < val x + val y) : 0 < val z := by
  obtain ⟨n, hn⟩ := val_units x
  obtain ⟨m, hm⟩ := val_units y
  have hu := u_pos
  have e1 : val x + val y = ((n + m : Int) : Rat) * u := by rw [hn, hm, Rat.intCast_add]; grind
  rw [e1] at h
  have h1 : (0 : Rat) < ((n + m : Int) : Rat) := by rwa [Rat.mul_pos_iff_of_pos_right hu] at h
  have h2 : 1 ≤ n + m := by have := Rat.intCast_pos.1 h1; omega
  have h3 : ((1 : Int) : Rat) ≤ ((n + m : Int) : Rat) := Rat.intCast_le_intCast.2 h2
  have h4 : u ≤ val x + val y := by
    rw [e1]
    have := Rat.mul_le_mul_of_nonneg_right h3 (Rat.le_of_lt hu)
    rw [show ((1 : Int) : Rat) = 1 from rfl, Rat.one_mul] at this
    exact this
  have h5 := R.lo 1 (by unfold Num; decide) (by rw [val_one_u]; exact h4)
  rw [val_one_u] at h5
  grind

/-- The approximation lies from 0 to its argument. -/
theorem xatan_ok {v : Nat} (hv : Fi v) (wv : Wd v) (h1 : val v ≤ 2 / 3) (h2 : -(2 / 3) ≤ val v) :
    Wd (xatanW v) ∧ Fi (xatanW v) ∧ (0 ≤ val v → 0 ≤ val (xatanW v) ∧ val (xatanW v) ≤ val v) ∧ (val v ≤ 0 → val v ≤ val (xatanW v) ∧ val (xatanW v) ≤ 0) ∧ (sg v = false → rg v ≠ 0 → 0 < val (xatanW v)) := by
  obtain ⟨z0, n1, n2, n3, n4, n5, n6, n7, n8, n9, d1, d2, d3, d4, d5, d6, d7, d8, d9, z, y, r, S, bz, Ry, Rr, fy, sr1, sr2⟩ := xat_steps hv wv h1 h2
  rw [S.eq]
  have zl := bz.lo
  have zu := bz.up
  have nw := negw_num wv hv.num
  have nv := negw_val wv
  have pos : 0 ≤ val v → 0 ≤ val r ∧ val r ≤ val v := by
    intro h
    have q1 : val v * val z ≤ 0 := by have := Rat.mul_nonneg h (show (0 : Rat) ≤ -(val z) by grind); grind
    have q2 : -(val v) ≤ val v * val z := by have := Rat.mul_nonneg h (show (0 : Rat) ≤ 1 + val z by grind); grind
    have y1 := Ry.up 0 num_zero (by rw [val_zero]; exact q1)
    have y2 := Ry.lo (negw v) nw (by rw [nv]; exact q2)
    rw [val_zero] at y1
    rw [nv] at y2
    have r1 := Rr.lo 0 num_zero (by rw [val_zero]; grind)
    have r2 := Rr.up v hv.num (by grind)
    rw [val_zero] at r1
    exact ⟨r1, r2⟩
  have neg : val v ≤ 0 → val v ≤ val r ∧ val r ≤ 0 := by
    intro h
    have q1 : 0 ≤ val v * val z := by have := Rat.mul_nonneg (show (0 : Rat) ≤ -(val v) by grind) (show (0 : Rat) ≤ -(val z) by grind); grind
    have q2 : val v * val z ≤ -(val v) := by have := Rat.mul_nonneg (show (0 : Rat) ≤ -(val v) by grind) (show (0 : Rat) ≤ 1 + val z by grind); grind
    have y1 := Ry.lo 0 num_zero (by rw [val_zero]; exact q1)
    have y2 := Ry.up (negw v) nw (by rw [nv]; exact q2)
    rw [val_zero] at y1
    rw [nv] at y2
    have r1 := Rr.up 0 num_zero (by rw [val_zero]; grind)
    have r2 := Rr.lo v hv.num (by grind)
    rw [val_zero] at r1
    exact ⟨r2, r1⟩
  refine ⟨Rr.wd, ?_, pos, neg, ?_⟩
  · refine Rr.fin ?_ ?_
    · by_cases h : 0 ≤ val v
      · have q1 : val v * val z ≤ 0 := by have := Rat.mul_nonneg h (show (0 : Rat) ≤ -(val z) by grind); grind
        have y1 := Ry.up 0 num_zero (by rw [val_zero]; exact q1)
        rw [val_zero] at y1
        have := one_le_MAXF; grind
      · have q2 : val v * val z ≤ -(val v) := by have := Rat.mul_nonneg (show (0 : Rat) ≤ -(val v) by grind) (show (0 : Rat) ≤ 1 + val z by grind); grind
        have y2 := Ry.up (negw v) nw (by rw [nv]; exact q2)
        rw [nv] at y2
        have := one_le_MAXF; grind
    · by_cases h : 0 ≤ val v
      · have q2 : -(val v) ≤ val v * val z := by have := Rat.mul_nonneg h (show (0 : Rat) ≤ 1 + val z by grind); grind
        have y2 := Ry.lo (negw v) nw (by rw [nv]; exact q2)
        rw [nv] at y2
        have := one_le_MAXF; grind
      · have q1 : 0 ≤ val v * val z := by have := Rat.mul_nonneg (show (0 : Rat) ≤ -(val v) by grind) (show (0 : Rat) ≤ -(val z) by grind); grind
        have y1 := Ry.lo 0 num_zero (by rw [val_zero]; exact q1)
        rw [val_zero] at y1
        have := one_le_MAXF; grind
  · intro hs h0
    by_cases hone : rg v = 1
    · -- the least number above 0: by reckoning
      have e : v = 1 := wd_ext wv (by unfold Wd; decide) (by rw [hs]; decide) (by rw [hone]; decide)
      have : r = xatanW v := S.eq.symm
      rw [this, e]
      have k : xatanW 1 = 1 := by unfold xatanW fmul fadd fdiv; decide +kernel
      rw [k, val_one_u]; exact u_pos
    · refine sum_pos Rr ?_
      -- a word between
      have hp := val_pos hs h0
      have hg : 2 ≤ rg v := by omega
      have hsw := inf_lt_sw
      have hvI : rg v < INF := hv
      have g1 : rg v - 1 < SW := by omega
      have half : val v ≤ 2 * rv (rg v - 1) := by
        rw [val_pos_word hs]
        obtain ⟨p, k, hform, hk⟩ := rung_form (rg v)
        have hB := B_pos
        by_cases hkB : (p = 0 ∧ k ≤ B) ∨ B < k
        · have hk2 : 2 ≤ k := by
            rcases hkB with ⟨hp0, _⟩ | h
            · rw [hp0] at hform; omega
            · have : (1 : Nat) ≤ B := hB
              omega
          have e1 : rv (rg v) = (k : Rat) * (2 : Rat) ^ ((p : Int) - 1074) := by rw [hform]; exact rv_of p k (by omega)
          have e2 : rv (rg v - 1) = ((k - 1 : Nat) : Rat) * (2 : Rat) ^ ((p : Int) - 1074) := by
            rw [hform, show p * B + k - 1 = p * B + (k - 1) from by omega]; exact rv_of p (k - 1) (by omega)
          rw [e1, e2]
          have h3 : (k : Rat) ≤ ((2 * (k - 1) : Nat) : Rat) := Rat.natCast_le_natCast.2 (by omega)
          rw [Rat.natCast_mul] at h3
          have h4 := Rat.mul_le_mul_of_nonneg_right h3 (Rat.le_of_lt (zp_pos ((p : Int) - 1074)))
          rw [show ((2 : Nat) : Rat) = 2 from rfl] at h4
          grind
        · have hkk : k = B ∧ 0 < p := by omega
          have e1 : rv (rg v) = (B : Rat) * (2 : Rat) ^ ((p : Int) - 1074) := by rw [hform, hkk.1]; exact rv_of p B (by omega)
          have e2 : rv (rg v - 1) = ((2 * B - 1 : Nat) : Rat) * (2 : Rat) ^ (((p - 1 : Nat) : Int) - 1074) := by
            have : rg v - 1 = (p - 1) * B + (2 * B - 1) := by
              rw [hform, hkk.1]
              have : (p - 1) * B + B = p * B := by rw [← Nat.succ_mul]; congr 1; omega
              omega
            rw [this]; exact rv_of (p - 1) (2 * B - 1) (by omega)
          rw [e1, e2]
          have e3 : (2 : Rat) ^ ((p : Int) - 1074) = 2 * (2 : Rat) ^ (((p - 1 : Nat) : Int) - 1074) := by
            rw [show (p : Int) - 1074 = 1 + (((p - 1 : Nat) : Int) - 1074) from by omega, zp_add, Rat.zpow_one]
          rw [e3]
          have h3 : (B : Rat) ≤ ((2 * B - 1 : Nat) : Rat) := Rat.natCast_le_natCast.2 (by omega)
          have h4 := Rat.mul_le_mul_of_nonneg_right h3 (Rat.le_of_lt (zp_pos (((p - 1 : Nat) : Int) - 1074)))
          grind
      have q2 : -(rv (rg v - 1)) ≤ val v * val z := by
        have := Rat.mul_nonneg (Rat.le_of_lt hp) (show (0 : Rat) ≤ 1 / 2 + val z by grind)
        grind
      have c1 : val (Ieee.double.word true (rg v - 1)) = -(rv (rg v - 1)) := by rw [val_word g1]; unfold pm; simp; grind
      have y2 := Ry.lo (Ieee.double.word true (rg v - 1)) (by unfold Num; rw [word_rg g1]; omega) (by rw [c1]; exact q2)
      rw [c1] at y2
      have hlt : rv (rg v - 1) < rv (rg v) := rv_lt_iff.2 (by omega)
      rw [← val_pos_word hs] at hlt
      grind

theorem num_fi {x : Nat} (h : Num x) (h2 : rg x ≠ INF) : Fi x := by unfold Num Fi at *; omega
theorem add_form {a b z : Nat} (fa : Fi a) (fb : Fi b) (h : 0 < val a + val b) (e : fadd a b = some z) :
    ∃ m p, m ≠ 0 ∧ z = Ieee.double.word false (min (near false m p) INF) ∧ (m : Rat) * (2 : Rat) ^ p = val a + val b := by
  obtain ⟨k, i, g1, g2, _⟩ := read_fin fa
  obtain ⟨l, j, l1, l2, _⟩ := read_fin fb
  unfold fadd Ieee.Format.add at e
  rw [g1, l1] at e
  simp only [Ieee.Datum.sum, Option.map_some, Ieee.Format.write, Option.some.injEq] at e
  obtain ⟨b0, hb⟩ : ∃ b0, b0 = min i j := ⟨_, rfl⟩
  rw [← hb] at e
  have s1 := scaled_val (base := b0) (by omega) g2
  have s2 := scaled_val (base := b0) (by omega) l2
  have tot : (((Ieee.signed (sg a) k (i - b0).toNat + Ieee.signed (sg b) l (j - b0).toNat : Int)) : Rat) * (2 : Rat) ^ b0 = val a + val b := by
    rw [Rat.intCast_add, Rat.add_mul, s1, s2]
  generalize Ieee.signed (sg a) k (i - b0).toNat + Ieee.signed (sg b) l (j - b0).toNat = T at *
  have hp := zp_pos b0
  have tp : 0 < T := by
    have h1 : 0 < (T : Rat) * (2 : Rat) ^ b0 := by rw [tot]; exact h
    rw [Rat.mul_pos_iff_of_pos_right hp] at h1
    exact Rat.intCast_pos.1 h1
  obtain ⟨t1, t2, t3, t4⟩ : T.natAbs ≠ 0 ∧ ((T.natAbs : Nat) : Int) = T ∧ ¬ T = 0 ∧ decide (T < 0) = false := by
    clear e g1 l1
    refine ⟨by omega, by omega, by omega, by simp; omega⟩
  rw [if_neg t3, t4, nearest_eq false T.natAbs b0 t1] at e
  refine ⟨T.natAbs, b0, t1, e.symm, ?_⟩
  rw [← tot]; congr 1; rw [← Rat.intCast_natCast, t2]
theorem add_mono {a b c d z s : Nat} (fa : Fi a) (fb : Fi b) (fc : Fi c) (fdd : Fi d) (h0 : 0 < val a + val b) (h : val a + val b < val c + val d)
    (hz : fadd a b = some z) (hs : fadd c d = some s) : val z ≤ val s := by
  obtain ⟨m, p, hm, rfl, em⟩ := add_form fa fb h0 hz
  obtain ⟨n, q, hn, rfl, en⟩ := add_form fc fdd (by grind) hs
  have hmono := near_mono (near_spec false m p hm) (near_spec false n q hn) (by rw [em, en]; exact h)
  rw [val_word (min_sw _), val_word (min_sw _)]
  unfold pm
  simp only [Bool.false_eq_true, if_false, Rat.one_mul]
  exact rv_le_iff.2 (min_mono hmono)

def PI : Nat := 4614256656552045848
def PIH : Nat := 4609753056924675352
theorem pi_facts : Fi PI ∧ Fi PIH ∧ Wd PI ∧ Wd PIH ∧ sg PI = false ∧ sg PIH = false ∧ val PI = 2 * val PIH ∧ 3 / 2 + 1 / 16 ≤ val PIH ∧ val PIH ≤ 13 / 8 :=
  ⟨by unfold Fi; decide, by unfold Fi; decide, by unfold Wd; decide, by unfold Wd; decide, by decide, by decide, by decide +kernel, by decide +kernel, by decide +kernel⟩

/-- The arctangent of a number above 0. -/
def satanW (x : Nat) : Nat :=
  if fle x 4604119971053405471 then xatanW x
  else if fgt x 4612618744449965542 then ((fdiv ONE x).bind fun i => (fsub PIH (xatanW i)).bind fun a => fadd a 4364452196894661639).getD 0
  else ((fsub x ONE).bind fun n => (fadd x ONE).bind fun d => (fdiv n d).bind fun q => (fadd 4605249457297304856 (xatanW q)).bind fun a => fadd a 4359948597267291143).getD 0
def SatBig (x i a z : Nat) : Prop := fdiv ONE x = some i ∧ fsub PIH (xatanW i) = some a ∧ fadd a 4364452196894661639 = some z
def SatMid (x n d q a z : Nat) : Prop := fsub x ONE = some n ∧ fadd x ONE = some d ∧ fdiv n d = some q ∧ fadd 4605249457297304856 (xatanW q) = some a ∧ fadd a 4359948597267291143 = some z
/-- Where an argument of the approximation is allowed. -/
def XatArg (v : Nat) : Prop := Fi v ∧ Wd v ∧ val v ≤ 2 / 3 ∧ -(2 / 3) ≤ val v
def Sat (x : Nat) : Prop :=
  (fle x 4604119971053405471 = true ∧ XatArg x) ∨
  (fle x 4604119971053405471 = false ∧ fgt x 4612618744449965542 = true ∧ ∃ i a z, SatBig x i a z ∧ XatArg i ∧ satanW x = z) ∨
  (fle x 4604119971053405471 = false ∧ fgt x 4612618744449965542 = false ∧ ∃ n d q a z, SatMid x n d q a z ∧ XatArg q ∧ satanW x = z)

theorem mb_facts : Fi 4364452196894661639 ∧ 0 < val 4364452196894661639 ∧ val 4364452196894661639 ≤ 1 / 1000 ∧ fadd PIH 4364452196894661639 = some PIH :=
  ⟨by unfold Fi; decide, by decide +kernel, by decide +kernel, by unfold fadd; decide +kernel⟩
theorem hmb_facts : Fi 4359948597267291143 ∧ 0 < val 4359948597267291143 ∧ val 4359948597267291143 ≤ 1 / 1000 := ⟨by unfold Fi; decide, by decide +kernel, by decide +kernel⟩
theorem c66 : Num 4604119971053405471 ∧ val 4604119971053405471 ≤ 2 / 3 ∧ 1 / 2 + 1 / 8 ≤ val 4604119971053405471 := ⟨by unfold Num; decide, by decide +kernel, by decide +kernel⟩
theorem t38 : Num 4612618744449965542 ∧ 2 ≤ val 4612618744449965542 ∧ val 4612618744449965542 ≤ 5 / 2 := ⟨by unfold Num; decide, by decide +kernel, by decide +kernel⟩
theorem piq : Fi 4605249457297304856 ∧ 3 / 4 ≤ val 4605249457297304856 ∧ val 4605249457297304856 ≤ 13 / 16 := ⟨by unfold Fi; decide, by decide +kernel, by decide +kernel⟩
theorem fsub_add {x y : Nat} (hy : Wd y) : fsub x y = fadd x (negw y) := sub_eq_add hy

theorem sat_ok {x : Nat} (hx : Wd x) (nx : Num x) (sx : sg x = false) (h0 : rg x ≠ 0) : Sat x ∧ Wd (satanW x) ∧ Fi (satanW x) ∧ 0 < val (satanW x) ∧ val (satanW x) ≤ val PIH := by
  have hp := val_pos sx h0
  obtain ⟨pf1, pf2, pf3, pf4, pf5, pf6, pf7, pf8, pf9⟩ := pi_facts
  cases c1 : fle x 4604119971053405471
  · have c1' := c1
    rw [fle_val nx c66.1] at c1'
    simp at c1'
    have hgt : val 4604119971053405471 < val x := by grind
    have l66 := c66.2.2
    cases c2 : fgt x 4612618744449965542
    · -- the middle
      have c2' := c2
      rw [fgt_val nx t38.1] at c2'
      simp at c2'
      have hle : val x ≤ val 4612618744449965542 := by grind
      have u38 := t38.2.2
      have hM := one_le_MAXF
      have fx : Fi x := by
        refine num_fi nx ?_
        intro hI
        have e : val x = rv INF := by rw [val_pos_word sx, hI]
        have : (4 : Rat) ≤ rv INF := by decide +kernel
        grind
      have no : val (negw ONE) = -1 := by rw [negw_val ONE_wd, val_ONE]
      obtain ⟨n, en, Rn, _⟩ := add_rnd fx (negw_fin ONE_wd fin_ONE)
      rw [no] at Rn
      obtain ⟨d, ed, Rd, _⟩ := add_rnd fx fin_ONE
      rw [val_ONE] at Rd
      have w12 : val 13826050856027422720 = -(1 / 2) := by decide +kernel
      have w32 : val 4609434218613702656 = 3 / 2 := by decide +kernel
      have w4 : val 4616189618054758400 = 4 := by decide +kernel
      have n1 := Rn.lo 13826050856027422720 (by unfold Num; decide) (by rw [w12]; grind)
      have n2 := Rn.up 4609434218613702656 (by unfold Num; decide) (by rw [w32]; grind)
      have d1 := Rd.lo 4609434218613702656 (by unfold Num; decide) (by rw [w32]; grind)
      have d2 := Rd.up 4616189618054758400 (by unfold Num; decide) (by rw [w4]; grind)
      rw [w12] at n1
      rw [w32] at n2 d1
      rw [w4] at d2
      have fn : Fi n := Rn.fin (by grind) (by grind)
      have fd' : Fi d := Rd.fin (by grind) (by grind)
      have hd0 : rg d ≠ 0 := by
        intro h
        have hz : val d = 0 := by rw [val_pm, h, rv_zero]; simp
        rw [hz] at d1; exact absurd d1 (by decide +kernel)
      obtain ⟨q, eq', Rq, _⟩ := div_rnd fn fd' hd0
      have dp : 0 < val d := by grind
      have q2 : -(1 / 2) ≤ val n / val d := by
        rw [← Rat.not_lt, Rat.div_lt_iff dp]; grind
      -- the quotient, rounded: between words
      have q1' : val n / val d ≤ 5 / 8 := by
        rw [← Rat.not_lt, Rat.lt_div_iff dp]
        by_cases h2 : val x ≤ 2
        · have := Rn.up ONE num_ONE (by rw [val_ONE]; grind)
          rw [val_ONE] at this
          by_cases h3 : val x ≤ 7 / 4
          · have w34 : val 4604930618986332160 = 3 / 4 := by decide +kernel
            have := Rn.up 4604930618986332160 (by unfold Num; decide) (by rw [w34]; grind)
            rw [w34] at this; grind
          · have w5 : val 4612811918334230528 = 5 / 2 := by decide +kernel
            have := Rd.lo 4612811918334230528 (by unfold Num; decide) (by rw [w5]; grind)
            rw [w5] at this; grind
        · have w3 : val 4613937818241073152 = 3 := by decide +kernel
          have := Rd.lo 4613937818241073152 (by unfold Num; decide) (by rw [w3]; grind)
          rw [w3] at this; grind
      have w58 : val 4603804719079489536 = 5 / 8 := by decide +kernel
      have q3 := Rq.up 4603804719079489536 (by unfold Num; decide) (by rw [w58]; exact q1')
      have q4 := Rq.lo 13826050856027422720 (by unfold Num; decide) (by rw [w12]; exact q2)
      rw [w58] at q3
      rw [w12] at q4
      have fq : Fi q := Rq.fin (by grind) (by grind)
      have xa : XatArg q := ⟨fq, Rq.wd, by grind, by grind⟩
      obtain ⟨x1, x2, x3, x4, _⟩ := xatan_ok fq Rq.wd (by grind) (by grind)
      have xb : -(1 / 2) ≤ val (xatanW q) ∧ val (xatanW q) ≤ 5 / 8 := by
        by_cases h : 0 ≤ val q
        · have := x3 h; constructor <;> grind
        · have := x4 (by grind); constructor <;> grind
      obtain ⟨p1, p2, p3⟩ := piq
      obtain ⟨m1, m2, m3⟩ := hmb_facts
      obtain ⟨a, ea, Ra, _⟩ := add_rnd p1 x2
      have w14 : val 4598175219545276416 = 1 / 4 := by decide +kernel
      have a1 := Ra.lo 4598175219545276416 (by unfold Num; decide) (by rw [w14]; grind)
      have a2 := Ra.up 4609434218613702656 (by unfold Num; decide) (by rw [w32]; grind)
      rw [w14] at a1
      rw [w32] at a2
      have fa : Fi a := Ra.fin (by grind) (by grind)
      obtain ⟨z, ez, Rz, _⟩ := add_rnd fa m1
      have z1 := Rz.lo a fa.num (by grind)
      have z2 := Rz.up PIH pf2.num (by grind)
      have fz : Fi z := Rz.fin (by grind) (by grind)
      have en' : fsub x ONE = some n := by rw [fsub_add ONE_wd]; exact en
      have hsat : satanW x = z := by
        unfold satanW
        rw [c1, c2]
        simp only [Bool.false_eq_true, if_false]
        rw [bind_eq en', bind_eq (show fadd x ONE = some d from ed), bind_eq (show fdiv n d = some q from eq'), bind_eq (show fadd 4605249457297304856 (xatanW q) = some a from ea), show fadd a 4359948597267291143 = some z from ez]
        rfl
      refine ⟨Or.inr (Or.inr ⟨c1, c2, n, d, q, a, z, ⟨en', ed, eq', ea, ez⟩, xa, hsat⟩), ?_⟩
      rw [hsat]
      exact ⟨Rz.wd, fz, by grind, z2⟩
    · -- beyond
      have c2' := c2
      rw [fgt_val nx t38.1] at c2'
      simp at c2'
      have l38 := t38.2.1
      have hM := one_le_MAXF
      have hi : ∃ i, fdiv ONE x = some i ∧ Wd i ∧ Fi i ∧ 0 ≤ val i ∧ val i ≤ 1 / 2 := by
        by_cases hI : rg x = INF
        · have e : x = 9218868437227405312 := wd_ext hx (by unfold Wd; decide) (by rw [sx]; decide) (by rw [hI]; decide)
          subst e
          exact ⟨0, by unfold fdiv; decide +kernel, by unfold Wd; decide, by unfold Fi; decide, by rw [val_zero]; exact Rat.le_refl, by rw [val_zero]; decide +kernel⟩
        · have fx : Fi x := num_fi nx hI
          obtain ⟨i, ei, Ri, _⟩ := div_rnd fin_ONE fx h0
          rw [val_ONE] at Ri
          have q0 : 0 ≤ 1 / val x := by rw [← Rat.not_lt, Rat.div_lt_iff hp]; grind
          have q1 : 1 / val x ≤ 1 / 2 := by rw [← Rat.not_lt, Rat.lt_div_iff hp]; grind
          have wh : val 4602678819172646912 = 1 / 2 := by decide +kernel
          have i1 := Ri.lo 0 num_zero (by rw [val_zero]; exact q0)
          have i2 := Ri.up 4602678819172646912 (by unfold Num; decide) (by rw [wh]; exact q1)
          rw [val_zero] at i1
          rw [wh] at i2
          exact ⟨i, ei, Ri.wd, Ri.fin (by grind) (by grind), i1, i2⟩
      obtain ⟨i, ei, wi, fi, i1, i2⟩ := hi
      have xa : XatArg i := ⟨fi, wi, by grind, by grind⟩
      obtain ⟨x1, x2, x3, _, _⟩ := xatan_ok fi wi (by grind) (by grind)
      have x4 := x3 i1
      obtain ⟨a, ea, Ra, _⟩ := add_rnd pf2 (negw_fin x1 x2)
      rw [negw_val x1] at Ra
      have a1 := Ra.lo ONE num_ONE (by rw [val_ONE]; grind)
      have a2 := Ra.up PIH pf2.num (by grind)
      rw [val_ONE] at a1
      have fa : Fi a := Ra.fin (by grind) (by grind)
      obtain ⟨m1, m2, m3, m4⟩ := mb_facts
      obtain ⟨z, ez, Rz, _⟩ := add_rnd fa m1
      have z1 := Rz.lo a fa.num (by grind)
      have fz : Fi z := Rz.fin (by grind) (by grind)
      have z2 : val z ≤ val PIH := by
        by_cases h : val a = val PIH
        · have sa : sg a = false := by
            cases hs : sg a
            · rfl
            · have := rv_nonneg (rg a)
              rw [val_pm, hs] at a1; unfold pm at a1; simp at a1; grind
          have e : a = PIH := eq_of_val Ra.wd pf4 (by rw [sa, pf6]) h
          rw [e] at ez
          have : fadd PIH 4364452196894661639 = some z := ez
          rw [m4] at this
          simp at this
          rw [← this]; exact Rat.le_refl
        · exact add_mono fa m1 pf2 m1 (by grind) (by grind) ez m4
      have ea' : fsub PIH (xatanW i) = some a := by rw [fsub_add x1]; exact ea
      have hsat : satanW x = z := by
        unfold satanW
        rw [c1, c2]
        simp only [Bool.false_eq_true, if_false, if_true]
        rw [bind_eq ei, bind_eq ea', show fadd a 4364452196894661639 = some z from ez]
        rfl
      refine ⟨Or.inr (Or.inl ⟨c1, c2, i, a, z, ⟨ei, ea', ez⟩, xa, hsat⟩), ?_⟩
      rw [hsat]
      exact ⟨Rz.wd, fz, by grind, z2⟩
  · have c1' := c1
    rw [fle_val nx c66.1] at c1'
    simp at c1'
    have l66 := c66.2.1
    have hM := one_le_MAXF
    have fx : Fi x := by
      refine num_fi nx ?_
      intro hI
      have e : val x = rv INF := by rw [val_pos_word sx, hI]
      have : (4 : Rat) ≤ rv INF := by decide +kernel
      grind
    obtain ⟨x1, x2, x3, _, x5⟩ := xatan_ok fx hx (by grind) (by grind)
    have hsat : satanW x = xatanW x := by unfold satanW; rw [c1]; rfl
    refine ⟨Or.inl ⟨c1, fx, hx, by grind, by grind⟩, ?_⟩
    rw [hsat]
    have := x3 (Rat.le_of_lt hp)
    exact ⟨x1, x2, x5 sx h0, by grind⟩

end Go.Proofs.Ytnfidnfokfgepaa

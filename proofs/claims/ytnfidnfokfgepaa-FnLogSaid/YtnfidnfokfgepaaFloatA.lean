/- The numbers of double precision as rationals: each magnitude ('rung') has a value, the values grow with the rungs, and the word that the model rounds to lies nearest. -/
import Ieee.Arith
set_option linter.unusedSimpArgs false
set_option linter.unusedVariables false
namespace Go.Proofs.Ytnfidnfokfgepaa.F64
open Ieee

/-- Rungs to a binade. -/
def B : Nat := 4503599627370496
/-- The rung of infinity. -/
def INF : Nat := 9218868437227405312
/-- The weight of the sign bit. -/
def SW : Nat := 9223372036854775808

theorem B_eq : B = 2 ^ 52 := by decide
theorem B_pos : 0 < B := by decide

/-- A rung's magnitude, in units of the least subnormal number. -/
def V (g : Nat) : Nat := if g < B then g else (B + g % B) * 2 ^ (g / B - 1)

theorem V_of (p k : Nat) (h : (p = 0 ∧ k ≤ B) ∨ (B ≤ k ∧ k ≤ 2 * B)) : V (p * B + k) = k * 2 ^ p := by
  have hB := B_pos
  unfold V
  rcases h with ⟨rfl, hk⟩ | ⟨h1, h2⟩
  · by_cases hk' : k < B
    · rw [if_pos (by omega)]; simp
    · have : k = B := by omega
      subst this
      rw [if_neg (by omega)]
      simp [Nat.div_self hB]
  · rw [if_neg (by have := Nat.zero_le (p * B); omega)]
    by_cases hk : k = 2 * B
    · subst hk
      have e1 : (p * B + 2 * B) = (p + 2) * B := by rw [Nat.add_mul]
      rw [e1, Nat.mul_mod_left, Nat.mul_div_cancel _ hB]
      rw [show p + 2 - 1 = p + 1 from by omega, Nat.pow_succ]
      simp [Nat.mul_comm, Nat.mul_left_comm, Nat.mul_assoc]
    · obtain ⟨f, rfl⟩ : ∃ f, k = B + f := ⟨k - B, by omega⟩
      have e1 : p * B + (B + f) = f + (p + 1) * B := by rw [Nat.add_mul]; omega
      rw [e1, Nat.add_mul_mod_self_right, Nat.mod_eq_of_lt (by omega), Nat.add_mul_div_right _ _ hB, Nat.div_eq_of_lt (by omega)]
      simp

/-- Each rung has this form. -/
theorem rung_form (g : Nat) : ∃ p k, g = p * B + k ∧ ((p = 0 ∧ k < B) ∨ (B ≤ k ∧ k < 2 * B)) := by
  have hB := B_pos
  by_cases h : g < B
  · exact ⟨0, g, by simp, Or.inl ⟨rfl, h⟩⟩
  · refine ⟨g / B - 1, B + g % B, ?_, Or.inr ⟨by omega, by have := Nat.mod_lt g hB; omega⟩⟩
    have h1 := Nat.div_add_mod g B
    have h2 : 1 ≤ g / B := (Nat.le_div_iff_mul_le hB).2 (by omega)
    have h3 : (g / B - 1) * B + B = g / B * B := by
      rw [← Nat.succ_mul]; congr 1; omega
    rw [Nat.mul_comm] at h1
    omega

theorem V_succ (g : Nat) : V g < V (g + 1) := by
  have hB := B_pos
  obtain ⟨p, k, rfl, h⟩ := rung_form g
  have hp : 0 < 2 ^ p := Nat.two_pow_pos p
  rw [V_of p k (by omega), Nat.add_assoc, V_of p (k + 1) (by omega)]
  exact Nat.mul_lt_mul_of_pos_right (by omega) hp

theorem V_lt {a b : Nat} (h : a < b) : V a < V b := by
  induction b with
  | zero => omega
  | succ b ih =>
    by_cases e : a = b
    · subst e; exact V_succ a
    · exact Nat.lt_trans (ih (by omega)) (V_succ b)

theorem V_le {a b : Nat} (h : a ≤ b) : V a ≤ V b := by
  by_cases e : a = b
  · subst e; exact Nat.le_refl _
  · exact Nat.le_of_lt (V_lt (by omega))

theorem V_le_iff {a b : Nat} : V a ≤ V b ↔ a ≤ b := by
  constructor
  · intro h
    by_cases e : a ≤ b
    · exact e
    · have := V_lt (Nat.lt_of_not_le e); omega
  · exact V_le

/-- The unit: 2 ^ -1074. -/
def u : Rat := (2 : Rat) ^ (-1074 : Int)
theorem two_ne : (2 : Rat) ≠ 0 := by decide
theorem two_pos : (0 : Rat) < 2 := by decide
theorem zp_pos (i : Int) : (0 : Rat) < (2 : Rat) ^ i := Rat.zpow_pos two_pos
theorem u_pos : 0 < u := zp_pos _
theorem zp_add (i j : Int) : (2 : Rat) ^ (i + j) = (2 : Rat) ^ i * (2 : Rat) ^ j := Rat.zpow_add two_ne i j
theorem zp_nat (n : Nat) : (2 : Rat) ^ (n : Int) = ((2 ^ n : Nat) : Rat) := by
  rw [Rat.zpow_natCast, Rat.natCast_pow]; rfl

/-- A rung's value. -/
def rv (g : Nat) : Rat := (V g : Rat) * u

theorem rv_of (p k : Nat) (h : (p = 0 ∧ k ≤ B) ∨ (B ≤ k ∧ k ≤ 2 * B)) : rv (p * B + k) = (k : Rat) * (2 : Rat) ^ ((p : Int) - 1074) := by
  unfold rv u
  rw [V_of p k h, Rat.natCast_mul, ← zp_nat, Int.sub_eq_add_neg, zp_add, Rat.mul_assoc]

theorem rv_nonneg (g : Nat) : 0 ≤ rv g := Rat.mul_nonneg Rat.natCast_nonneg (Rat.le_of_lt u_pos)

theorem rv_le_iff {a b : Nat} : rv a ≤ rv b ↔ a ≤ b := by
  rw [← V_le_iff, ← Rat.natCast_le_natCast]
  exact ⟨fun h => Rat.le_of_mul_le_mul_right h u_pos, fun h => Rat.mul_le_mul_of_nonneg_right h (Rat.le_of_lt u_pos)⟩

theorem rv_lt_iff {a b : Nat} : rv a < rv b ↔ a < b := by
  have := @rv_le_iff b a
  rw [← Rat.not_le, this]; omega

theorem rv_inj {a b : Nat} (h : rv a = rv b) : a = b := by
  have h1 := (@rv_le_iff a b).1 (by rw [h]; exact Rat.le_refl)
  have h2 := (@rv_le_iff b a).1 (by rw [h]; exact Rat.le_refl)
  omega

theorem rv_zero : rv 0 = 0 := by simp [rv, V, B_pos]

theorem rv_pos {g : Nat} (h : 0 < g) : 0 < rv g := by
  have := (@rv_lt_iff 0 g).2 h
  rwa [rv_zero] at this

/-- What the model cuts away is at most half a unit. -/
theorem cut_half (neg : Bool) (n d : Nat) :
    2 * (Toward.even.cut neg n d * 2 ^ d) ≤ 2 * n + 2 ^ d ∧ 2 * n ≤ 2 * (Toward.even.cut neg n d * 2 ^ d) + 2 ^ d := by
  unfold Toward.cut
  simp only [Nat.one_shiftLeft]
  by_cases hd : d ≤ n.log2 + 2
  · rw [Nat.min_eq_left hd]
    have h1 := Nat.div_add_mod n (2 ^ d)
    have h2 := Nat.mod_lt n (Nat.two_pow_pos d)
    generalize hq : n / 2 ^ d = q at *
    generalize hr : n % 2 ^ d = r at *
    generalize hg : 2 ^ d = G at *
    have e : q * G = G * q := Nat.mul_comm _ _
    cases hm : (decide (G < 2 * r) || (G == 2 * r && q % 2 == 1)) with
    | true =>
      have : G ≤ 2 * r := by
        simp at hm; omega
      simp only [Bool.toNat_true, Nat.add_mul, Nat.one_mul]
      omega
    | false =>
      have : 2 * r ≤ G := by
        simp at hm; omega
      simp only [Bool.toNat_false, Nat.add_zero]
      omega
  · rw [Nat.min_eq_right (by omega)]
    have h0 : n < 2 ^ (n.log2 + 1) := Nat.lt_log2_self
    have e1 : 2 ^ (n.log2 + 2) = 2 * 2 ^ (n.log2 + 1) := by rw [Nat.pow_succ _ (n.log2 + 1), Nat.mul_comm]
    have h1 : 2 ^ (n.log2 + 2) ≤ 2 ^ d := Nat.pow_le_pow_right (by omega) (by omega)
    rw [Nat.div_eq_of_lt (by omega), Nat.mod_eq_of_lt (by omega)]
    have hm : (decide (2 ^ (n.log2 + 2) < 2 * n) || (2 ^ (n.log2 + 2) == 2 * n && 0 % 2 == 1)) = false := by
      simp; omega
    rw [hm]
    simp
    omega

/-- The rung nearest to 'mag * 2 ^ place', not yet held below infinity: 'p' binades up, and there the number's leading digits, made whole. -/
def near (neg : Bool) (mag : Nat) (place : Int) : Nat :=
  let p : Nat := (place + mag.log2 + 1022).toNat
  p * B + Toward.even.cut neg (mag * 2 ^ (place + 1074 - p).toNat) (p - 1074 - place).toNat

theorem nearest_eq (neg : Bool) (mag : Nat) (place : Int) (h : mag ≠ 0) :
    double.nearest neg mag place = double.word neg (min (near neg mag place) INF) := by
  unfold Format.nearest near
  rw [if_neg h]
  have e1 : double.leastPlace = -1074 := by decide
  have e2 : double.binade = B := by decide
  have e3 : double.infRung = INF := by decide
  have e4 : (double.fractionBits : Int) = 52 := rfl
  simp only [e1, e2, e3, e4, Nat.shiftLeft_eq]
  generalize mag.log2 = L
  obtain ⟨p, hp⟩ : ∃ p : Nat, p = (place + L + 1022).toNat := ⟨_, rfl⟩
  have e5 : max (place + L - 52) (-1074) = (p : Int) - 1074 := by omega
  rw [e5, ← hp, show ((p : Int) - 1074 - -1074).toNat = p from by omega, show place - ((p : Int) - 1074) = place + 1074 - p from by omega]

/-- How a rung stands to the number that was rounded to it. -/
structure Near (v : Rat) (g : Nat) : Prop where
  up : ∀ h, v ≤ rv h → g ≤ h
  lo : ∀ h, rv h ≤ v → h ≤ g
  mu : ∀ h, 2 * v < rv h + rv (h + 1) → g ≤ h
  ml : ∀ h, rv h + rv (h + 1) < 2 * v → h + 1 ≤ g
  errU : rv g ≤ v + (v * (2 : Rat) ^ (-53 : Int) + (2 : Rat) ^ (-1075 : Int))
  errL : v ≤ rv g + (v * (2 : Rat) ^ (-53 : Int) + (2 : Rat) ^ (-1075 : Int))


theorem half_of_B {D v : Rat} (h : (B : Rat) * D ≤ v) : D ≤ 2 * (v * (2 : Rat) ^ (-53 : Int)) := by
  have e1 : (B : Rat) * (2 : Rat) ^ (-53 : Int) = 1 / 2 := by decide +kernel
  have h4 := Rat.mul_le_mul_of_nonneg_right h (Rat.le_of_lt (zp_pos (-53)))
  have e2 : (B : Rat) * D * (2 : Rat) ^ (-53 : Int) = D * ((B : Rat) * (2 : Rat) ^ (-53 : Int)) := by
    rw [Rat.mul_comm (B : Rat) D, Rat.mul_assoc]
  rw [e2, e1] at h4
  generalize v * (2 : Rat) ^ (-53 : Int) = x at *
  grind

theorem near_spec (neg : Bool) (mag : Nat) (place : Int) (h : mag ≠ 0) :
    Near ((mag : Rat) * (2 : Rat) ^ place) (near neg mag place) := by
  have hB := B_pos
  have hBe := B_eq
  have hL1 : 2 ^ mag.log2 ≤ mag := Nat.log2_self_le h
  have hL2 : mag < 2 ^ (mag.log2 + 1) := Nat.lt_log2_self
  unfold near
  generalize mag.log2 = L at *
  obtain ⟨last, hlast⟩ : ∃ last, last = max (place + L - 52) (-1074) := ⟨_, rfl⟩
  obtain ⟨p, hp0⟩ : ∃ p : Nat, p = (place + L + 1022).toNat := ⟨_, rfl⟩
  obtain ⟨a, ha0⟩ : ∃ a : Nat, a = (place + 1074 - p).toNat := ⟨_, rfl⟩
  obtain ⟨d, hd0⟩ : ∃ d : Nat, d = ((p : Int) - 1074 - place).toNat := ⟨_, rfl⟩
  simp only [← hp0, ← ha0, ← hd0]
  have hp : p = (last + 1074).toNat := by omega
  have ha : a = (place - last).toNat := by omega
  have hd : d = (last - place).toNat := by omega
  clear hp0 ha0 hd0
  have hpl : last = (p : Int) - 1074 := by omega
  have had : (a : Int) - d = place - last := by omega
  have hc := cut_half neg (mag * 2 ^ a) d
  generalize hk : Toward.even.cut neg (mag * 2 ^ a) d = k at *
  have hG : 0 < 2 ^ d := Nat.two_pow_pos d
  -- the range of k
  have hrange : (B * 2 ^ d ≤ mag * 2 ^ a ∧ B ≤ k ∧ k ≤ 2 * B) ∨ (p = 0 ∧ k ≤ B) := by
    by_cases hcase : place + L - 52 < -1074
    · refine Or.inr ⟨by omega, ?_⟩
      have h1 : mag * 2 ^ a < 2 ^ (52 + d) := by
        calc mag * 2 ^ a < 2 ^ (L + 1) * 2 ^ a := Nat.mul_lt_mul_of_pos_right hL2 (Nat.two_pow_pos a)
          _ = 2 ^ (L + 1 + a) := by rw [← Nat.pow_add]
          _ ≤ 2 ^ (52 + d) := Nat.pow_le_pow_right (by omega) (by omega)
      rw [Nat.pow_add, ← hBe] at h1
      by_cases hkB : k ≤ B
      · exact hkB
      · have h3 : (B + 1) * 2 ^ d ≤ k * 2 ^ d := Nat.mul_le_mul_right _ (by omega)
        rw [Nat.add_mul] at h3
        omega
    · left
      have h1 : mag * 2 ^ a < 2 ^ (53 + d) := by
        calc mag * 2 ^ a < 2 ^ (L + 1) * 2 ^ a := Nat.mul_lt_mul_of_pos_right hL2 (Nat.two_pow_pos a)
          _ = 2 ^ (L + 1 + a) := by rw [← Nat.pow_add]
          _ ≤ 2 ^ (53 + d) := Nat.pow_le_pow_right (by omega) (by omega)
      have h2 : 2 ^ (52 + d) ≤ mag * 2 ^ a := by
        calc 2 ^ (52 + d) = 2 ^ (L + a) := by congr 1; omega
          _ = 2 ^ L * 2 ^ a := by rw [← Nat.pow_add]
          _ ≤ mag * 2 ^ a := Nat.mul_le_mul_right _ hL1
      have e53 : 2 ^ (53 + d) = 2 * (B * 2 ^ d) := by rw [hBe, ← Nat.pow_add, show 53 + d = 52 + d + 1 from by omega, Nat.pow_succ]; omega
      rw [Nat.pow_add, ← hBe] at h2
      rw [e53] at h1
      refine ⟨h2, ?_, ?_⟩
      · by_cases hkB : B ≤ k
        · exact hkB
        · have h3 : (k + 1) * 2 ^ d ≤ B * 2 ^ d := Nat.mul_le_mul_right _ (by omega)
          rw [Nat.add_mul] at h3
          omega
      · by_cases hkB : k ≤ 2 * B
        · exact hkB
        · have h3 : (2 * B + 1) * 2 ^ d ≤ k * 2 ^ d := Nat.mul_le_mul_right _ (by omega)
          rw [Nat.add_mul, Nat.mul_assoc] at h3
          omega
  -- over the rationals
  have hs : (0 : Rat) < (2 : Rat) ^ (last - d) := zp_pos _
  have hD : (0 : Rat) < (2 : Rat) ^ last := zp_pos _
  have eD : ((2 ^ d : Nat) : Rat) * (2 : Rat) ^ (last - d) = (2 : Rat) ^ last := by
    rw [← zp_nat, ← zp_add]; congr 1; omega
  have eV : ((mag * 2 ^ a : Nat) : Rat) * (2 : Rat) ^ (last - d) = (mag : Rat) * (2 : Rat) ^ place := by
    rw [Rat.natCast_mul, Rat.mul_assoc, ← zp_nat, ← zp_add]; congr 2; omega
  have c1 : 2 * ((k : Rat) * (2 : Rat) ^ last) ≤ 2 * ((mag : Rat) * (2 : Rat) ^ place) + (2 : Rat) ^ last := by
    have h1 : ((2 * (k * 2 ^ d) : Nat) : Rat) ≤ ((2 * (mag * 2 ^ a) + 2 ^ d : Nat) : Rat) := Rat.natCast_le_natCast.2 hc.1
    have h2 := Rat.mul_le_mul_of_nonneg_right h1 (Rat.le_of_lt hs)
    have e1 : ((2 * (k * 2 ^ d) : Nat) : Rat) * (2 : Rat) ^ (last - d) = 2 * ((k : Rat) * (2 : Rat) ^ last) := by
      rw [← eD, Rat.natCast_mul, Rat.natCast_mul]; simp only [Rat.natCast_ofNat]; grind
    have e2 : ((2 * (mag * 2 ^ a) + 2 ^ d : Nat) : Rat) * (2 : Rat) ^ (last - d) = 2 * ((mag : Rat) * (2 : Rat) ^ place) + (2 : Rat) ^ last := by
      rw [← eD, ← eV, Rat.natCast_add, Rat.natCast_mul 2]; simp only [Rat.natCast_ofNat]; grind
    rwa [e1, e2] at h2
  have c2 : 2 * ((mag : Rat) * (2 : Rat) ^ place) ≤ 2 * ((k : Rat) * (2 : Rat) ^ last) + (2 : Rat) ^ last := by
    have h1 : ((2 * (mag * 2 ^ a) : Nat) : Rat) ≤ ((2 * (k * 2 ^ d) + 2 ^ d : Nat) : Rat) := Rat.natCast_le_natCast.2 hc.2
    have h2 := Rat.mul_le_mul_of_nonneg_right h1 (Rat.le_of_lt hs)
    have e1 : ((2 * (k * 2 ^ d) + 2 ^ d : Nat) : Rat) * (2 : Rat) ^ (last - d) = 2 * ((k : Rat) * (2 : Rat) ^ last) + (2 : Rat) ^ last := by
      rw [← eD, Rat.natCast_add, Rat.natCast_mul, Rat.natCast_mul]; simp only [Rat.natCast_ofNat]; grind
    have e2 : ((2 * (mag * 2 ^ a) : Nat) : Rat) * (2 : Rat) ^ (last - d) = 2 * ((mag : Rat) * (2 : Rat) ^ place) := by
      rw [← eV, Rat.natCast_mul 2]; simp only [Rat.natCast_ofNat]; grind
    rwa [e1, e2] at h2
  have c3 : (B * 2 ^ d ≤ mag * 2 ^ a) → (B : Rat) * (2 : Rat) ^ last ≤ (mag : Rat) * (2 : Rat) ^ place := by
    intro h0
    have h1 : ((B * 2 ^ d : Nat) : Rat) ≤ ((mag * 2 ^ a : Nat) : Rat) := Rat.natCast_le_natCast.2 h0
    have h2 := Rat.mul_le_mul_of_nonneg_right h1 (Rat.le_of_lt hs)
    rw [eV, Rat.natCast_mul, Rat.mul_assoc, eD] at h2
    exact h2
  have hv0 : (0 : Rat) ≤ (mag : Rat) * (2 : Rat) ^ place := Rat.mul_nonneg Rat.natCast_nonneg (Rat.le_of_lt (zp_pos _))
  generalize hv : (mag : Rat) * (2 : Rat) ^ place = v at *
  have hform : (p = 0 ∧ k ≤ B) ∨ (B ≤ k ∧ k ≤ 2 * B) := by omega
  have erv : rv (p * B + k) = (k : Rat) * (2 : Rat) ^ last := by rw [rv_of p k hform, hpl]
  clear hc eD eV
  have hdec : 2 ^ d > 0 := hG
  have below : ∀ g, g < p * B + k → 2 * v < rv g + rv (p * B + k) → False := by
    intro g hlt hg
    by_cases hk1 : 1 ≤ k ∧ ((p = 0 ∧ k ≤ B) ∨ (B < k))
    · have e1 : rv (p * B + (k - 1)) = ((k - 1 : Nat) : Rat) * (2 : Rat) ^ last := by rw [rv_of p (k - 1) (by omega), hpl]
      have h2 : rv g ≤ rv (p * B + (k - 1)) := rv_le_iff.2 (by omega)
      have e2 : ((k - 1 : Nat) : Rat) = (k : Rat) - 1 := by
        obtain ⟨j, rfl⟩ : ∃ j, k = j + 1 := ⟨k - 1, by omega⟩
        simp [Rat.natCast_add]; grind
      rw [e1, e2] at h2
      rw [erv] at hg
      grind
    · have hkB : k = B ∧ 0 < p ∨ k = 0 ∧ p = 0 := by omega
      rcases hkB with ⟨rfl, hp0⟩ | ⟨rfl, rfl⟩
      · have h1 : rv g < rv (p * B + B) := rv_lt_iff.2 (by omega)
        have h3 := c3 (by omega)
        rw [erv] at h1 hg
        grind
      · omega
  have above : 2 * v ≤ rv (p * B + k) + rv (p * B + k + 1) ∧ v < rv (p * B + k + 1) := by
    have h3 : ((k : Rat) + 1) * (2 : Rat) ^ last ≤ rv (p * B + k + 1) := by
      by_cases hk2 : k < 2 * B
      · rw [Nat.add_assoc, rv_of p (k + 1) (by omega), ← hpl, Rat.natCast_add]
        exact Rat.le_refl
      · obtain rfl : k = 2 * B := by omega
        rw [show p * B + 2 * B + 1 = (p + 1) * B + (B + 1) from by rw [Nat.add_mul]; omega, rv_of (p + 1) (B + 1) (by omega)]
        rw [show ((p + 1 : Nat) : Int) - 1074 = 1 + last from by omega, zp_add, Rat.zpow_one]
        simp only [Rat.natCast_mul, Rat.natCast_add, Rat.natCast_ofNat]
        grind
    rw [erv]
    constructor <;> grind
  refine ⟨?_, ?_, ?_, ?_, ?_, ?_⟩
  · intro g hg
    by_cases hlt : p * B + k ≤ g
    · exact hlt
    · have := (@rv_lt_iff g (p * B + k)).2 (by omega)
      exact (below g (by omega) (by grind)).elim
  · intro g hg
    by_cases hlt : g ≤ p * B + k
    · exact hlt
    · have h2 : rv (p * B + k + 1) ≤ rv g := rv_le_iff.2 (by omega)
      have := above.2
      grind
  · intro g hg
    by_cases hlt : p * B + k ≤ g
    · exact hlt
    · have h2 : rv (g + 1) ≤ rv (p * B + k) := rv_le_iff.2 (by omega)
      exact (below g (by omega) (by grind)).elim
  · intro g hg
    by_cases hlt : g + 1 ≤ p * B + k
    · exact hlt
    · have h2 : rv (p * B + k) ≤ rv g := rv_le_iff.2 (by omega)
      have h3 : rv (p * B + k + 1) ≤ rv (g + 1) := rv_le_iff.2 (by omega)
      have := above.1
      grind
  · rw [erv]
    rcases hrange with ⟨h0, h1, h2⟩ | ⟨h1, h2⟩
    · have h3 := c3 h0
      have h4 := half_of_B h3
      have h5 := zp_pos (-1075)
      clear erv
      generalize v * (2 : Rat) ^ (-53 : Int) = x at *
      generalize (2 : Rat) ^ (-1075 : Int) = y at *
      generalize (k : Rat) * (2 : Rat) ^ last = z at *
      grind
    · have e1 : (2 : Rat) ^ last = 2 * (2 : Rat) ^ (-1075 : Int) := by
        rw [hpl, h1, show ((0 : Nat) : Int) - 1074 = 1 + (-1075) from by omega, zp_add, Rat.zpow_one]
      have h4 := Rat.mul_nonneg hv0 (Rat.le_of_lt (zp_pos (-53)))
      grind
  · rw [erv]
    rcases hrange with ⟨h0, h1, h2⟩ | ⟨h1, h2⟩
    · have h3 := c3 h0
      have h4 := half_of_B h3
      have h5 := zp_pos (-1075)
      clear erv
      generalize v * (2 : Rat) ^ (-53 : Int) = x at *
      generalize (2 : Rat) ^ (-1075 : Int) = y at *
      generalize (k : Rat) * (2 : Rat) ^ last = z at *
      grind
    · have e1 : (2 : Rat) ^ last = 2 * (2 : Rat) ^ (-1075 : Int) := by
        rw [hpl, h1, show ((0 : Nat) : Int) - 1074 = 1 + (-1075) from by omega, zp_add, Rat.zpow_one]
      have h4 := Rat.mul_nonneg hv0 (Rat.le_of_lt (zp_pos (-53)))
      grind


/-- Rounding keeps the order. -/
theorem near_mono {v1 v2 : Rat} {g1 g2 : Nat} (h1 : Near v1 g1) (h2 : Near v2 g2) (h : v1 < v2) : g1 ≤ g2 := by
  by_cases hc : g1 ≤ g2
  · exact hc
  · by_cases c1 : 2 * v1 < rv g2 + rv (g2 + 1)
    · exact h1.mu g2 c1
    · have := h2.ml g2 (by grind)
      omega

end Go.Proofs.Ytnfidnfokfgepaa.F64

/- The quotient and the root of the model give the nearest word, told by what it lies between and by how far it is off. -/
import Derived.Test.YtojjlkmeicdeeaaFloatB
set_option linter.unusedSimpArgs false
set_option linter.unusedVariables false
namespace Go.Proofs.Ytojjlkmeicdeeaa.F64
open Ieee

theorem Rnd.mono {e e' v : Rat} {z : Nat} (h : Rnd e v z) (he : e ≤ e') : Rnd e' v z := by
  refine ⟨h.wd, h.num, h.up, h.lo, fun hf => ?_⟩
  have h1 := h.err hf
  have h2 : v.abs * e ≤ v.abs * e' := Rat.mul_le_mul_of_nonneg_left he Rat.abs_nonneg
  constructor <;> grind

/-- A rung against a number of units of a place: it is a whole number of units, or far below. -/
theorem rung_units (g : Nat) (pl : Int) : (∃ a : Nat, rv g = ((2 * a : Nat) : Rat) * (2 : Rat) ^ pl) ∨ rv g ≤ ((2 * B : Nat) : Rat) * (2 : Rat) ^ pl := by
  obtain ⟨p, k, rfl, h⟩ := rung_form g
  rw [rv_of p k (by omega)]
  by_cases hp : pl + 1 ≤ (p : Int) - 1074
  · left
    refine ⟨k * 2 ^ ((p : Int) - 1074 - (pl + 1)).toNat, ?_⟩
    rw [Rat.natCast_mul, Rat.natCast_mul, ← zp_nat, Int.toNat_of_nonneg (by omega)]
    have : (2 : Rat) ^ ((p : Int) - 1074) = (2 : Rat) ^ ((p : Int) - 1074 - (pl + 1)) * ((2 : Rat) ^ (1 : Int) * (2 : Rat) ^ pl) := by
      rw [← zp_add, ← zp_add]; congr 1; omega
    rw [this, Rat.zpow_one]
    simp only [Rat.natCast_ofNat]
    grind
  · right
    have h1 : (k : Rat) ≤ ((2 * B : Nat) : Rat) := Rat.natCast_le_natCast.2 (by omega)
    have h2 : (2 : Rat) ^ ((p : Int) - 1074) ≤ (2 : Rat) ^ pl := by
      have e : (2 : Rat) ^ pl = (2 : Rat) ^ ((p : Int) - 1074) * (2 : Rat) ^ (pl - ((p : Int) - 1074)) := by
        rw [← zp_add]; congr 1; omega
      have e2 : (1 : Rat) ≤ (2 : Rat) ^ (pl - ((p : Int) - 1074)) := by
        rw [show pl - ((p : Int) - 1074) = (((pl - ((p : Int) - 1074)).toNat : Nat) : Int) from by omega, zp_nat]
        have : 1 ≤ 2 ^ (pl - ((p : Int) - 1074)).toNat := Nat.one_le_two_pow
        exact Rat.natCast_le_natCast.2 this
      have := Rat.mul_le_mul_of_nonneg_left e2 (Rat.le_of_lt (zp_pos ((p : Int) - 1074)))
      rw [e]; grind
    have h3 := Rat.mul_le_mul_of_nonneg_left h2 (show (0 : Rat) ≤ (k : Rat) from Rat.natCast_nonneg)
    have h4 := Rat.mul_le_mul_of_nonneg_right h1 (Rat.le_of_lt (zp_pos pl))
    grind

theorem nat_mul_lt {a b : Nat} {s : Rat} (hs : 0 < s) : (a : Rat) * s < (b : Rat) * s ↔ a < b := by
  rw [Rat.mul_lt_mul_right hs, Rat.natCast_lt_natCast]
theorem nat_mul_le {a b : Nat} {s : Rat} (hs : 0 < s) : (a : Rat) * s ≤ (b : Rat) * s ↔ a ≤ b := by
  rw [← Rat.not_lt, nat_mul_lt hs]; omega

theorem eps_pos : (0 : Rat) < (2 : Rat) ^ (-54 : Int) := zp_pos _

/-- What rounding a number with a last digit that only tells 'something is left' gives. -/
theorem err_sticky {S v d : Rat} {g : Nat} (hv : 0 ≤ v) (hd : d ≤ v * (2 : Rat) ^ (-54 : Int)) (h1 : S ≤ v + d) (h2 : v ≤ S + d)
    (eu : rv g ≤ S + (S * (2 : Rat) ^ (-53 : Int) + (2 : Rat) ^ (-1075 : Int))) (el : S ≤ rv g + (S * (2 : Rat) ^ (-53 : Int) + (2 : Rat) ^ (-1075 : Int))) :
    rv g ≤ v + (v * e52 + u) ∧ v ≤ rv g + (v * e52 + u) := by
  have k1 := zp_pos (-1075)
  have k2 := u_twice
  have a1 : (2 : Rat) ^ (-54 : Int) = 1 / 18014398509481984 := by decide +kernel
  have a2 : (2 : Rat) ^ (-53 : Int) = 1 / 9007199254740992 := by decide +kernel
  have a3 : e52 = 1 / 4503599627370496 := by unfold e52; decide +kernel
  rw [a1] at hd
  rw [a2] at eu el
  rw [a3]
  generalize (2 : Rat) ^ (-1075 : Int) = t at *
  constructor <;> grind

theorem sticky_spec {s f : Nat} {pl : Int} {v : Rat} (neg : Bool) (hf : 2 * B ≤ f)
    (h : (s = 2 * f ∧ v = ((2 * f : Nat) : Rat) * (2 : Rat) ^ pl) ∨ (s = 2 * f + 1 ∧ ((2 * f : Nat) : Rat) * (2 : Rat) ^ pl < v ∧ v < ((2 * f + 2 : Nat) : Rat) * (2 : Rat) ^ pl)) :
    (∀ g, v ≤ rv g → near neg s pl ≤ g) ∧ (∀ g, rv g ≤ v → g ≤ near neg s pl) ∧
    (rv (near neg s pl) ≤ v + (v * e52 + u) ∧ v ≤ rv (near neg s pl) + (v * e52 + u)) := by
  have hB := B_pos
  have hD := zp_pos pl
  have hn := near_spec neg s pl (by omega)
  have hlo : ((2 * f : Nat) : Rat) * (2 : Rat) ^ pl ≤ v := by
    rcases h with ⟨_, h⟩ | ⟨_, h, _⟩
    · rw [h]; exact Rat.le_refl
    · exact Rat.le_of_lt h
  have hfar : ((2 * B : Nat) : Rat) * (2 : Rat) ^ pl < ((2 * f : Nat) : Rat) * (2 : Rat) ^ pl := (nat_mul_lt hD).2 (by omega)
  refine ⟨?_, ?_, ?_⟩
  · intro g hg
    refine hn.up g ?_
    rcases rung_units g pl with ⟨a, ha⟩ | ha
    · rcases h with ⟨rfl, hv⟩ | ⟨rfl, h1, h2⟩
      · rw [← hv]; exact hg
      · rw [ha] at hg ⊢
        have : 2 * f < 2 * a := (nat_mul_lt hD).1 (by grind)
        exact (nat_mul_le hD).2 (by omega)
    · exfalso; grind
  · intro g hg
    refine hn.lo g ?_
    rcases rung_units g pl with ⟨a, ha⟩ | ha
    · rcases h with ⟨rfl, hv⟩ | ⟨rfl, h1, h2⟩
      · rw [← hv]; exact hg
      · rw [ha] at hg ⊢
        have : 2 * a < 2 * f + 2 := (nat_mul_lt hD).1 (by grind)
        exact (nat_mul_le hD).2 (by omega)
    · have h3 : ((2 * f : Nat) : Rat) * (2 : Rat) ^ pl ≤ (s : Rat) * (2 : Rat) ^ pl := (nat_mul_le hD).2 (by omega)
      grind
  · have hv0 : 0 ≤ v := by
      have : (0 : Rat) ≤ ((2 * f : Nat) : Rat) * (2 : Rat) ^ pl := Rat.mul_nonneg Rat.natCast_nonneg (Rat.le_of_lt hD)
      grind
    have hd : (2 : Rat) ^ pl ≤ v * (2 : Rat) ^ (-54 : Int) := by
      have h4 : ((4 * B : Nat) : Rat) * (2 : Rat) ^ pl ≤ v := by
        have := (nat_mul_le (a := 4 * B) (b := 2 * f) hD).2 (by omega)
        grind
      have h5 := Rat.mul_le_mul_of_nonneg_right h4 (Rat.le_of_lt eps_pos)
      have e1 : ((4 * B : Nat) : Rat) * (2 : Rat) ^ (-54 : Int) = 1 := by decide +kernel
      have e2 : ((4 * B : Nat) : Rat) * (2 : Rat) ^ pl * (2 : Rat) ^ (-54 : Int) = (2 : Rat) ^ pl * (((4 * B : Nat) : Rat) * (2 : Rat) ^ (-54 : Int)) := by
        generalize (2 : Rat) ^ (-54 : Int) = z; grind
      rw [e2, e1, Rat.mul_one] at h5
      exact h5
    refine err_sticky (S := (s : Rat) * (2 : Rat) ^ pl) (d := (2 : Rat) ^ pl) hv0 hd ?_ ?_ hn.errU hn.errL
    · rcases h with ⟨rfl, hv⟩ | ⟨rfl, h1, h2⟩
      · rw [← hv]; grind
      · have : ((2 * f + 1 : Nat) : Rat) * (2 : Rat) ^ pl = ((2 * f : Nat) : Rat) * (2 : Rat) ^ pl + (2 : Rat) ^ pl := by
          rw [Rat.natCast_add]; simp [Rat.add_mul]
        rw [this]; grind
    · rcases h with ⟨rfl, hv⟩ | ⟨rfl, h1, h2⟩
      · rw [← hv]; grind
      · have : ((2 * f + 2 : Nat) : Rat) * (2 : Rat) ^ pl = ((2 * f + 1 : Nat) : Rat) * (2 : Rat) ^ pl + (2 : Rat) ^ pl := by
          rw [show 2 * f + 2 = 2 * f + 1 + 1 from rfl, Rat.natCast_add (2 * f + 1)]; simp [Rat.add_mul]
        rw [this] at h2; grind

theorem e53_le : e53 ≤ e52 := by unfold e53 e52; decide +kernel

/-- '/'. -/
theorem div_rnd {x y : Nat} (hx : Fi x) (hy : Fi y) (h0 : rg y ≠ 0) : ∃ z, double.div x y = some z ∧ Rnd e52 (val x / val y) z ∧ sg z = (sg x ^^ sg y) := by
  obtain ⟨m, p, e1, e2, em, _, ez⟩ := read_fin hx
  obtain ⟨n, q, f1, f2, fm, _, fz⟩ := read_fin hy
  have hn : n ≠ 0 := fun h => h0 (fz.1 h)
  have hBe := B_eq
  have ev : ∀ M : Rat, M = ((m : Rat) / (n : Rat)) * (2 : Rat) ^ (p - q) → pm (sg x ^^ sg y) * M = val x / val y := by
    intro M hM
    rw [hM, val_pm, val_pm, ← e2, ← f2, Int.sub_eq_add_neg, zp_add, Rat.zpow_neg]
    have hq := zp_pos q
    have hnr : (0 : Rat) < (n : Rat) := Rat.natCast_pos.2 (by omega)
    generalize (2 : Rat) ^ q = Q at *
    generalize (2 : Rat) ^ p = P at *
    unfold pm
    have i1 : (-1 * ((n : Rat) * Q))⁻¹ = -((n : Rat)⁻¹ * Q⁻¹) := by
      have : -1 * ((n : Rat) * Q) * (-((n : Rat)⁻¹ * Q⁻¹)) = 1 := by
        have := Rat.mul_inv_cancel Q (Rat.ne_of_gt hq)
        have := Rat.mul_inv_cancel (n : Rat) (Rat.ne_of_gt hnr)
        grind
      exact Rat.inv_eq_of_mul_eq_one this
    have i2 : (1 * ((n : Rat) * Q))⁻¹ = ((n : Rat)⁻¹ * Q⁻¹) := by
      have : 1 * ((n : Rat) * Q) * (((n : Rat)⁻¹ * Q⁻¹)) = 1 := by
        have := Rat.mul_inv_cancel Q (Rat.ne_of_gt hq)
        have := Rat.mul_inv_cancel (n : Rat) (Rat.ne_of_gt hnr)
        grind
      exact Rat.inv_eq_of_mul_eq_one this
    rw [Rat.div_def, Rat.div_def]
    cases sg x <;> cases sg y <;> simp only [Bool.xor_false, Bool.xor_true, Bool.false_xor, Bool.true_xor, Bool.not_true, Bool.not_false, if_true, if_false, Bool.false_eq_true, reduceIte] <;> (first | rw [i1] | rw [i2]) <;> grind
  unfold Format.div
  rw [e1, f1]
  simp only [Datum.quotient, if_neg hn]
  rw [show double.fractionBits + 2 = 54 from rfl]
  simp only [Option.map_some, Format.write]
  by_cases hm : m = 0
  · subst hm
    refine ⟨_, rfl, ?_, nearest_sg _ _ _⟩
    have : 2 * ((0 : Nat) <<< (54 + n.log2 - Nat.log2 0) / n) + ((0 : Nat) <<< (54 + n.log2 - Nat.log2 0) % n != 0).toNat = 0 := by simp
    rw [this]
    have hr := (nearest_rnd (sg x ^^ sg y) 0 (p - q - ((54 + n.log2 - Nat.log2 0 : Nat) : Int) - 1)).mono e53_le
    rw [ev _ (by simp [Rat.div_def])] at hr
    exact hr
  · obtain ⟨k, hk⟩ : ∃ k, k = 54 + n.log2 - m.log2 := ⟨_, rfl⟩
    rw [← hk, Nat.shiftLeft_eq]
    obtain ⟨f, hf⟩ : ∃ f, f = m * 2 ^ k / n := ⟨_, rfl⟩
    obtain ⟨s, hs⟩ : ∃ s, s = 2 * (m * 2 ^ k / n) + (m * 2 ^ k % n != 0).toNat := ⟨_, rfl⟩
    rw [← hs]
    have hdm := Nat.div_add_mod (m * 2 ^ k) n
    have hml := Nat.mod_lt (m * 2 ^ k) (Nat.pos_of_ne_zero hn)
    have lm : m.log2 ≤ 52 := by
      have h1 := Nat.log2_self_le hm
      by_cases h2 : m.log2 ≤ 52
      · exact h2
      · have : 2 ^ 53 ≤ 2 ^ m.log2 := Nat.pow_le_pow_right (by omega) (by omega)
        omega
    have hfb : 2 * B ≤ f := by
      rw [hf, Nat.le_div_iff_mul_le (Nat.pos_of_ne_zero hn)]
      have h1 := Nat.log2_self_le hm
      have h2 : n < 2 ^ (n.log2 + 1) := Nat.lt_log2_self
      calc 2 * B * n ≤ 2 * B * 2 ^ (n.log2 + 1) := Nat.mul_le_mul_left _ (Nat.le_of_lt h2)
        _ = 2 ^ 53 * 2 ^ (n.log2 + 1) := by rw [hBe]
        _ = 2 ^ (m.log2 + k) := by rw [← Nat.pow_add]; congr 1; omega
        _ = 2 ^ m.log2 * 2 ^ k := by rw [Nat.pow_add]
        _ ≤ m * 2 ^ k := Nat.mul_le_mul_right _ h1
    have hpl := zp_pos (p - q - (k : Int) - 1)
    have hnr : (0 : Rat) < (n : Rat) := Rat.natCast_pos.2 (by omega)
    have evv : ((m : Rat) / (n : Rat)) * (2 : Rat) ^ (p - q) = (((2 * (m * 2 ^ k) : Nat) : Rat) / (n : Rat)) * (2 : Rat) ^ (p - q - (k : Int) - 1) := by
      rw [Rat.natCast_mul, Rat.natCast_mul, ← zp_nat]
      have e : (2 : Rat) ^ (p - q) = (2 : Rat) ^ (k : Int) * ((2 : Rat) ^ (1 : Int) * (2 : Rat) ^ (p - q - (k : Int) - 1)) := by
        rw [← zp_add, ← zp_add]; congr 1; omega
      rw [e, Rat.zpow_one, Rat.div_def, Rat.div_def]
      simp only [Rat.natCast_ofNat]
      grind
    -- the quotient between two whole numbers of units
    have key : ∀ (a b : Nat), b * n < 2 * (m * 2 ^ k) → ((b : Rat)) * (2 : Rat) ^ (p - q - (k : Int) - 1) < (((2 * (m * 2 ^ k) : Nat) : Rat) / (n : Rat)) * (2 : Rat) ^ (p - q - (k : Int) - 1) := by
      intro a b hb
      refine (Rat.mul_lt_mul_right hpl).2 ((Rat.lt_div_iff hnr).2 ?_)
      rw [← Rat.natCast_mul]; exact Rat.natCast_lt_natCast.2 hb
    have key2 : ∀ (b : Nat), 2 * (m * 2 ^ k) < b * n → (((2 * (m * 2 ^ k) : Nat) : Rat) / (n : Rat)) * (2 : Rat) ^ (p - q - (k : Int) - 1) < ((b : Rat)) * (2 : Rat) ^ (p - q - (k : Int) - 1) := by
      intro b hb
      refine (Rat.mul_lt_mul_right hpl).2 ((Rat.div_lt_iff hnr).2 ?_)
      rw [← Rat.natCast_mul]; exact Rat.natCast_lt_natCast.2 hb
    have hst := sticky_spec (s := s) (f := f) (pl := p - q - (k : Int) - 1) (v := ((m : Rat) / (n : Rat)) * (2 : Rat) ^ (p - q)) (sg x ^^ sg y) hfb (by
      rw [evv]
      have hc : m * 2 ^ k = f * n + m * 2 ^ k % n := by rw [hf, Nat.mul_comm (m * 2 ^ k / n) n]; exact hdm.symm
      by_cases hr : m * 2 ^ k % n = 0
      · left
        refine ⟨by rw [hs, hr, ← hf]; rfl, ?_⟩
        rw [hr] at hc
        rw [hc, Nat.add_zero]
        congr 1
        rw [← Nat.mul_assoc, Rat.natCast_mul (2 * f) n, Rat.mul_div_cancel (Rat.ne_of_gt hnr)]
      · right
        refine ⟨?_, key 0 _ ?_, key2 _ ?_⟩
        · rw [hs, ← hf]
          have : (m * 2 ^ k % n != 0) = true := by simpa using hr
          rw [this]; rfl
        · rw [Nat.mul_assoc]; omega
        · rw [Nat.add_mul, Nat.mul_assoc]; omega)
    have hv0 : 0 ≤ ((m : Rat) / (n : Rat)) * (2 : Rat) ^ (p - q) := by
      refine Rat.mul_nonneg ?_ (Rat.le_of_lt (zp_pos _))
      rw [Rat.div_def]
      exact Rat.mul_nonneg Rat.natCast_nonneg (Rat.le_of_lt (Rat.inv_pos.2 hnr))
    have hB := B_pos
    have hsn : s ≠ 0 := by rw [hs, ← hf]; omega
    refine ⟨_, rfl, ?_, nearest_sg _ _ _⟩
    rw [nearest_eq _ _ _ hsn, ← ev _ rfl]
    exact rnd_of_near _ hv0 hst.1 hst.2.1 hst.2.2.1 hst.2.2.2

/-- The digits of a root, tried one by one. -/
theorem rootFrom_spec (n : Nat) : ∀ (t r : Nat), r * r ≤ n → n < (r + 2 ^ t) * (r + 2 ^ t) →
    Datum.rootFrom n t r * Datum.rootFrom n t r ≤ n ∧ n < (Datum.rootFrom n t r + 1) * (Datum.rootFrom n t r + 1) := by
  intro t
  induction t with
  | zero => intro r h1 h2; simpa [Datum.rootFrom] using ⟨h1, h2⟩
  | succ t ih =>
    intro r h1 h2
    unfold Datum.rootFrom
    simp only [Nat.shiftLeft_eq, Nat.one_mul]
    by_cases h : (r + 2 ^ t) * (r + 2 ^ t) ≤ n
    · rw [if_pos h]
      refine ih _ h ?_
      rw [show r + 2 ^ t + 2 ^ t = r + 2 ^ (t + 1) from by rw [Nat.pow_succ]; omega]
      exact h2
    · rw [if_neg h]
      exact ih _ h1 (by omega)

theorem root_whole (n : Nat) : Datum.rootFrom n (n.log2 / 2 + 1) 0 * Datum.rootFrom n (n.log2 / 2 + 1) 0 ≤ n ∧ n < (Datum.rootFrom n (n.log2 / 2 + 1) 0 + 1) * (Datum.rootFrom n (n.log2 / 2 + 1) 0 + 1) := by
  refine rootFrom_spec n _ 0 (by omega) ?_
  have h1 : n < 2 ^ (n.log2 + 1) := Nat.lt_log2_self
  have h2 : 2 ^ (n.log2 + 1) ≤ 2 ^ ((n.log2 / 2 + 1) + (n.log2 / 2 + 1)) := Nat.pow_le_pow_right (by omega) (by omega)
  rw [Nat.pow_add 2 (n.log2 / 2 + 1)] at h2
  rw [Nat.zero_add]
  omega

theorem sq_lt {a b : Nat} (h : a * a < b * b) : a < b := by
  by_cases h1 : a < b
  · exact h1
  · exact absurd (Nat.mul_le_mul (Nat.le_of_not_lt h1) (Nat.le_of_not_lt h1)) (by omega)
theorem sq_le {a b : Nat} (h : a * a ≤ b * b) : a ≤ b := by
  by_cases h1 : a ≤ b
  · exact h1
  · exact absurd (Nat.mul_lt_mul_of_lt_of_lt (Nat.lt_of_not_le h1) (Nat.lt_of_not_le h1)) (by omega)

/-- What is known of a root. -/
structure Root (x z : Nat) : Prop where
  wd : Wd z
  fin : Fi z
  sgn : sg z = false
  up : ∀ c, Num c → sg c = false → val x ≤ val c * val c → val z ≤ val c
  lo : ∀ c, Num c → sg c = false → val c * val c ≤ val x → val c ≤ val z
  errU : val z * val z ≤ val x * ((1 + e52) * (1 + e52))
  errL : val x * ((1 - e52) * (1 - e52)) ≤ val z * val z


theorem mul_self_le {a b : Rat} (ha : 0 ≤ a) (h : a ≤ b) : a * a ≤ b * b := by
  have h1 := Rat.mul_le_mul_of_nonneg_left h ha
  have h2 := Rat.mul_le_mul_of_nonneg_right h (show (0 : Rat) ≤ b by grind)
  grind
theorem le_of_mul_self {a b : Rat} (hb : 0 ≤ b) (h : a * a ≤ b * b) : a ≤ b := by
  by_cases h1 : a ≤ b
  · exact h1
  · have h2 : b < a := by grind
    have h3 := Rat.mul_lt_mul_of_pos_left h2 (show (0 : Rat) < a by grind)
    have h4 := Rat.mul_le_mul_of_nonneg_left (Rat.le_of_lt h2) hb
    grind

/-- The root of a positive number. -/
theorem sqrt_rnd {x : Nat} (hx : Fi x) (hs : sg x = false) (h0 : rg x ≠ 0) : ∃ z, double.sqrt x = some z ∧ Root x z := by
  obtain ⟨m, i, e1, e2, em, ei, ez⟩ := read_fin hx
  have hm : m ≠ 0 := fun h => h0 (ez.1 h)
  have hBe := B_eq
  have hB := B_pos
  have vx : val x = (m : Rat) * (2 : Rat) ^ i := by rw [val_pm, hs, e2]; unfold pm; simp
  unfold Format.sqrt
  rw [e1, hs]
  simp only [Datum.root, if_neg hm, Bool.false_eq_true, if_false]
  rw [show double.fractionBits + 2 = 54 from rfl]
  simp only [Option.map_some, Format.write]
  have lm : m.log2 ≤ 52 := by
    have h1 := Nat.log2_self_le hm
    by_cases h2 : m.log2 ≤ 52
    · exact h2
    · have : 2 ^ 53 ≤ 2 ^ m.log2 := Nat.pow_le_pow_right (by omega) (by omega)
      omega
  obtain ⟨k, hk⟩ : ∃ k, k = 2 * 54 - m.log2 + ((i - ((2 * 54 - m.log2 : Nat) : Int)) % 2).toNat := ⟨_, rfl⟩
  rw [← hk]
  obtain ⟨h, hh⟩ : ∃ h, h = (i - (k : Int)) / 2 := ⟨_, rfl⟩
  rw [← hh]
  have hik : i = h + h + k := by omega
  have hhl : -1075 ≤ h := by omega
  have hnn : m <<< k = m * 2 ^ k := Nat.shiftLeft_eq _ _
  rw [hnn]
  have hn0 : 2 ^ 108 ≤ m * 2 ^ k := by
    have h1 := Nat.log2_self_le hm
    calc 2 ^ 108 ≤ 2 ^ (m.log2 + k) := Nat.pow_le_pow_right (by omega) (by omega)
      _ = 2 ^ m.log2 * 2 ^ k := by rw [Nat.pow_add]
      _ ≤ m * 2 ^ k := Nat.mul_le_mul_right _ h1
  have X : val x = ((m * 2 ^ k : Nat) : Rat) * ((2 : Rat) ^ h * (2 : Rat) ^ h) := by
    rw [vx, hik, zp_add, zp_add, Rat.natCast_mul, ← zp_nat]
    grind
  generalize hnv : m * 2 ^ k = n at *
  have hw := root_whole n
  generalize Datum.rootFrom n (n.log2 / 2 + 1) 0 = w at *
  have hw54 : 2 ^ 54 ≤ w := by
    by_cases hc : 2 ^ 54 ≤ w
    · exact hc
    · have : (w + 1) * (w + 1) ≤ 2 ^ 54 * 2 ^ 54 := Nat.mul_le_mul (by omega) (by omega)
      omega
  obtain ⟨s, hsd⟩ : ∃ s, s = 2 * w + (w * w != n).toNat := ⟨_, rfl⟩
  rw [← hsd]
  have hD := zp_pos h
  have hpl := zp_pos (h - 1)
  have hDp : (2 : Rat) ^ h = 2 * (2 : Rat) ^ (h - 1) := by
    rw [show h = 1 + (h - 1) from by omega, zp_add, Rat.zpow_one, show 1 + (h - 1) - 1 = h - 1 from by omega]
  have hDD : 0 < (2 : Rat) ^ h * (2 : Rat) ^ h := Rat.mul_pos hD hD
  have hcase : (w * w = n ∧ s = 2 * w) ∨ (w * w < n ∧ s = 2 * w + 1) := by
    by_cases hc : w * w = n
    · left; refine ⟨hc, ?_⟩; rw [hsd]; simp [hc]
    · right; refine ⟨by omega, ?_⟩
      have : (w * w != n) = true := by simpa using hc
      rw [hsd, this]; rfl
  have hsn : s ≠ 0 := by omega
  have hn := near_spec false s (h - 1) hsn
  -- a square against x
  have sqa : ∀ a : Nat, ((2 * a : Nat) : Rat) * (2 : Rat) ^ (h - 1) * (((2 * a : Nat) : Rat) * (2 : Rat) ^ (h - 1)) = ((a * a : Nat) : Rat) * ((2 : Rat) ^ h * (2 : Rat) ^ h) := by
    intro a; rw [hDp, Rat.natCast_mul, Rat.natCast_mul]; simp only [Rat.natCast_ofNat]; grind
  have far : ((2 * B : Nat) : Rat) * (2 : Rat) ^ (h - 1) * (((2 * B : Nat) : Rat) * (2 : Rat) ^ (h - 1)) < val x := by
    rw [sqa, X]; exact (nat_mul_lt hDD).2 (by
      have : B * B < 2 ^ 108 := by decide
      omega)
  have up : ∀ g, val x ≤ rv g * rv g → near false s (h - 1) ≤ g := by
    intro g hg
    refine hn.up g ?_
    rcases rung_units g (h - 1) with ⟨a, ha⟩ | ha
    · rw [ha] at hg ⊢
      rw [sqa, X] at hg
      have h1 := (nat_mul_le hDD).1 hg
      refine (nat_mul_le hpl).2 ?_
      rcases hcase with ⟨c1, c2⟩ | ⟨c1, c2⟩
      · have := sq_le (a := w) (b := a) (by omega); omega
      · have := sq_lt (a := w) (b := a) (by omega); omega
    · exfalso
      have := mul_self_le (rv_nonneg g) ha
      grind
  have lo : ∀ g, rv g * rv g ≤ val x → g ≤ near false s (h - 1) := by
    intro g hg
    refine hn.lo g ?_
    rcases rung_units g (h - 1) with ⟨a, ha⟩ | ha
    · rw [ha] at hg ⊢
      rw [sqa, X] at hg
      have h1 := (nat_mul_le hDD).1 hg
      have : a < w + 1 := sq_lt (by omega)
      exact (nat_mul_le hpl).2 (by omega)
    · have : ((2 * B : Nat) : Rat) * (2 : Rat) ^ (h - 1) ≤ (s : Rat) * (2 : Rat) ^ (h - 1) := (nat_mul_le hpl).2 (by omega)
      grind
  rw [nearest_eq false s (h - 1) hsn]
  have hsw := inf_lt_sw
  have hmx : near false s (h - 1) ≤ INF - 1 := by
    refine up _ ?_
    have h1 : val x ≤ rv (INF - 1) := by
      rw [val_pm, hs]; unfold pm; simp
      exact rv_le_iff.2 (by unfold Fi at hx; omega)
    have h2 : (1 : Rat) ≤ rv (INF - 1) := by decide +kernel
    have h3 := Rat.mul_le_mul_of_nonneg_left h2 (rv_nonneg (INF - 1))
    grind
  have hI : (0 : Nat) < INF := by decide
  rw [Nat.min_eq_left (by omega)]
  generalize hg : near false s (h - 1) = g at *
  have hgs : g < SW := by omega
  have vz : val (double.word false g) = rv g := by rw [val_word hgs]; unfold pm; simp
  have vc : ∀ c, sg c = false → val c = rv (rg c) := fun c hc => by rw [val_pm, hc]; unfold pm; simp
  -- how far it is off
  have ht : (2 : Rat) ^ (-1075 : Int) ≤ (2 : Rat) ^ h := by
    rw [show h = (-1075) + ((h + 1075).toNat : Int) from by omega, zp_add, zp_nat]
    have : ((1 : Nat) : Rat) ≤ ((2 ^ (h + 1075).toNat : Nat) : Rat) := Rat.natCast_le_natCast.2 Nat.one_le_two_pow
    have h1 := Rat.mul_le_mul_of_nonneg_left this (Rat.le_of_lt (zp_pos (-1075)))
    rw [show ((1 : Nat) : Rat) = 1 from rfl, Rat.mul_one] at h1
    exact h1
  have hwD : ((2 ^ 54 : Nat) : Rat) * (2 : Rat) ^ h ≤ (w : Rat) * (2 : Rat) ^ h := (nat_mul_le hD).2 hw54
  have k54 : ((2 ^ 54 : Nat) : Rat) = 18014398509481984 := by decide +kernel
  have a2 : (2 : Rat) ^ (-53 : Int) = 1 / 9007199254740992 := by decide +kernel
  have a3 : e52 = 1 / 4503599627370496 := by unfold e52; decide +kernel
  have hSl : (w : Rat) * (2 : Rat) ^ h ≤ (s : Rat) * (2 : Rat) ^ (h - 1) ∧ (s : Rat) * (2 : Rat) ^ (h - 1) ≤ (w : Rat) * (2 : Rat) ^ h + (2 : Rat) ^ (h - 1) := by
    have e0 : (w : Rat) * (2 : Rat) ^ h = ((2 * w : Nat) : Rat) * (2 : Rat) ^ (h - 1) := by
      rw [hDp, Rat.natCast_mul]; simp only [Rat.natCast_ofNat]; grind
    have e1 : (w : Rat) * (2 : Rat) ^ h + (2 : Rat) ^ (h - 1) = ((2 * w + 1 : Nat) : Rat) * (2 : Rat) ^ (h - 1) := by
      rw [e0, Rat.natCast_add]; simp [Rat.add_mul]
    rw [e1, e0]
    exact ⟨(nat_mul_le hpl).2 (by omega), (nat_mul_le hpl).2 (by omega)⟩
  have hXl : (w : Rat) * (2 : Rat) ^ h * ((w : Rat) * (2 : Rat) ^ h) ≤ val x := by
    have : (w : Rat) * (2 : Rat) ^ h * ((w : Rat) * (2 : Rat) ^ h) = ((w * w : Nat) : Rat) * ((2 : Rat) ^ h * (2 : Rat) ^ h) := by
      rw [Rat.natCast_mul]; grind
    rw [this, X]; exact (nat_mul_le hDD).2 (by omega)
  have hT : ∃ T : Rat, val x ≤ T * T ∧ 0 ≤ T ∧ T * (1 - 1 / 18014398509481984) ≤ (s : Rat) * (2 : Rat) ^ (h - 1) := by
    rcases hcase with ⟨c1, c2⟩ | ⟨c1, c2⟩
    · refine ⟨(w : Rat) * (2 : Rat) ^ h, ?_, ?_, ?_⟩
      · have : (w : Rat) * (2 : Rat) ^ h * ((w : Rat) * (2 : Rat) ^ h) = ((w * w : Nat) : Rat) * ((2 : Rat) ^ h * (2 : Rat) ^ h) := by
          rw [Rat.natCast_mul]; grind
        rw [this, X]; exact (nat_mul_le hDD).2 (by omega)
      · exact Rat.mul_nonneg Rat.natCast_nonneg (Rat.le_of_lt hD)
      · have := hSl.1
        have h0 : 0 ≤ (w : Rat) * (2 : Rat) ^ h := Rat.mul_nonneg Rat.natCast_nonneg (Rat.le_of_lt hD)
        generalize (w : Rat) * (2 : Rat) ^ h = y at *
        grind
    · refine ⟨((w + 1 : Nat) : Rat) * (2 : Rat) ^ h, ?_, ?_, ?_⟩
      · have : ((w + 1 : Nat) : Rat) * (2 : Rat) ^ h * (((w + 1 : Nat) : Rat) * (2 : Rat) ^ h) = (((w + 1) * (w + 1) : Nat) : Rat) * ((2 : Rat) ^ h * (2 : Rat) ^ h) := by
          rw [Rat.natCast_mul]; grind
        rw [this, X]; exact (nat_mul_le hDD).2 (by omega)
      · exact Rat.mul_nonneg Rat.natCast_nonneg (Rat.le_of_lt hD)
      · have e0 : (s : Rat) * (2 : Rat) ^ (h - 1) = (w : Rat) * (2 : Rat) ^ h + (2 : Rat) ^ (h - 1) := by
          rw [c2, hDp, Rat.natCast_add, Rat.natCast_mul]; simp only [Rat.natCast_ofNat, show ((1 : Nat) : Rat) = 1 from rfl]; grind
        rw [e0, Rat.natCast_add, Rat.add_mul]
        rw [k54] at hwD
        rw [show ((1 : Nat) : Rat) = 1 from rfl, Rat.one_mul]
        generalize (w : Rat) * (2 : Rat) ^ h = y at *
        grind
  have eU := hn.errU
  have eL := hn.errL
  rw [a2] at eU eL
  rw [k54] at hwD
  have hrv := rv_nonneg g
  refine ⟨_, rfl, word_wd hgs, ?_, word_sg hgs, ?_, ?_, ?_, ?_⟩
  · unfold Fi; rw [word_rg hgs]; omega
  · intro c hc hsc hcc
    rw [vz, vc c hsc]; rw [vc c hsc] at hcc
    exact rv_le_iff.2 (up _ hcc)
  · intro c hc hsc hcc
    rw [vz, vc c hsc]; rw [vc c hsc] at hcc
    exact rv_le_iff.2 (lo _ hcc)
  · rw [vz]
    have h1 : rv g ≤ (w : Rat) * (2 : Rat) ^ h * (1 + e52) := by
      rw [a3]
      have := hSl.2
      generalize (s : Rat) * (2 : Rat) ^ (h - 1) = S at *
      generalize (w : Rat) * (2 : Rat) ^ h = y at *
      generalize (2 : Rat) ^ (-1075 : Int) = t at *
      grind
    have h2 := mul_self_le hrv h1
    have h3 : 0 ≤ (1 + e52) * (1 + e52) := by unfold e52; decide +kernel
    have h4 := Rat.mul_le_mul_of_nonneg_right hXl h3
    generalize (w : Rat) * (2 : Rat) ^ h = y at *
    generalize (1 + e52) = q at *
    grind
  · rw [vz]
    obtain ⟨T, t1, t2, t3⟩ := hT
    have h1 : T * (1 - e52) ≤ rv g := by
      rw [a3]
      have := hSl.1
      generalize (s : Rat) * (2 : Rat) ^ (h - 1) = S at *
      generalize (w : Rat) * (2 : Rat) ^ h = y at *
      generalize (2 : Rat) ^ (-1075 : Int) = t at *
      grind
    have h5 : 0 ≤ 1 - e52 := by unfold e52; decide +kernel
    have h2 := mul_self_le (Rat.mul_nonneg t2 h5) h1
    have h4 := Rat.mul_le_mul_of_nonneg_right t1 (Rat.mul_nonneg h5 h5)
    generalize (1 - e52) = q at *
    grind

end Go.Proofs.Ytojjlkmeicdeeaa.F64

/- From the parts by which the steps are off: the square of the root. -/
import Derived.Test.YtojjlkmeicdeeaaSqrtErr
import Derived.Test.YtojjlkmeicdeeaaNear
set_option linter.unusedSimpArgs false
set_option linter.unusedVariables false
namespace Go.Proofs.Ytojjlkmeicdeeaa
open F64

theorem mul_within {a b f g : Rat} (a1 : a ≤ f) (a2 : -f ≤ a) (b1 : b ≤ g) (b2 : -g ≤ b) : a * b ≤ f * g ∧ -(f * g) ≤ a * b := by
  have k1 := Rat.mul_nonneg (show 0 ≤ f - a by grind) (show 0 ≤ g + b by grind)
  have k2 := Rat.mul_nonneg (show 0 ≤ f + a by grind) (show 0 ≤ g - b by grind)
  have k3 := Rat.mul_nonneg (show 0 ≤ f - a by grind) (show 0 ≤ g - b by grind)
  have k4 := Rat.mul_nonneg (show 0 ≤ f + a by grind) (show 0 ≤ g + b by grind)
  constructor <;> grind

theorem Core.hup {X Y h a b : Rat} (K : Core X Y h a b) (X0 : 0 ≤ X) (Y0 : 0 ≤ Y) : h ≤ 2 * (X + Y) := by
  have xy := Rat.mul_nonneg X0 Y0
  have xx := Rat.mul_nonneg X0 X0
  have yy := Rat.mul_nonneg Y0 Y0
  refine le_of_mul_self (by grind) (Rat.le_trans K.H.2 ?_)
  grind
/-- The square of the root is near the number. -/
theorem Core.back {X Y h a b : Rat} (K : Core X Y h a b) (X0 : 0 ≤ X) (Y0 : 0 ≤ Y) (hs : 0 < h + X) :
    a * a - b * b - X ≤ (X + Y) * (1 / 35184372088832) ∧ -((X + Y) * (1 / 35184372088832)) ≤ a * a - b * b - X ∧ a * a ≤ 4 * (X + Y) ∧ b * b ≤ 4 * (X + Y) := by
  have hup := K.hup X0 Y0
  have h0 := K.h0
  obtain ⟨σ, hσ⟩ : ∃ σ, σ = (h + X) / 2 := ⟨_, rfl⟩
  obtain ⟨W, hW⟩ : ∃ W, W = a * a := ⟨_, rfl⟩
  have s0 : 0 < σ := by grind
  have KA := K.A
  rw [← hσ, ← hW] at KA
  obtain ⟨A1, A2⟩ := KA
  obtain ⟨H1, H2⟩ := K.H
  have C2 : Rel (Y * Y) (2 * a * b * (2 * a * b)) (9 / 9007199254740992) := K.C.mul K.C Y0 Y0 (by decide +kernel) (by decide +kernel) (by decide +kernel) (by decide +kernel) (by decide +kernel)
  rw [show 2 * a * b * (2 * a * b) = 4 * W * (b * b) from by rw [hW]; grind] at C2
  obtain ⟨C1, C2⟩ := C2
  have xx := Rat.mul_nonneg X0 X0
  have yy := Rat.mul_nonneg Y0 Y0
  have ss := Rat.mul_pos s0 s0
  have W0 : 0 < W := by
    rw [hW]; exact Rat.mul_pos K.a0 K.a0
  -- N against σ
  have hN : X * X + Y * Y ≤ 5 * (σ * σ) := by
    have k := mul_self_le h0 (show h ≤ 2 * σ by grind)
    grind
  obtain ⟨m1, m2⟩ := mul_within (a := W - σ) (b := W + σ - X) (f := 8 / 9007199254740992 * σ) (g := 5 * σ) (by grind) (by grind) (by grind) (by grind)
  have e1 : 4 * W * (W - b * b - X) = 4 * ((W - σ) * (W + σ - X)) + 4 * (σ * (σ - X)) - 4 * W * (b * b) := by grind
  have e2 : 4 * (σ * (σ - X)) = h * h - X * X := by rw [hσ]; grind
  rw [e2] at e1
  have T : 4 * W * (W - b * b - X) ≤ 260 / 9007199254740992 * (σ * σ) ∧ -(260 / 9007199254740992 * (σ * σ)) ≤ 4 * W * (W - b * b - X) := by
    rw [e1]; constructor <;> grind
  have sW : σ ≤ 2 * W := by grind
  have k5 := Rat.mul_le_mul_of_nonneg_left sW (Rat.le_of_lt s0)
  have T2 : W - b * b - X ≤ 130 / 9007199254740992 * σ := by
    refine Rat.not_lt.1 fun hc => ?_
    have k := Rat.mul_lt_mul_of_pos_left hc (show 0 < 4 * W by grind)
    grind
  have T3 : -(130 / 9007199254740992 * σ) ≤ W - b * b - X := by
    refine Rat.not_lt.1 fun hc => ?_
    have k := Rat.mul_lt_mul_of_pos_left hc (show 0 < 4 * W by grind)
    grind
  rw [← hW]
  refine ⟨?_, ?_, ?_, ?_⟩ <;> grind

theorem Rnd_within {v M : Rat} {z : Nat} (R : Rnd e53 v z) (h1 : v ≤ M) (h2 : -M ≤ v) (hM : M ≤ 1267650600228229401496703205376) : Fi z ∧ val z - v ≤ M * (1 / 9007199254740992) + 1 / 1267650600228229401496703205376 ∧ -(M * (1 / 9007199254740992) + 1 / 1267650600228229401496703205376) ≤ val z - v := by
  have hB := MAXF_big
  have fz : Fi z := R.fin (by grind) (by grind)
  obtain ⟨e1, e2⟩ := R.err fz
  rw [k53] at e1 e2
  have hu := u_small
  have ha : v.abs ≤ M := by
    by_cases h : 0 ≤ v
    · rw [Rat.abs_of_nonneg h]; exact h1
    · rw [Rat.abs_of_nonpos (by grind)]; grind
  have k := Rat.mul_le_mul_of_nonneg_right ha (show (0 : Rat) ≤ 1 / 9007199254740992 by decide +kernel)
  exact ⟨fz, by grind, by grind⟩
theorem fsub_rnd {x y : Nat} (fx : Fi x) (fy : Fi y) (wy : Wd y) : ∃ z, fsub x y = some z ∧ Rnd e53 (val x - val y) z := by
  obtain ⟨d, e, R, _, _⟩ := add_rnd fx (negw_fin wy fy)
  rw [negw_val wy] at R
  refine ⟨d, by unfold fsub; rw [sub_eq_add wy]; exact e, ?_⟩
  rw [show val x - val y = val x + -(val y) from by grind]; exact R
/-- The steps of the test, from the values. -/
theorem back_words {x y a b M : Nat} {S : Rat} (wx : Wd x) (wy : Wd y) (wa : Wd a) (wb : Wd b) (fx : Fi x) (fy : Fi y) (fa : Fi a) (fb : Fi b) (wM : Wd M) (nM : Num M) (sM : sg M = false)
    (vM : val M = S * (1 / 1099511627776)) (S1 : 1 ≤ S) (S2 : S ≤ 4194304)
    (p1 : val a * val a - val b * val b - val x ≤ S * (1 / 35184372088832)) (p2 : -(S * (1 / 35184372088832)) ≤ val a * val a - val b * val b - val x)
    (q1 : 2 * val a * val b - val y ≤ S * (1 / 35184372088832)) (q2 : -(S * (1 / 35184372088832)) ≤ 2 * val a * val b - val y)
    (ba : val a * val a ≤ 4 * S) (bb : val b * val b ≤ 4 * S) :
    ∃ aa bb dd ee a2 ab ff, fmul a a = some aa ∧ fmul b b = some bb ∧ fsub aa bb = some dd ∧ fsub dd x = some ee ∧ Wd ee ∧ fle (sizeW ee) M = true ∧
      fmul 4611686018427387904 a = some a2 ∧ fmul a2 b = some ab ∧ fsub ab y = some ff ∧ Wd ff ∧ fle (sizeW ff) M = true := by
  have aa0 : 0 ≤ val a * val a := by have := mul_self_le (show (0:Rat) ≤ 0 by decide) (show (0:Rat) ≤ 0 by decide); by_cases h : 0 ≤ val a
                                     · exact Rat.mul_nonneg h h
                                     · have := Rat.mul_nonneg (show 0 ≤ -(val a) by grind) (show 0 ≤ -(val a) by grind); grind
  have bb0 : 0 ≤ val b * val b := by by_cases h : 0 ≤ val b
                                     · exact Rat.mul_nonneg h h
                                     · have := Rat.mul_nonneg (show 0 ≤ -(val b) by grind) (show 0 ≤ -(val b) by grind); grind
  obtain ⟨aa, e1, R1, _⟩ := mul_rnd fa fa
  obtain ⟨f1, u1, l1⟩ := Rnd_within (M := 4 * S) R1 ba (by grind) (by grind)
  obtain ⟨bb', e2, R2, _⟩ := mul_rnd fb fb
  obtain ⟨f2, u2, l2⟩ := Rnd_within (M := 4 * S) R2 bb (by grind) (by grind)
  obtain ⟨dd, e3, R3⟩ := fsub_rnd f1 f2 R2.wd
  obtain ⟨f3, u3, l3⟩ := Rnd_within (M := 5 * S) R3 (by grind) (by grind) (by grind)
  obtain ⟨ee, e4, w4, n4, h4⟩ := sub_size f3 fx wx nM wM sM (by rw [vM]; grind) (by rw [vM]; grind)
  -- the product
  have SS := Rat.mul_nonneg (show 0 ≤ S by grind) (show 0 ≤ S - 1 by grind)
  have a1 : val a ≤ 4 * S := le_of_mul_self (by grind) (by grind)
  have a2 : -(4 * S) ≤ val a := by
    have : -(val a) ≤ 4 * S := le_of_mul_self (by grind) (by grind)
    grind
  have b1 : val b ≤ 4 * S := le_of_mul_self (by grind) (by grind)
  have b2 : -(4 * S) ≤ val b := by
    have : -(val b) ≤ 4 * S := le_of_mul_self (by grind) (by grind)
    grind
  obtain ⟨t, e5, R5, _⟩ := mul_rnd fin_TWO fa
  rw [val_TWO] at R5
  have f5 : Fi t := R5.fin (by have := MAXF_big; grind) (by have := MAXF_big; grind)
  -- twice a number is a word
  have sq1 : ∀ p q : Rat, 2 * (p * q) ≤ p * p + q * q := by
    intro p q
    have : 0 ≤ (p - q) * (p - q) := by
      by_cases h : 0 ≤ p - q
      · exact Rat.mul_nonneg h h
      · have := Rat.mul_nonneg (show 0 ≤ -(p - q) by grind) (show 0 ≤ -(p - q) by grind); grind
    grind
  have ab1 := sq1 (val a) (val b)
  have ab2 := sq1 (-(val a)) (val b)
  obtain ⟨w1, w2⟩ := R5.err f5
  have hu := u_small
  have hu0 := u_pos
  rw [k53] at w1 w2
  obtain ⟨ab, e6, R6, _⟩ := mul_rnd f5 fb
  -- how far t*b is from 2ab
  have tb : val t * val b - 2 * val a * val b ≤ S * (1 / 281474976710656) ∧ -(S * (1 / 281474976710656)) ≤ val t * val b - 2 * val a * val b := by
    obtain ⟨c, hc⟩ : ∃ c, c = (2 * val a).abs := ⟨_, rfl⟩
    rw [← hc] at w1 w2
    have cc : c * c = 4 * (val a * val a) ∧ 0 ≤ c := by
      by_cases h : 0 ≤ 2 * val a
      · rw [hc, Rat.abs_of_nonneg h]; exact ⟨by grind, h⟩
      · rw [hc, Rat.abs_of_nonpos (by grind)]; exact ⟨by grind, by grind⟩
    obtain ⟨g, hg⟩ : ∃ g, g = val t - 2 * val a := ⟨_, rfl⟩
    have e : val t * val b - 2 * val a * val b = g * val b := by rw [hg]; grind
    rw [e]
    obtain ⟨v, hv, v0⟩ : ∃ v, v * v = val b * val b ∧ 0 ≤ v ∧ val b ≤ v ∧ -v ≤ val b := by
      by_cases h : 0 ≤ val b
      · exact ⟨val b, rfl, h, by grind, by grind⟩
      · exact ⟨-(val b), by grind, by grind, by grind, by grind⟩
    obtain ⟨k1, k2⟩ := mul_within (a := g) (b := val b) (f := c * (1 / 9007199254740992) + u) (g := v) (by grind) (by grind) v0.2.1 v0.2.2
    have k3 := sq1 c v
    have k4 : v ≤ 4 * S := le_of_mul_self (by grind) (by grind)
    have k5 := Rat.mul_le_mul_of_nonneg_right hu v0.1
    constructor <;> grind
  obtain ⟨f6, u6, l6⟩ := Rnd_within (M := 16 * S) R6 (by grind) (by grind) (by grind)
  obtain ⟨ff, e7, w7, n7, h7⟩ := sub_size f6 fy wy nM wM sM (by rw [vM]; grind) (by rw [vM]; grind)
  exact ⟨aa, bb', dd, ee, t, ab, ff, e1, e2, e3, e4, w4, h4, e5, e6, e7, w7, h7⟩
end Go.Proofs.Ytojjlkmeicdeeaa

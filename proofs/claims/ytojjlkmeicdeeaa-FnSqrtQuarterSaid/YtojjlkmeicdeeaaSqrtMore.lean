/- From the parts by which the steps are off: the root of a square, and the root of a number times a power of 4. -/
import Derived.Test.YtojjlkmeicdeeaaSqrtAll
set_option linter.unusedSimpArgs false
set_option linter.unusedVariables false
namespace Go.Proofs.Ytojjlkmeicdeeaa
open F64

theorem Rel.symm {v z d e : Rat} (h : Rel v z d) (hv : 0 ≤ v) (d0 : 0 ≤ d) (e0 : 0 ≤ e) (e1 : e ≤ 1) (h1 : 1 ≤ (1 - d) * (1 + e)) (h2 : (1 + d) * (1 - e) ≤ 1) : Rel z v e := by
  obtain ⟨a1, a2⟩ := h
  have k1 := Rat.mul_le_mul_of_nonneg_right a2 (show 0 ≤ 1 - e by grind)
  have k2 := Rat.mul_le_mul_of_nonneg_right a1 (show 0 ≤ 1 + e by grind)
  have k3 := Rat.mul_le_mul_of_nonneg_left h1 hv
  have k4 := Rat.mul_le_mul_of_nonneg_left h2 hv
  have e3 : v * ((1 - d) * (1 + e)) = v * (1 - d) * (1 + e) := by grind
  have e4 : v * ((1 + d) * (1 - e)) = v * (1 + d) * (1 - e) := by grind
  rw [e3] at k3
  rw [e4] at k4
  constructor <;> grind
/-- A product and one of its factors are near: so is the other one. -/
theorem Rel.quot {P Q A D d1 d2 d3 : Rat} (h1 : Rel (P * Q) (A * D) d1) (h2 : Rel P A d2) (P0 : 0 < P) (Q0 : 0 ≤ Q) (D0 : 0 ≤ D) (c : d2 < 1) (c' : 0 ≤ d2)
    (c1 : 1 + d1 ≤ (1 + d3) * (1 - d2)) (c2 : (1 - d3) * (1 + d2) ≤ 1 - d1) : Rel Q D d3 := by
  obtain ⟨a1, a2⟩ := h1
  obtain ⟨b1, b2⟩ := h2
  have k1 := Rat.mul_le_mul_of_nonneg_right b1 D0
  have k2 := Rat.mul_le_mul_of_nonneg_right b2 D0
  have u1 : (1 - d2) * D ≤ Q * (1 + d1) := by
    refine Rat.le_of_mul_le_mul_left (c := P) ?_ P0
    have e1 : P * ((1 - d2) * D) = P * (1 - d2) * D := by grind
    have e2 : P * (Q * (1 + d1)) = P * Q * (1 + d1) := by grind
    rw [e1, e2]; exact Rat.le_trans k1 a2
  have u2 : Q * (1 - d1) ≤ (1 + d2) * D := by
    refine Rat.le_of_mul_le_mul_left (c := P) ?_ P0
    have e1 : P * ((1 + d2) * D) = P * (1 + d2) * D := by grind
    have e2 : P * (Q * (1 - d1)) = P * Q * (1 - d1) := by grind
    rw [e1, e2]; exact Rat.le_trans a1 k2
  have v1 := Rat.mul_le_mul_of_nonneg_left c1 Q0
  have v2 := Rat.mul_le_mul_of_nonneg_left c2 Q0
  constructor
  · refine Rat.le_of_mul_le_mul_left (c := 1 + d2) ?_ (by grind)
    have e1 : (1 + d2) * (Q * (1 - d3)) = Q * ((1 - d3) * (1 + d2)) := by grind
    rw [e1]; exact Rat.le_trans v2 u2
  · refine Rat.le_of_mul_le_mul_left (c := 1 - d2) ?_ (by grind)
    have e1 : (1 - d2) * (Q * (1 + d3)) = Q * ((1 + d3) * (1 - d2)) := by grind
    rw [e1]; exact Rat.le_trans u1 v1

theorem Rel.half {v z w d : Rat} (h : Rel v z d) (hw : 0 ≤ w) (d0 : 0 ≤ d) : Rel ((v + w) / 2) ((z + w) / 2) d := by
  obtain ⟨a1, a2⟩ := h
  have := Rat.mul_nonneg hw d0
  constructor <;> grind
theorem Rel.times {v z w d : Rat} (h : Rel v z d) (hw : 0 ≤ w) : Rel (v * w) (z * w) d := by
  obtain ⟨a1, a2⟩ := h
  have k1 := Rat.mul_le_mul_of_nonneg_right a1 hw
  have k2 := Rat.mul_le_mul_of_nonneg_right a2 hw
  constructor <;> grind

/-- The root of a square. -/
theorem Core.square {P Q X Y h A D : Rat} (K : Core X Y h A D) (P0 : 0 < P) (Q0 : 0 ≤ Q) (hle : Q ≤ P) (eX : X = P * P - Q * Q) (eY : Y = 2 * P * Q) :
    Rel P A (8 / 9007199254740992) ∧ Rel Q D (13 / 9007199254740992) := by
  have pp := Rat.mul_pos P0 P0
  have qq := Rat.mul_nonneg Q0 Q0
  have X0 : 0 ≤ X := by have := mul_self_le Q0 hle; grind
  have eN : X * X + Y * Y = (P * P + Q * Q) * (P * P + Q * Q) := by rw [eX, eY]; grind
  have H := K.H
  rw [eN] at H
  have h1 : Rel (P * P + Q * Q) h (6 / 9007199254740992) := H.root (by grind) K.h0 (by decide +kernel) (by decide +kernel) (by decide +kernel)
  have h2 := h1.half X0 (by decide +kernel)
  rw [show (P * P + Q * Q + X) / 2 = P * P from by rw [eX]; grind] at h2
  have h3 : Rel (P * P) (A * A) (14 / 9007199254740992) := h2.trans K.A (Rat.le_of_lt pp) (by decide +kernel) (by decide +kernel) (by decide +kernel) (by decide +kernel) (by decide +kernel)
  have h4 : Rel P A (8 / 9007199254740992) := h3.root (Rat.le_of_lt P0) (Rat.le_of_lt K.a0) (by decide +kernel) (by decide +kernel) (by decide +kernel)
  refine ⟨h4, ?_⟩
  have h5 := K.C.times (w := 1 / 2) (by decide +kernel)
  rw [show Y * (1 / 2) = P * Q from by rw [eY]; grind, show 2 * A * D * (1 / 2) = A * D from by grind] at h5
  exact h5.quot h4 P0 Q0 K.b0 (by decide +kernel) (by decide +kernel) (by decide +kernel) (by decide +kernel)

/-- The root of a number times a square. -/
theorem Core.scaled {X Y h A D h' A' D' v : Rat} (K : Core X Y h A D) (K' : Core (X * (v * v)) (Y * (v * v)) h' A' D') (v0 : 0 < v) (X0 : 0 ≤ X) (Y0 : 0 ≤ Y) :
    Rel (A * v) A' (13 / 9007199254740992) ∧ Rel (D * v) D' (23 / 9007199254740992) := by
  have xx := Rat.mul_nonneg X0 X0
  have yy := Rat.mul_nonneg Y0 Y0
  have vv := Rat.mul_pos v0 v0
  have v4 := Rat.mul_pos vv vv
  have hh := Rat.mul_nonneg K.h0 K.h0
  have av := Rat.mul_pos K.a0 v0
  have N0 : 0 ≤ X * X + Y * Y := by grind
  have h1 : Rel (h * h) (X * X + Y * Y) (10001 / 1000 / 9007199254740992) := K.H.symm N0 (by decide +kernel) (by decide +kernel) (by decide +kernel) (by decide +kernel) (by decide +kernel)
  have h2 := h1.times (w := v * v * (v * v)) (Rat.le_of_lt v4)
  have H' := K'.H
  rw [show X * (v * v) * (X * (v * v)) + Y * (v * v) * (Y * (v * v)) = (X * X + Y * Y) * (v * v * (v * v)) from by grind] at H'
  have h3 : Rel (h * h * (v * v * (v * v))) (h' * h') (20002 / 1000 / 9007199254740992) := h2.trans H' (Rat.mul_nonneg hh (Rat.le_of_lt v4)) (by decide +kernel) (by decide +kernel) (by decide +kernel) (by decide +kernel) (by decide +kernel)
  rw [show h * h * (v * v * (v * v)) = h * (v * v) * (h * (v * v)) from by grind] at h3
  have hv := Rat.mul_nonneg K.h0 (Rat.le_of_lt vv)
  have h4 : Rel (h * (v * v)) h' (10002 / 1000 / 9007199254740992) := h3.root hv K'.h0 (by decide +kernel) (by decide +kernel) (by decide +kernel)
  have xv := Rat.mul_nonneg X0 (Rat.le_of_lt vv)
  have h5 := h4.half xv (by decide +kernel)
  have s0 : 0 ≤ (h + X) / 2 := by have := K.h0; grind
  have aa := Rat.mul_pos K.a0 K.a0
  have h6 : Rel (A * A) ((h + X) / 2) (7012 / 1000 / 9007199254740992) := K.A.symm s0 (by decide +kernel) (by decide +kernel) (by decide +kernel) (by decide +kernel) (by decide +kernel)
  have h7 := h6.times (w := v * v) (Rat.le_of_lt vv)
  rw [show (h + X) / 2 * (v * v) = (h * (v * v) + X * (v * v)) / 2 from by grind] at h7
  have h8 : Rel (A * A * (v * v)) ((h' + X * (v * v)) / 2) (17015 / 1000 / 9007199254740992) := h7.trans h5 (Rat.le_of_lt (Rat.mul_pos aa vv)) (by decide +kernel) (by decide +kernel) (by decide +kernel) (by decide +kernel) (by decide +kernel)
  have h9 : Rel (A * A * (v * v)) (A' * A') (24027 / 1000 / 9007199254740992) := h8.trans K'.A (Rat.le_of_lt (Rat.mul_pos aa vv)) (by decide +kernel) (by decide +kernel) (by decide +kernel) (by decide +kernel) (by decide +kernel)
  rw [show A * A * (v * v) = A * v * (A * v) from by grind] at h9
  have h10 : Rel (A * v) A' (13 / 9007199254740992) := h9.root (Rat.le_of_lt av) (Rat.le_of_lt K'.a0) (by decide +kernel) (by decide +kernel) (by decide +kernel)
  refine ⟨h10, ?_⟩
  have c1 : Rel (2 * A * D) Y (4008 / 1000 / 9007199254740992) := K.C.symm Y0 (by decide +kernel) (by decide +kernel) (by decide +kernel) (by decide +kernel) (by decide +kernel)
  have c2 := c1.times (w := v * v) (Rat.le_of_lt vv)
  have ad := Rat.mul_nonneg (Rat.mul_nonneg (show (0 : Rat) ≤ 2 by decide +kernel) (Rat.le_of_lt K.a0)) K.b0
  have c3 : Rel (2 * A * D * (v * v)) (2 * A' * D') (8016 / 1000 / 9007199254740992) := c2.trans K'.C (Rat.mul_nonneg ad (Rat.le_of_lt vv)) (by decide +kernel) (by decide +kernel) (by decide +kernel) (by decide +kernel) (by decide +kernel)
  have c4 := c3.times (w := 1 / 2) (by decide +kernel)
  rw [show 2 * A * D * (v * v) * (1 / 2) = A * v * (D * v) from by grind, show 2 * A' * D' * (1 / 2) = A' * D' from by grind] at c4
  exact c4.quot h10 av (Rat.mul_nonneg K.b0 (Rat.le_of_lt v0)) K'.b0 (by decide +kernel) (by decide +kernel) (by decide +kernel) (by decide +kernel)

theorem IsNW.size {x : Nat} {n : Int} (wx : Wd x) (fx : Fi x) (vx : val x = (n : Rat)) : IsNW (sizeW x) n.natAbs := by
  rw [sizeW_num wx fx.num]
  refine ⟨rg_wd _, by unfold Fi at *; rw [rg_rg]; exact fx, sg_rg _, ?_⟩
  rw [val_rg, rv_abs vx]
end Go.Proofs.Ytojjlkmeicdeeaa

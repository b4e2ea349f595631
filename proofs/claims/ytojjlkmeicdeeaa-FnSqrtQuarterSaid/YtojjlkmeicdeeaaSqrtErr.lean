/- How far off the steps of cmplx.Sqrt are, as parts. -/
import Derived.Test.YtojjlkmeicdeeaaRelErr
import Derived.Test.YtojjlkmeicdeeaaSqrtSigns
set_option linter.unusedSimpArgs false
set_option linter.unusedVariables false
namespace Go.Proofs.Ytojjlkmeicdeeaa
open F64

/-- A square that is near: the number is twice as near. -/
theorem Rel.root {v z d e : Rat} (h : Rel (v * v) (z * z) d) (hv : 0 ≤ v) (hz : 0 ≤ z) (d0 : 0 ≤ d) (d1 : d ≤ 1) (he : d / 2 + d * d / 2 ≤ e) : Rel v z e := by
  have vv := Rat.mul_nonneg hv hv
  obtain ⟨h1, h2⟩ := h
  have dd := Rat.mul_nonneg d0 d0
  have dle := Rat.mul_le_mul_of_nonneg_left d1 d0
  obtain ⟨f, hf⟩ : ∃ f, f = d / 2 + d * d / 2 := ⟨_, rfl⟩
  rw [← hf] at he
  have f0 : 0 ≤ f := by grind
  have f1 : f ≤ d := by grind
  have ff : f * f ≤ d * d := mul_self_le f0 f1
  refine Rel.mono (d := f) ⟨?_, ?_⟩ hv he
  · refine le_of_mul_self hz (Rat.le_trans ?_ h1)
    have := Rat.mul_le_mul_of_nonneg_left (show (1 - f) * (1 - f) ≤ 1 - d by grind) vv
    grind
  · refine le_of_mul_self (Rat.mul_nonneg hv (show 0 ≤ 1 + f by grind)) (Rat.le_trans h2 ?_)
    have := Rat.mul_le_mul_of_nonneg_left (show 1 + d ≤ (1 + f) * (1 + f) by have := Rat.mul_nonneg f0 f0; grind) vv
    grind

theorem Rnd_rel_abs {e v A : Rat} {z : Nat} {s : Bool} (R : Rnd e v z) (hf : Fi z) (hs : sg z = s) (hv : v = pm s * A) (hA : LOW ≤ A) {d : Rat} (hd : e + 1 / 1180591620717411303424 ≤ d) : Rel A (val (rg z)) d := by
  have hp := LOW_pos
  have A0 : 0 ≤ A := by grind
  obtain ⟨h1, h2⟩ := R.err hf
  have ha : v.abs = A := by rw [hv]; exact pm_abs s A0
  rw [ha] at h1 h2
  have ul := u_low
  have k := Rat.mul_le_mul_of_nonneg_right hA (show (0 : Rat) ≤ 1 / 1180591620717411303424 by decide +kernel)
  have hz : val z = pm s * val (rg z) := by rw [val_rg, val_pm, hs]
  rw [hz, hv] at h1 h2
  unfold pm at h1 h2
  refine Rel.mono (d := e + 1 / 1180591620717411303424) ⟨?_, ?_⟩ A0 hd <;> cases s <;> simp at h1 h2 <;> grind

/-- What the steps give: 'h' stands for the absolute value, 'a' and 'b' for the greater and the smaller part. -/
structure Core (X Y h a b : Rat) : Prop where
  h0 : 0 ≤ h
  a0 : 0 < a
  b0 : 0 ≤ b
  H : Rel (X * X + Y * Y) (h * h) (10 / 9007199254740992)
  A : Rel ((h + X) / 2) (a * a) (7011 / 1000 / 9007199254740992)
  C : Rel Y (2 * a * b) (4007 / 1000 / 9007199254740992)

theorem gen_core {x' y' sc p q s t m d r t2 : Nat} {neg : Bool} (G : GenOk x' y' sc neg p q s t m d r t2) (wx : Wd x') (wy : Wd y') (fx : Fi x') (fy : Fi y') (ssc : sg sc = false)
    (sc2 : 1 / 134217728 ≤ val sc)
    (lx : (2 : Rat) ^ (-900 : Int) ≤ val (rg x')) (ly : (2 : Rat) ^ (-900 : Int) ≤ val (rg y'))
    (r1 : val (rg x') ≤ val (rg y') * (2 : Rat) ^ (200 : Int)) (r2 : val (rg y') ≤ val (rg x') * (2 : Rat) ^ (200 : Int)) :
    Rel (val (rg x') * val (rg x') + val (rg y') * val (rg y')) (val (hypotW x' y') * val (hypotW x' y')) (10 / 9007199254740992) ∧
    Rel ((val (hypotW x' y') + val (rg x')) / 2 * (val sc * val sc)) (val t2 * val t2) (7011 / 1000 / 9007199254740992) ∧
    Rel (val (rg y') * (val sc * val sc)) (2 * val t2 * val r) (4007 / 1000 / 9007199254740992) := by
  have p900 : (0 : Rat) < (2 : Rat) ^ (-900 : Int) := zp_pos _
  have p200 : (0 : Rat) < (2 : Rat) ^ (200 : Int) := zp_pos _
  have hy0 : rg y' ≠ 0 := by intro h; rw [val_rg, h, rv_zero] at ly; grind
  have HR := hypotW_rel fx fy (fun h => hy0 h.2) G.fh (Or.inr (by rw [← val_rg, ← val_rg]; exact r2)) (Or.inr (by rw [← val_rg, ← val_rg]; exact r1)) (Or.inr (by rw [← val_rg]; exact lx)) (Or.inr (by rw [← val_rg]; exact ly))
  rw [← val_rg, ← val_rg] at HR
  have hg0 := val_nonneg (hypotW_sg x' y')
  have b2B : rv (2 * B) ≤ (2 : Rat) ^ (-900 : Int) := by decide +kernel
  have vq : val (rg q) = 1 / 2 * val (rg x') := by
    have := half_word wx fx (Rat.le_trans b2B lx) G.Rq
    have q0 := rv_nonneg (rg q)
    have x0 := rv_nonneg (rg x')
    rw [val_pm q, val_pm x'] at this
    rw [val_rg, val_rg]
    unfold pm at this
    cases h1 : sg q <;> cases h2 : sg x' <;> simp [h1, h2] at this <;> grind
  have vm : val (rg m) = 1 / 2 * val (rg y') := by
    have := G.vm
    have q0 := rv_nonneg (rg m)
    have x0 := rv_nonneg (rg y')
    rw [val_pm m, val_pm y', G.sm] at this
    rw [val_rg, val_rg]
    unfold pm at this
    cases h2 : sg y' <;> simp [h2] at this <;> grind
  obtain ⟨h, hh⟩ : ∃ h, h = val (hypotW x' y') := ⟨_, rfl⟩
  obtain ⟨X, hX⟩ : ∃ h, h = val (rg x') := ⟨_, rfl⟩
  obtain ⟨Y, hY⟩ : ∃ h, h = val (rg y') := ⟨_, rfl⟩
  have hge := (hypotW_ge fx fy).2
  have Rs := G.Rs
  rw [G.vp, vq] at Rs
  rw [← hh, ← hX, ← hY] at HR ⊢
  rw [← hX] at lx
  rw [← hY] at ly vm
  rw [← hX, ← hY] at r1 r2
  rw [← hh, ← hX] at Rs
  rw [← hh, ← hY] at hge
  rw [← hh] at hg0
  clear vq hX hh hy0 b2B
  have X0 : 0 ≤ X := by grind
  have Y0 : 0 < Y := by grind
  have l900 : LOW ≤ (2 : Rat) ^ (-900 : Int) * (1 / 2) := by unfold LOW; decide +kernel
  have e1 : 1 / 2 * h + 1 / 2 * X = (h + X) / 2 := by grind
  rw [e1] at Rs
  have n1 : 0 ≤ (h + X) / 2 := by grind
  have c1 := Rnd_rel1 Rs G.fs (Or.inr (by grind))
  have c2 : Rel ((h + X) / 2) (val t * val t) (5004 / 1000 / 9007199254740992) := c1.trans (Root_rel G.Rt (Rat.le_of_lt G.s0)) n1 (by decide +kernel) (by decide +kernel) (by decide +kernel) (by decide +kernel) (by decide +kernel)
  have t0 := G.t0
  have sc0 : 0 < val sc := by grind
  -- bounds of t
  have tl : (2 : Rat) ^ (-460 : Int) ≤ val t := by
    refine le_of_mul_self (Rat.le_of_lt t0) (Rat.le_trans ?_ c2.1)
    have k : (2 : Rat) ^ (-460 : Int) * (2 : Rat) ^ (-460 : Int) ≤ (2 : Rat) ^ (-900 : Int) * (1 / 2) * (1 - 5004 / 1000 / 9007199254740992) := by decide +kernel
    have k2 := Rat.mul_le_mul_of_nonneg_right (show (2 : Rat) ^ (-900 : Int) * (1 / 2) ≤ (h + X) / 2 by grind) (show (0 : Rat) ≤ 1 - 5004 / 1000 / 9007199254740992 by decide +kernel)
    exact Rat.le_trans k k2
  have hup : h ≤ 2 * (X + Y) := by
    refine le_of_mul_self (by grind) (Rat.le_trans HR.2 ?_)
    have xy := Rat.mul_nonneg X0 (Rat.le_of_lt Y0)
    have xx := Rat.mul_nonneg X0 X0
    have yy := Rat.mul_nonneg (Rat.le_of_lt Y0) (Rat.le_of_lt Y0)
    grind
  have tu : val t * val t ≤ Y * (2 : Rat) ^ (210 : Int) := by
    have k1 : (1 : Rat) ≤ (2 : Rat) ^ (200 : Int) := by decide +kernel
    have k2 : (2 : Rat) ^ (210 : Int) = 1024 * (2 : Rat) ^ (200 : Int) := by decide +kernel
    have k3 := Rat.mul_le_mul_of_nonneg_left k1 (Rat.le_of_lt Y0)
    have := c2.2
    rw [k2]
    grind
  obtain ⟨D, hD⟩ : ∃ D, D = 1 / 2 * Y / val t := ⟨_, rfl⟩
  have eD : D * val t = 1 / 2 * Y := by rw [hD]; exact Rat.div_mul_cancel (Rat.ne_of_gt t0)
  have Dl : (2 : Rat) ^ (-900 : Int) ≤ D := by
    refine Rat.not_lt.1 fun hc => ?_
    have k := Rat.mul_lt_mul_of_pos_right hc t0
    rw [eD] at k
    have k2 := mul_self_le (show (0 : Rat) ≤ 1 / 2 * Y by grind) (Rat.le_of_lt k)
    have k3 := Rat.mul_le_mul_of_nonneg_left tu (Rat.le_of_lt (Rat.mul_pos p900 p900))
    have k4 : (2 : Rat) ^ (-900 : Int) * (2 : Rat) ^ (-900 : Int) * (2 : Rat) ^ (210 : Int) ≤ (2 : Rat) ^ (-900 : Int) * (1 / 8) := by decide +kernel
    have k5 := Rat.mul_le_mul_of_nonneg_left k4 (Rat.le_of_lt Y0)
    have k6 := Rat.mul_le_mul_of_nonneg_left ly (Rat.le_of_lt Y0)
    have k7 : Y * Y * (1 / 4) ≤ Y * Y * (1 / 8) := by grind
    have k8 := Rat.mul_pos Y0 Y0
    grind
  have D0 : 0 < D := by grind
  have c3 : Rel D (val (rg d)) (2001 / 1000 / 9007199254740992) := by
    refine Rnd_rel_abs G.Rd G.fd G.sd ?_ (by grind) (by rw [k52]; decide +kernel)
    have e : val m = pm (sg y') * val (rg m) := by rw [val_rg, val_pm, G.sm]
    rw [e, vm, hD, Rat.div_def (pm (sg y') * (1 / 2 * Y)), Rat.div_def (1 / 2 * Y) (val t), Rat.mul_assoc (pm (sg y'))]
  have sd0 : LOW ≤ val sc * val (rg d) := by
    have k := Rat.mul_le_mul_of_nonneg_right Dl (show (0 : Rat) ≤ 1 - 2001 / 1000 / 9007199254740992 by decide +kernel)
    have k2 := mul_le_mul' sc2 (Rat.le_trans k c3.1) (by decide +kernel) (by rw [val_rg]; exact rv_nonneg _)
    have k3 : LOW ≤ 1 / 134217728 * ((2 : Rat) ^ (-900 : Int) * (1 - 2001 / 1000 / 9007199254740992)) := by unfold LOW; decide +kernel
    exact Rat.le_trans k3 k2
  have c4 := Rnd_rel1 G.Rr G.fr (Or.inr sd0)
  have c5 : Rel (val sc * D) (val sc * val (rg d)) (2001 / 1000 / 9007199254740992) := (Rel.refl (val sc)).mul c3 (Rat.le_of_lt sc0) (Rat.le_of_lt D0) (by decide +kernel) (by decide +kernel) (by decide +kernel) (by decide +kernel) (by decide +kernel)
  have sD := Rat.mul_nonneg (Rat.le_of_lt sc0) (Rat.le_of_lt D0)
  have c6 : Rel (val sc * D) (val r) (3003 / 1000 / 9007199254740992) := c5.trans c4 sD (by decide +kernel) (by decide +kernel) (by decide +kernel) (by decide +kernel) (by decide +kernel)
  have tsl : LOW ≤ val t * val sc := by
    have k2 := mul_le_mul' tl sc2 (Rat.le_of_lt (zp_pos _)) (Rat.le_of_lt sc0)
    have k3 : LOW ≤ (2 : Rat) ^ (-460 : Int) * (1 / 134217728) := by unfold LOW; decide +kernel
    exact Rat.le_trans k3 k2
  have c7 := Rnd_rel1 G.Rt2 G.ft2 (Or.inr tsl)
  have ts := Rat.mul_nonneg (Rat.le_of_lt t0) (Rat.le_of_lt sc0)
  have c8 : Rel (val t * val sc * (val t * val sc)) (val t2 * val t2) (2003 / 1000 / 9007199254740992) := c7.mul c7 ts ts (by decide +kernel) (by decide +kernel) (by decide +kernel) (by decide +kernel) (by decide +kernel)
  have c9 : Rel ((h + X) / 2 * (val sc * val sc)) (val t * val t * (val sc * val sc)) (5004 / 1000 / 9007199254740992) := c2.mul (Rel.refl _) n1 (Rat.mul_nonneg (Rat.le_of_lt sc0) (Rat.le_of_lt sc0)) (by decide +kernel) (by decide +kernel) (by decide +kernel) (by decide +kernel) (by decide +kernel)
  rw [show val t * val t * (val sc * val sc) = val t * val sc * (val t * val sc) from by grind] at c9
  refine ⟨HR, c9.trans c8 (Rat.mul_nonneg n1 (Rat.mul_nonneg (Rat.le_of_lt sc0) (Rat.le_of_lt sc0))) (by decide +kernel) (by decide +kernel) (by decide +kernel) (by decide +kernel) (by decide +kernel), ?_⟩
  have c10 : Rel (val t * val sc * (val sc * D)) (val t2 * val r) (4006 / 1000 / 9007199254740992) := c7.mul c6 ts sD (by decide +kernel) (by decide +kernel) (by decide +kernel) (by decide +kernel) (by decide +kernel)
  have c11 : Rel (2 * (val t * val sc * (val sc * D))) (2 * (val t2 * val r)) (4007 / 1000 / 9007199254740992) := (Rel.refl 2).mul c10 (by decide +kernel) (Rat.mul_nonneg ts sD) (by decide +kernel) (by decide +kernel) (by decide +kernel) (by decide +kernel) (by decide +kernel)
  rw [show 2 * (val t * val sc * (val sc * D)) = 2 * (D * val t) * (val sc * val sc) from by grind, eD, show 2 * (1 / 2 * Y) = Y from by grind, show 2 * (val t2 * val r) = 2 * val t2 * val r from by grind] at c11
  exact c11

/-- A quarter of a number that is not too small is a word; so is a number up to 4 times 2^54. -/
theorem quarter_word {x z : Nat} {e : Rat} (fx : Fi x) (h : rv (3 * B) ≤ val (rg x)) (R : Rnd e (val x * (1 / 4)) z) : val z = val x * (1 / 4) := by
  rw [val_rg] at h
  have hg := rv_le_iff.1 h
  have hB := B_pos
  have hsw := inf_lt_sw
  have hf : rg x < INF := fx
  have hs : rg x - 2 * B < SW := by omega
  have e := rv_shift (rg x - 2 * B) 2 (by omega)
  rw [show rg x - 2 * B + 2 * B = rg x from by omega, show (2 : Rat) ^ ((2 : Nat) : Int) = 4 from by decide +kernel] at e
  have vc : val (Ieee.double.word (sg x) (rg x - 2 * B)) = val x * (1 / 4) := by
    rw [val_word hs, val_pm x, e]; grind
  exact R.exact (by unfold Num; rw [word_rg hs]; omega) vc
theorem p54_word {x z : Nat} {e : Rat} (fx : Fi x) (h : rv (3 * B) ≤ val (rg x)) (h4 : val (rg x) ≤ 4) (R : Rnd e (val x * 18014398509481984) z) : val z = val x * 18014398509481984 := by
  rw [val_rg] at h h4
  have hg := rv_le_iff.1 h
  have h4' : rg x ≤ 1025 * B := rv_le_iff.1 (by rw [show rv (1025 * B) = 4 from by decide +kernel]; exact h4)
  have hB := B_pos
  have hsw := inf_lt_sw
  have hi : 1079 * B < INF := by decide
  have hs : rg x + 54 * B < SW := by omega
  have e := rv_shift (rg x) 54 (by omega)
  rw [show (2 : Rat) ^ ((54 : Nat) : Int) = 18014398509481984 from by decide +kernel] at e
  have vc : val (Ieee.double.word (sg x) (rg x + 54 * B)) = val x * 18014398509481984 := by
    rw [val_word hs, val_pm x, e]; grind
  exact R.exact (by unfold Num; rw [word_rg hs]; omega) vc

theorem rg_scaled {x x' : Nat} {c : Rat} (hs : sg x' = sg x) (h : val x' = val x * c) : val (rg x') = val (rg x) * c := by
  rw [val_rg, val_rg]
  rw [val_pm, val_pm x, hs] at h
  unfold pm at h
  cases h1 : sg x <;> simp [h1] at h <;> grind

/-- The root's values, in the general case. -/
theorem sqrt_core {x y a b : Nat} (hx : Wd x) (hy : Wd y) (fx : Fi x) (fy : Fi y) (hr : SqrtRel x y a b)
    (lx : (2 : Rat) ^ (-850 : Int) ≤ val (rg x)) (ly : (2 : Rat) ^ (-850 : Int) ≤ val (rg y))
    (r1 : val (rg x) ≤ val (rg y) * (2 : Rat) ^ (200 : Int)) (r2 : val (rg y) ≤ val (rg x) * (2 : Rat) ^ (200 : Int)) :
    Fi a ∧ Fi b ∧ Wd a ∧ Wd b ∧ ∃ h A D, Core (val (rg x)) (val (rg y)) h A D ∧ (sg x = false → val a = A ∧ val b = pm (sg y) * D) ∧ (sg x = true → val a = D ∧ val b = pm (sg y) * A) := by
  have p850 : (0 : Rat) < (2 : Rat) ^ (-850 : Int) := zp_pos _
  have hx0 : rg x ≠ 0 := by intro h; rw [val_rg, h, rv_zero] at lx; grind
  have hy0 : rg y ≠ 0 := by intro h; rw [val_rg, h, rv_zero] at ly; grind
  have x0 : feq x 0 = false := by rw [feq_zero]; simpa using hx0
  have y0 : feq y 0 = false := by rw [feq_zero]; simpa using hy0
  have iy : isInf y = false := by unfold isInf; unfold Fi at fy; simp; omega
  have hl : Q1000 ≤ val (rg y) := by
    have : Q1000 ≤ (2 : Rat) ^ (-850 : Int) := by unfold Q1000 Q1002; decide +kernel
    exact Rat.le_trans this ly
  have b3 : rv (3 * B) ≤ (2 : Rat) ^ (-850 : Int) := by decide +kernel
  have gen : ∃ c sc, ((big4 x y = true ∧ c = 4598175219545276416 ∧ sc = 4611686018427387904) ∨ (big4 x y = false ∧ c = 4850376798678024192 ∧ sc = 4485585228861014016)) ∧ SqrtGen x y c sc a b := by
    unfold SqrtRel at hr
    simp only [x0, y0, iy, Bool.false_eq_true, false_and, false_or, true_and, Bool.true_eq_false, or_false] at hr
    rcases hr with ⟨h, g⟩ | ⟨h, g⟩
    · exact ⟨_, _, Or.inl ⟨h, rfl, rfl⟩, g⟩
    · exact ⟨_, _, Or.inr ⟨h, rfl, rfl⟩, g⟩
  obtain ⟨c, sc, hc, g⟩ := gen
  obtain ⟨x', y', p, q, s, t, m, d, r, t2, ex, ey, wx', wy', fx', fy', sx', sy', ly', Rx, Ry, G⟩ := gen_exists hx hy fx fy hl hc
  obtain ⟨ga, gb⟩ := gen_val g ex ey G
  have e : ∃ vc vs : Rat, val sc = vs ∧ sg sc = false ∧ 1 / 134217728 ≤ vs ∧ vs * vs * vc = 1 ∧ val x' = val x * vc ∧ val y' = val y * vc ∧ 1 / 4 ≤ vc := by
    rcases hc with ⟨h, rfl, rfl⟩ | ⟨h, rfl, rfl⟩
    · rw [c_quarter.1] at Rx Ry
      exact ⟨1 / 4, 2, c_two.1, c_two.2.2, by decide +kernel, by decide +kernel, quarter_word fx (Rat.le_trans b3 lx) Rx, quarter_word fy (Rat.le_trans b3 ly) Ry, by decide +kernel⟩
    · obtain ⟨s1, s2⟩ := big4_false fx.num fy.num h
      rw [c_p54.1] at Rx Ry
      exact ⟨18014398509481984, 1 / 134217728, c_m27.1, c_m27.2.2, by decide +kernel, by decide +kernel, p54_word fx (Rat.le_trans b3 lx) s1 Rx, p54_word fy (Rat.le_trans b3 ly) s2 Ry, by decide +kernel⟩
  obtain ⟨vc, vs, v2, ssc, b1, b2, vx, vy, b4⟩ := e
  have ax := rg_scaled sx' vx
  have ay := rg_scaled sy' vy
  have l9 : (2 : Rat) ^ (-900 : Int) ≤ (2 : Rat) ^ (-850 : Int) * (1 / 4) := by decide +kernel
  have vc0 : 0 < vc := by grind
  have c1 := gen_core G wx' wy' fx' fy' ssc (by rw [v2]; exact b1)
    (by rw [ax]; exact Rat.le_trans l9 (mul_le_mul' lx b4 (Rat.le_of_lt p850) (Rat.le_of_lt vc0)))
    (by rw [ay]; exact Rat.le_trans l9 (mul_le_mul' ly b4 (Rat.le_of_lt p850) (Rat.le_of_lt vc0)))
    (by rw [ax, ay]; have := Rat.mul_le_mul_of_nonneg_right r1 (Rat.le_of_lt vc0); grind)
    (by rw [ax, ay]; have := Rat.mul_le_mul_of_nonneg_right r2 (Rat.le_of_lt vc0); grind)
  have hg0 := val_nonneg (hypotW_sg x' y')
  rw [ax, ay, v2] at c1
  have vs0 : 0 < vs := by grind
  have core : Core (val (rg x)) (val (rg y)) (val (hypotW x' y') * (vs * vs)) (val t2) (val r) := by
    obtain ⟨k1, k2, k3⟩ := c1
    have ss0 := Rat.mul_pos vs0 vs0
    refine ⟨Rat.mul_nonneg hg0 (Rat.le_of_lt ss0), G.t2pos, val_nonneg G.sr, ?_, ?_, ?_⟩
    · have k := k1.mul (Rel.refl (vs * vs * (vs * vs))) (by
        have e1 := Rat.mul_nonneg (show 0 ≤ val (rg x) by grind) (Rat.le_of_lt vc0)
        have e2 := Rat.mul_nonneg (show 0 ≤ val (rg y) by grind) (Rat.le_of_lt vc0)
        have := Rat.mul_nonneg e1 e1
        have := Rat.mul_nonneg e2 e2
        grind) (Rat.mul_nonneg (Rat.le_of_lt ss0) (Rat.le_of_lt ss0)) (by decide +kernel) (by decide +kernel) (by decide +kernel) (by decide +kernel) (show _ ≤ (10 : Rat) / 9007199254740992 by decide +kernel)
      have e1 : (val (rg x) * vc * (val (rg x) * vc) + val (rg y) * vc * (val (rg y) * vc)) * (vs * vs * (vs * vs)) = (val (rg x) * val (rg x) + val (rg y) * val (rg y)) * ((vs * vs * vc) * (vs * vs * vc)) := by grind
      rw [e1, b2] at k
      rw [show val (hypotW x' y') * (vs * vs) * (val (hypotW x' y') * (vs * vs)) = val (hypotW x' y') * val (hypotW x' y') * (vs * vs * (vs * vs)) from by grind]
      simpa using k
    · have e1 : (val (hypotW x' y') + val (rg x) * vc) / 2 * (vs * vs) = (val (hypotW x' y') * (vs * vs) + val (rg x) * (vs * vs * vc)) / 2 := by grind
      rw [e1, b2, Rat.mul_one] at k2
      exact k2
    · have e1 : val (rg y) * vc * (vs * vs) = val (rg y) * (vs * vs * vc) := by grind
      rw [e1, b2, Rat.mul_one] at k3
      exact k3
  have wt2 := G.Rt2.wd
  have wr := G.Rr.wd
  have yl : flt y' 0 = sg y := by
    rw [flt_zero_ne fy'.num (by intro h; have := ly'; rw [val_rg, h, rv_zero] at this; have := Q1002_pos; grind), sy']
  have xg : fgt x' 0 = !sg x := by
    have hx0' : rg x' ≠ 0 := by
      intro h; rw [val_rg, val_rg, h, rv_zero] at ax
      rw [val_rg] at lx
      have := Rat.mul_pos (show 0 < rv (rg x) by grind) vc0
      grind
    rw [fgt_zero, isNan_false.2 fx'.num, sx']
    cases sg x <;> simp [hx0']
  rw [yl] at gb
  rw [xg] at ga gb
  cases hsx : sg x <;> rw [hsx] at ga gb <;> simp only [Bool.not_false, Bool.not_true, if_true, Bool.false_eq_true, if_false] at ga gb
  · subst ga
    refine ⟨G.ft2, ?_, wt2, ?_, _, _, _, core, fun _ => ⟨rfl, ?_⟩, fun h => by simp at h⟩ <;> cases hsy : sg y <;> rw [hsy] at gb <;> simp only [if_true, Bool.false_eq_true, if_false] at gb <;> rw [gb]
    · exact G.fr
    · exact fneg_fi wr G.fr
    · exact wr
    · rw [fneg_eq wr]; exact negw_wd wr
    · unfold pm; simp
    · rw [fneg_val wr]; unfold pm; simp; grind
  · subst ga
    refine ⟨G.fr, ?_, wr, ?_, _, _, _, core, fun h => by simp at h, fun _ => ⟨rfl, ?_⟩⟩ <;> cases hsy : sg y <;> rw [hsy] at gb <;> simp only [if_true, Bool.false_eq_true, if_false] at gb <;> rw [gb]
    · exact G.ft2
    · exact fneg_fi wt2 G.ft2
    · exact wt2
    · rw [fneg_eq wt2]; exact negw_wd wt2
    · unfold pm; simp
    · rw [fneg_val wt2]; unfold pm; simp; grind
end Go.Proofs.Ytojjlkmeicdeeaa

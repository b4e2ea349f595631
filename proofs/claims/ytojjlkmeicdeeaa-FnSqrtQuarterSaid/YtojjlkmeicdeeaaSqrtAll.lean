/- The root's values, on the axes too; what follows for the root of a square and for a number times a power of 4. -/
import Derived.Test.YtojjlkmeicdeeaaSqrtBack
set_option linter.unusedSimpArgs false
set_option linter.unusedVariables false
namespace Go.Proofs.Ytojjlkmeicdeeaa
open F64

theorem axis_core_x {X A : Rat} (X0 : 0 < X) (A0 : 0 < A) (hA : Rel X (A * A) (4001 / 1000 / 9007199254740992)) : Core X 0 X A 0 := by
  have xx := Rat.mul_pos X0 X0
  refine ⟨Rat.le_of_lt X0, A0, Rat.le_refl, ?_, ?_, ?_⟩
  · have e : X * X + 0 * 0 = X * X := by grind
    rw [e]
    exact (Rel.refl (X * X)).mono (Rat.le_of_lt xx) (by decide +kernel)
  · have e : (X + X) / 2 = X := by grind
    rw [e]
    exact hA.mono (Rat.le_of_lt X0) (by decide +kernel)
  · have e : 2 * A * 0 = 0 := by grind
    rw [e]
    exact (Rel.refl 0).mono Rat.le_refl (by decide +kernel)
theorem axis_core_y {Y A : Rat} (Y0 : 0 < Y) (A0 : 0 < A) (hA : Rel (1 / 2 * Y) (A * A) (4001 / 1000 / 9007199254740992)) : Core 0 Y Y A A := by
  have yy := Rat.mul_pos Y0 Y0
  refine ⟨Rat.le_of_lt Y0, A0, Rat.le_of_lt A0, ?_, ?_, ?_⟩
  · have e : 0 * 0 + Y * Y = Y * Y := by grind
    rw [e]
    exact (Rel.refl (Y * Y)).mono (Rat.le_of_lt yy) (by decide +kernel)
  · have e : (Y + 0) / 2 = 1 / 2 * Y := by grind
    rw [e]
    exact hA.mono (by grind) (by decide +kernel)
  · obtain ⟨h1, h2⟩ := hA
    refine Rel.mono (d := 4001 / 1000 / 9007199254740992) ⟨?_, ?_⟩ (Rat.le_of_lt Y0) (by decide +kernel) <;> grind

theorem root_pos {x z : Nat} (R : Root x z) (hx : 0 < val x) : 0 < val z := by
  have h := (Root_rel R (Rat.le_of_lt hx)).1
  have z0 := val_nonneg R.sgn
  have k := Rat.mul_pos hx (show (0 : Rat) < 1 - 4001 / 1000 / 9007199254740992 by decide +kernel)
  refine Rat.not_le.1 fun hc => ?_
  have e : val z = 0 := by grind
  rw [e] at h
  grind
theorem copy_val {r s : Nat} : val (copyW r s) = pm (sg s) * val (rg r) := by
  rw [val_pm, copyW_sg, copyW_rg, val_rg]

/-- The root's values, for a number that is not 0. -/
theorem sqrt_all {x y a b : Nat} (hx : Wd x) (hy : Wd y) (fx : Fi x) (fy : Fi y) (hr : SqrtRel x y a b) (h0 : ¬ (rg x = 0 ∧ rg y = 0))
    (lx : rg x = 0 ∨ (2 : Rat) ^ (-850 : Int) ≤ val (rg x)) (ly : rg y = 0 ∨ (2 : Rat) ^ (-850 : Int) ≤ val (rg y))
    (r1 : rg y = 0 ∨ val (rg x) ≤ val (rg y) * (2 : Rat) ^ (200 : Int)) (r2 : rg x = 0 ∨ val (rg y) ≤ val (rg x) * (2 : Rat) ^ (200 : Int)) :
    Fi a ∧ Fi b ∧ Wd a ∧ Wd b ∧ ∃ h A D, Core (val (rg x)) (val (rg y)) h A D ∧ (sg x = false → val a = A ∧ val b = pm (sg y) * D) ∧ (sg x = true → val a = D ∧ val b = pm (sg y) * A) := by
  by_cases y0 : rg y = 0
  · have x0 : rg x ≠ 0 := fun h => h0 ⟨h, y0⟩
    have c1 : feq y 0 = true := by rw [feq_zero]; simpa using y0
    have c3 : feq x 0 = false := by rw [feq_zero]; simpa using x0
    have c4 := flt_zero_ne fx.num x0
    have xp : 0 < val (rg x) := by rw [val_rg]; exact rv_pos (by omega)
    have vy : val y = 0 := by rw [val_pm, y0, rv_zero]; simp
    have vy' : val (rg y) = 0 := by rw [val_rg, y0, rv_zero]
    unfold SqrtRel at hr
    simp only [c1, c3, c4, Bool.false_eq_true, false_and, false_or, true_and, Bool.true_eq_false, or_false] at hr
    rw [vy']
    cases hs : sg x <;> rw [hs] at hr <;> simp only [Bool.false_eq_true, false_and, false_or, true_and, Bool.true_eq_false, or_false] at hr
    · obtain ⟨ra, rb⟩ := hr
      obtain ⟨z, ez, R⟩ := sqrt_rnd fx hs x0
      obtain rfl := fres_some ra ez
      have e : val (rg x) = val x := by rw [val_rg, val_pos_word hs]
      rw [e] at xp ⊢
      refine ⟨R.fin, by rw [rb]; exact fy, R.wd, by rw [rb]; exact hy, val x, val a, 0, axis_core_x xp (root_pos R xp) (Root_rel R (Rat.le_of_lt xp)), fun _ => ⟨rfl, ?_⟩, fun h => by simp at h⟩
      rw [rb, vy]; simp
    · obtain ⟨ra, r, hr1, rb⟩ := hr
      obtain ⟨z, ez, R⟩ := sqrt_rnd (fneg_fi hx fx) (by rw [fneg_sg hx, hs]; rfl) (by rw [fneg_rg hx]; exact x0)
      obtain rfl := fres_some hr1 ez
      have e : val (rg x) = val (fneg x) := by rw [val_rg, fneg_val hx, val_pm, hs]; unfold pm; simp; grind
      rw [e] at xp ⊢
      refine ⟨by rw [ra]; unfold Fi; decide, by rw [rb]; unfold Fi; rw [copyW_rg]; exact R.fin, by rw [ra]; unfold Wd; decide, by rw [rb]; exact copyW_wd _ _, val (fneg x), val r, 0, axis_core_x xp (root_pos R xp) (Root_rel R (Rat.le_of_lt xp)), fun h => by simp at h, fun _ => ⟨?_, ?_⟩⟩
      · rw [ra, val_zero]
      · rw [rb, copy_val, val_rg, val_pos_word R.sgn]
  · by_cases x0 : rg x = 0
    · have c1 : feq y 0 = false := by rw [feq_zero]; simpa using y0
      have c3 : feq x 0 = true := by rw [feq_zero]; simpa using x0
      have c2 : isInf y = false := by unfold isInf; unfold Fi at fy; simp; omega
      have c4 := flt_zero_ne fy.num y0
      have ly' : (2 : Rat) ^ (-850 : Int) ≤ val (rg y) := by rcases ly with h | h; exact absurd h y0; exact h
      have yp : 0 < val (rg y) := by rw [val_rg]; exact rv_pos (by omega)
      have vx' : val (rg x) = 0 := by rw [val_rg, x0, rv_zero]
      have fy' : Fi (rg y) := by unfold Fi at *; rw [rg_rg]; exact fy
      have b2 : rv (2 * B) ≤ (2 : Rat) ^ (-850 : Int) := by decide +kernel
      have key : ∀ m, Rnd e53 (1 / 2 * val (rg y)) m → sg m = false → ∃ z, fsqrt m = some z ∧ Wd z ∧ Fi z ∧ 0 < val z ∧ Rel (1 / 2 * val (rg y)) (val z * val z) (4001 / 1000 / 9007199254740992) := by
        intro m R s
        have vm := half_word (rg_wd y) fy' (by rw [rg_rg]; exact Rat.le_trans b2 ly') R
        have hM := size_le fy
        have fm : Fi m := R.fin (by grind) (by grind)
        have mp : 0 < val m := by rw [vm]; grind
        have m0 : rg m ≠ 0 := by intro h; rw [val_pos_word s, h, rv_zero] at mp; grind
        obtain ⟨z, ez, Rz⟩ := sqrt_rnd fm s m0
        refine ⟨z, ez, Rz.wd, Rz.fin, root_pos Rz mp, ?_⟩
        rw [← vm]; exact Root_rel Rz (Rat.le_of_lt mp)
      unfold SqrtRel at hr
      simp only [c1, c2, c3, c4, Bool.false_eq_true, false_and, false_or, true_and, Bool.true_eq_false, or_false] at hr
      rw [vx']
      cases hs : sg y <;> rw [hs] at hr <;> simp only [Bool.false_eq_true, false_and, false_or, true_and, Bool.true_eq_false, or_false] at hr
      · obtain ⟨m, r, hm, hr1, ra, rb⟩ := hr
        obtain ⟨m', em, Rm, sm⟩ := mul_rnd fin_HALF fy
        obtain rfl := fres_some hm em
        rw [val_HALF, show val y = val (rg y) from by rw [val_rg, val_pos_word hs]] at Rm
        rw [sg_HALF, hs] at sm
        obtain ⟨z, ez, wz, fz, zp, Rz⟩ := key m Rm sm
        obtain rfl := fres_some hr1 ez
        refine ⟨by rw [ra]; exact fz, by rw [rb]; exact fz, by rw [ra]; exact wz, by rw [rb]; exact wz, val (rg y), val r, val r, axis_core_y yp zp Rz, fun _ => ⟨by rw [ra], ?_⟩, fun _ => ⟨by rw [ra], ?_⟩⟩ <;> rw [rb] <;> unfold pm <;> simp
      · obtain ⟨m, r, hm, hr1, ra, rb⟩ := hr
        have fn : Fi 13826050856027422720 := by unfold Fi; decide
        have vn : val 13826050856027422720 = -(1 / 2) := by decide +kernel
        have sn : sg 13826050856027422720 = true := by decide
        obtain ⟨m', em, Rm, sm⟩ := mul_rnd fn fy
        obtain rfl := fres_some hm em
        rw [vn, show val y = -(val (rg y)) from by rw [val_rg, val_pm y, hs]; unfold pm; simp; grind, show -(1 / 2) * -(val (rg y)) = 1 / 2 * val (rg y) from by grind] at Rm
        rw [sn, hs] at sm
        obtain ⟨z, ez, wz, fz, zp, Rz⟩ := key m Rm sm
        obtain rfl := fres_some hr1 ez
        refine ⟨by rw [ra]; exact fz, by rw [rb]; exact fneg_fi wz fz, by rw [ra]; exact wz, by rw [rb]; exact fneg_wd wz, val (rg y), val r, val r, axis_core_y yp zp Rz, fun _ => ⟨by rw [ra], ?_⟩, fun _ => ⟨by rw [ra], ?_⟩⟩ <;> rw [rb, fneg_val wz] <;> unfold pm <;> simp <;> grind
    · exact sqrt_core hx hy fx fy hr (lx.resolve_left x0) (ly.resolve_left y0) (r1.resolve_left y0) (r2.resolve_left x0)

theorem zp_mono {i j : Int} (h : i ≤ j) : (2 : Rat) ^ i ≤ (2 : Rat) ^ j := by
  rw [show j = i + ((j - i).toNat : Int) from by omega, zp_add, zp_nat]
  have : ((1 : Nat) : Rat) ≤ ((2 ^ (j - i).toNat : Nat) : Rat) := Rat.natCast_le_natCast.2 Nat.one_le_two_pow
  have h := Rat.mul_le_mul_of_nonneg_left this (Rat.le_of_lt (zp_pos i))
  rw [show ((1 : Nat) : Rat) = 1 from rfl, Rat.mul_one] at h
  exact h
/-- A whole number times a power of 2, as the size of a word. -/
theorem whole_size {x n : Nat} {k : Int} (vx : val (rg x) = (n : Rat) * (2 : Rat) ^ k) (hn : n ≤ 67108864) (hk : -850 ≤ k) :
    (n = 0 ∧ rg x = 0) ∨ (n ≠ 0 ∧ rg x ≠ 0 ∧ (2 : Rat) ^ k ≤ val (rg x) ∧ val (rg x) ≤ 67108864 * (2 : Rat) ^ k ∧ (2 : Rat) ^ (-850 : Int) ≤ val (rg x)) := by
  have kp := zp_pos k
  by_cases h : n = 0
  · left
    refine ⟨h, ?_⟩
    rw [h, val_rg, show ((0 : Nat) : Rat) * (2 : Rat) ^ k = rv 0 from by rw [rv_zero]; simp] at vx
    exact rv_inj vx
  · right
    have a1 : ((1 : Nat) : Rat) ≤ (n : Rat) := Rat.natCast_le_natCast.2 (by omega)
    have a2 : (n : Rat) ≤ ((67108864 : Nat) : Rat) := Rat.natCast_le_natCast.2 hn
    have b1 := Rat.mul_le_mul_of_nonneg_right a1 (Rat.le_of_lt kp)
    have b2 := Rat.mul_le_mul_of_nonneg_right a2 (Rat.le_of_lt kp)
    rw [show ((1 : Nat) : Rat) = 1 from rfl, Rat.one_mul, ← vx] at b1
    rw [show ((67108864 : Nat) : Rat) = 67108864 from rfl, ← vx] at b2
    refine ⟨h, ?_, b1, b2, Rat.le_trans (zp_mono hk) b1⟩
    intro h2
    rw [val_rg, h2, rv_zero] at b1
    grind
/-- The root of a number whose parts are whole numbers times a power of 2. -/
theorem sqrt_whole {x y a b n m : Nat} {k : Int} (hx : Wd x) (hy : Wd y) (fx : Fi x) (fy : Fi y) (hr : SqrtRel x y a b)
    (vx : val (rg x) = (n : Rat) * (2 : Rat) ^ k) (vy : val (rg y) = (m : Rat) * (2 : Rat) ^ k) (hn : n ≤ 67108864) (hm : m ≤ 67108864) (hk : -850 ≤ k) (h0 : ¬ (n = 0 ∧ m = 0)) :
    Fi a ∧ Fi b ∧ Wd a ∧ Wd b ∧ ∃ h A D, Core (val (rg x)) (val (rg y)) h A D ∧ (sg x = false → val a = A ∧ val b = pm (sg y) * D) ∧ (sg x = true → val a = D ∧ val b = pm (sg y) * A) := by
  have k200 : (67108864 : Rat) ≤ (2 : Rat) ^ (200 : Int) := by decide +kernel
  have kp := zp_pos k
  rcases whole_size vx hn hk with ⟨n0, x0⟩ | ⟨n0, x0, x1, x2, x3⟩ <;> rcases whole_size vy hm hk with ⟨m0, y0⟩ | ⟨m0, y0, y1, y2, y3⟩
  · exact absurd ⟨n0, m0⟩ h0
  · exact sqrt_all hx hy fx fy hr (fun h => y0 h.2) (Or.inl x0) (Or.inr y3) (Or.inr (by rw [val_rg, x0, rv_zero]; exact Rat.mul_nonneg (by grind) (Rat.le_of_lt (zp_pos _)))) (Or.inl x0)
  · exact sqrt_all hx hy fx fy hr (fun h => x0 h.1) (Or.inr x3) (Or.inl y0) (Or.inl y0) (Or.inr (by rw [val_rg y, y0, rv_zero]; exact Rat.mul_nonneg (by grind) (Rat.le_of_lt (zp_pos _))))
  · refine sqrt_all hx hy fx fy hr (fun h => x0 h.1) (Or.inr x3) (Or.inr y3) (Or.inr ?_) (Or.inr ?_)
    · have k1 := mul_le_mul' y1 k200 (Rat.le_of_lt kp) (Rat.le_of_lt (zp_pos 200))
      grind
    · have k1 := mul_le_mul' x1 k200 (Rat.le_of_lt kp) (Rat.le_of_lt (zp_pos 200))
      grind

theorem pm_sq (s : Bool) (v : Rat) : pm s * v * (pm s * v) = v * v := by unfold pm; cases s <;> simp <;> grind
theorem val_size (x : Nat) : val x = pm (sg x) * val (rg x) := by rw [val_rg, val_pm]
/-- The square of the root, with signs. -/
theorem back_core {x y a b : Nat} {h A D S : Rat} (K : Core (val (rg x)) (val (rg y)) h A D) (h1 : sg x = false → val a = A ∧ val b = pm (sg y) * D) (h2 : sg x = true → val a = D ∧ val b = pm (sg y) * A)
    (hS : S = val (rg x) + val (rg y)) (S1 : 0 < S) :
    val a * val a - val b * val b - val x ≤ S * (1 / 35184372088832) ∧ -(S * (1 / 35184372088832)) ≤ val a * val a - val b * val b - val x ∧
    2 * val a * val b - val y ≤ S * (1 / 35184372088832) ∧ -(S * (1 / 35184372088832)) ≤ 2 * val a * val b - val y ∧ val a * val a ≤ 4 * S ∧ val b * val b ≤ 4 * S := by
  have X0 : 0 ≤ val (rg x) := by rw [val_rg]; exact rv_nonneg _
  have Y0 : 0 ≤ val (rg y) := by rw [val_rg]; exact rv_nonneg _
  have hs : 0 < h + val (rg x) := by
    have := K.h0
    refine Rat.not_le.1 fun hc => ?_
    have ex : val (rg x) = 0 := by grind
    have eh : h = 0 := by grind
    have := K.H.1
    rw [ex, eh] at this
    have Yp : 0 < val (rg y) := by grind
    have := Rat.mul_pos Yp Yp
    grind
  obtain ⟨b1, b2, b3, b4⟩ := K.back X0 Y0 hs
  obtain ⟨c1, c2⟩ := K.C
  rw [← hS] at b1 b2 b3 b4
  rw [val_size x, val_size y]
  cases sx : sg x
  · obtain ⟨e1, e2⟩ := h1 sx
    rw [e1, e2, pm_sq]
    unfold pm
    cases sg y <;> simp <;> refine ⟨?_, ?_, ?_, ?_, ?_, ?_⟩ <;> grind
  · obtain ⟨e1, e2⟩ := h2 sx
    rw [e1, e2, pm_sq]
    unfold pm
    cases sg y <;> simp <;> refine ⟨?_, ?_, ?_, ?_, ?_, ?_⟩ <;> grind
end Go.Proofs.Ytojjlkmeicdeeaa

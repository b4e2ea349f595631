/- Plain laws of cmplx.Sqrt's relation, gone on: its values where the parts are numbers; their signs; the conjugate. -/
import Derived.Test.YtojjlkmeicdeeaaSqrtLaws
import Derived.Test.YtojjlkmeicdeeaaWhole
set_option linter.unusedSimpArgs false
set_option linter.unusedVariables false
namespace Go.Proofs.Ytojjlkmeicdeeaa
open F64

theorem Rnd_abs {e v A : Rat} {z : Nat} {s : Bool} (R : Rnd e v z) (hs : sg z = s) (hv : v = pm s * A) (hA : 0 ≤ A) (c : Nat) (wc : Wd c) (nc : Num c) (sc : sg c = false) :
    (val c ≤ A → val c ≤ val (rg z)) ∧ (A ≤ val c → val (rg z) ≤ val c) := by
  have hz : val z = pm s * val (rg z) := by rw [val_rg, val_pm, hs]
  have hz0 : 0 ≤ val (rg z) := by rw [val_rg]; exact rv_nonneg _
  have hn : val (negw c) = -(val c) := negw_val wc
  have nn := negw_num wc nc
  have hc0 := val_nonneg sc
  constructor
  · intro h
    cases s
    · have := R.lo c nc (by rw [hv]; unfold pm; simp; exact h)
      rw [hz] at this; unfold pm at this; simpa using this
    · have := R.up (negw c) nn (by rw [hv, hn]; unfold pm; simp; grind)
      rw [hz, hn] at this; unfold pm at this; simp at this; grind
  · intro h
    cases s
    · have := R.up c nc (by rw [hv]; unfold pm; simp; exact h)
      rw [hz] at this; unfold pm at this; simpa using this
    · have := R.lo (negw c) nn (by rw [hv, hn]; unfold pm; simp; grind)
      rw [hz, hn] at this; unfold pm at this; simp at this; grind

theorem fres_some {o : Option Nat} {z r : Nat} (h : FRes o r) (e : o = some z) : r = z := by rw [e] at h; exact h

/-- The values behind the special cases. -/
theorem gen_val {x y c sc a b x' y' p q s t m d r t2 : Nat} (h : SqrtGen x y c sc a b) (ex : fmul x c = some x') (ey : fmul y c = some y')
    (G : GenOk x' y' sc (!fgt x' 0) p q s t m d r t2) :
    a = (if fgt x' 0 then t2 else r) ∧ b = (if flt y' 0 then fneg (if fgt x' 0 then r else t2) else (if fgt x' 0 then r else t2)) := by
  rcases h with ⟨x1, y1, p1, q1, s1, t1, m1, d1, r1, u1, hx, hy, hg, hp, hq, hs, ht, hm, hd, hr, hu, ha, hb⟩ | ⟨x1, y1, p1, q1, s1, t1, m1, d1, r1, u1, hx, hy, hg, hp, hq, hs, ht, hm, hd, hr, hu, ha, hb⟩
  · obtain rfl := fres_some hx ex
    obtain rfl := fres_some hy ey
    obtain rfl := fres_some hp G.ep
    obtain rfl := fres_some hq G.eq
    have es := G.es
    rw [hg] at es
    simp only [Bool.not_true, Bool.false_eq_true, if_false] at es
    obtain rfl := fres_some hs es
    obtain rfl := fres_some ht G.et
    obtain rfl := fres_some hm G.em
    obtain rfl := fres_some hd G.ed
    obtain rfl := fres_some hr G.er
    obtain rfl := fres_some hu G.et2
    rw [hg, ha, hb]; exact ⟨rfl, rfl⟩
  · obtain rfl := fres_some hx ex
    obtain rfl := fres_some hy ey
    obtain rfl := fres_some hp G.ep
    obtain rfl := fres_some hq G.eq
    have es := G.es
    rw [hg] at es
    simp only [Bool.not_false, if_true] at es
    obtain rfl := fres_some hs es
    obtain rfl := fres_some ht G.et
    obtain rfl := fres_some hm G.em
    obtain rfl := fres_some hd G.ed
    obtain rfl := fres_some hr G.er
    obtain rfl := fres_some hu G.et2
    rw [hg, ha, hb]; exact ⟨rfl, rfl⟩

/-- The conjugate's steps. -/
theorem GenOk.conj {x' y' sc : Nat} {neg : Bool} {p q s t m d r t2 : Nat} (G : GenOk x' y' sc neg p q s t m d r t2) (wy : Wd y') (fy : Fi y') : GenOk x' (fneg y') sc neg p q s t (fneg m) (fneg d) r t2 := by
  have e : hypotW x' (fneg y') = hypotW x' y' := hypotW_congr rfl (fneg_rg wy)
  have em := fmul_negr wy fin_HALF fy G.em
  obtain ⟨m', em', Rm, sm⟩ := mul_rnd fin_HALF (fneg_fi wy fy)
  have hm : m' = fneg m := by
    have : fmul 4602678819172646912 (fneg y') = some m' := em'
    rw [em] at this; simpa using this.symm
  subst hm
  have ht0 : rg t ≠ 0 := by
    intro h; have := G.t0; rw [val_pos_word G.Rt.sgn, h, rv_zero] at this; grind
  have ed := fdiv_negl G.Rm.wd G.fm G.Rt.fin ht0 G.ed
  obtain ⟨d', ed', Rd, sd⟩ := div_rnd (fneg_fi G.Rm.wd G.fm) G.Rt.fin ht0
  have hd : d' = fneg d := by
    have : fdiv (fneg m) t = some d' := ed'
    rw [ed] at this; simpa using this.symm
  subst hd
  have rd : rg (fneg d) = rg d := fneg_rg G.Rd.wd
  have rm : rg (fneg m) = rg m := fneg_rg G.Rm.wd
  rw [val_HALF] at Rm
  exact ⟨by rw [e]; exact G.ep, G.eq, G.es, G.et, em, ed, by rw [rd]; exact G.er, G.et2, by rw [e]; exact G.fh, by rw [e]; exact G.Rp, G.Rq, G.Rs, G.Rt, Rm, Rd, by rw [rd]; exact G.Rr, G.Rt2,
    G.sp, G.ss, by rw [fneg_sg G.Rm.wd, fneg_sg wy, G.sm], by rw [fneg_sg G.Rd.wd, fneg_sg wy, G.sd], G.sr, G.st2, G.fp, G.fq, G.fs, fneg_fi G.Rm.wd G.fm, fneg_fi G.Rd.wd G.fd, G.fr, G.ft2,
    by rw [rm]; exact G.ms, G.s0, G.t0, G.t2pos, by rw [e]; exact G.vp, by rw [fneg_val G.Rm.wd, fneg_val wy, G.vm]; grind⟩

/-- The scaling constants. -/
theorem c_quarter : val 4598175219545276416 = 1 / 4 ∧ Fi 4598175219545276416 ∧ sg 4598175219545276416 = false := ⟨by decide +kernel, by unfold Fi; decide, by decide⟩
theorem c_p54 : val 4850376798678024192 = 18014398509481984 ∧ Fi 4850376798678024192 ∧ sg 4850376798678024192 = false := ⟨by decide +kernel, by unfold Fi; decide, by decide⟩
theorem c_two : val 4611686018427387904 = 2 ∧ Fi 4611686018427387904 ∧ sg 4611686018427387904 = false := ⟨by decide +kernel, by unfold Fi; decide, by decide⟩
theorem c_m27 : val 4485585228861014016 = 1 / 134217728 ∧ Fi 4485585228861014016 ∧ sg 4485585228861014016 = false := ⟨by decide +kernel, by unfold Fi; decide, by decide⟩
theorem c_four : val 4616189618054758400 = 4 ∧ Num 4616189618054758400 := ⟨by decide +kernel, by unfold Num; decide⟩
/-- 2 ^ -1000. -/
def Q1000 : Rat := 4 * Q1002
theorem w_Q : Wd (21 * B) ∧ Num (21 * B) ∧ sg (21 * B) = false ∧ val (21 * B) = Q1002 := ⟨by unfold Wd; decide, by unfold Num; decide, by decide, by unfold Q1002; decide +kernel⟩
theorem w_P' : Wd (2045 * B) ∧ Num (2045 * B) ∧ sg (2045 * B) = false := ⟨by unfold Wd; decide, by unfold Num; decide, by decide⟩
theorem MAXF_4P : MAXF ≤ 4 * P1022 := by unfold P1022 MAXF; decide +kernel

/-- One part, scaled. -/
theorem scaled_part {x c : Nat} (hx : Wd x) (fx : Fi x) (fc : Fi c) (sc : sg c = false) (h : val (rg x) * val c ≤ P1022) :
    ∃ x', fmul x c = some x' ∧ Wd x' ∧ Fi x' ∧ sg x' = sg x ∧ Rnd e53 (val x * val c) x' ∧ val (rg x') ≤ P1022 ∧ (Q1002 ≤ val (rg x) * val c → Q1002 ≤ val (rg x')) := by
  obtain ⟨x', e, R, s⟩ := mul_rnd fx fc
  rw [sc, Bool.xor_false] at s
  have hA : 0 ≤ val (rg x) * val c := Rat.mul_nonneg (by rw [val_rg]; exact rv_nonneg _) (val_nonneg sc)
  have hv : val x * val c = pm (sg x) * (val (rg x) * val c) := by rw [val_pm x, val_rg, Rat.mul_assoc]
  obtain ⟨p1, p2, p3⟩ := w_P'
  obtain ⟨q1, q2, q3, q4⟩ := w_Q
  have b1 := (Rnd_abs R s hv hA _ p1 p2 p3).2 (by rw [w_P]; exact h)
  have b2 := (Rnd_abs R s hv hA _ q1 q2 q3).1
  rw [w_P] at b1
  rw [q4] at b2
  have fx' : Fi x' := by
    have hM := P1022_MAXF
    have h0 := P1022_pos
    refine R.fin ?_ ?_ <;> rw [hv] <;> unfold pm <;> cases sg x <;> simp <;> grind
  exact ⟨x', e, R.wd, fx', s, R, b1, b2⟩

theorem size_le {x : Nat} (fx : Fi x) : val (rg x) ≤ MAXF := by
  rw [val_rg]; unfold MAXF; exact rv_le_iff.2 (by unfold Fi at fx; have : (0 : Nat) < INF := by decide
                                                  omega)
theorem big4_false {x y : Nat} (nx : Num x) (ny : Num y) (h : big4 x y = false) : val (rg x) ≤ 4 ∧ val (rg y) ≤ 4 := by
  unfold big4 at h
  have nx' : Num (rg x) := by unfold Num at *; rw [rg_rg]; exact nx
  have ny' : Num (rg y) := by unfold Num at *; rw [rg_rg]; exact ny
  rw [fgt_val nx' c_four.2, fgt_val ny' c_four.2, c_four.1] at h
  simp at h
  constructor <;> grind

/-- Both parts finite, the second not too small: the steps exist. -/
theorem gen_exists {x y c sc : Nat} (hx : Wd x) (hy : Wd y) (fx : Fi x) (fy : Fi y) (hl : Q1000 ≤ val (rg y))
    (hc : (big4 x y = true ∧ c = 4598175219545276416 ∧ sc = 4611686018427387904) ∨ (big4 x y = false ∧ c = 4850376798678024192 ∧ sc = 4485585228861014016)) :
    ∃ x' y' p q s t m d r t2, fmul x c = some x' ∧ fmul y c = some y' ∧ Wd x' ∧ Wd y' ∧ Fi x' ∧ Fi y' ∧ sg x' = sg x ∧ sg y' = sg y ∧ Q1002 ≤ val (rg y') ∧
      Rnd e53 (val x * val c) x' ∧ Rnd e53 (val y * val c) y' ∧ GenOk x' y' sc (!fgt x' 0) p q s t m d r t2 := by
  have hQ := Q1002_pos
  have hP := one_le_P
  have h4 := MAXF_4P
  have e : ∃ vc vs : Rat, val c = vc ∧ val sc = vs ∧ Fi c ∧ Fi sc ∧ sg c = false ∧ sg sc = false ∧ vs ≤ 2 ∧ 1 / 134217728 ≤ vs ∧ val (rg x) * vc ≤ P1022 ∧ val (rg y) * vc ≤ P1022 ∧ Q1002 ≤ val (rg y) * vc := by
    unfold Q1000 at hl
    rcases hc with ⟨h, rfl, rfl⟩ | ⟨h, rfl, rfl⟩
    · have s1 := size_le fx
      have s2 := size_le fy
      refine ⟨1 / 4, 2, c_quarter.1, c_two.1, c_quarter.2.1, c_two.2.1, c_quarter.2.2, c_two.2.2, by decide +kernel, by decide +kernel, ?_, ?_, ?_⟩ <;> grind
    · obtain ⟨s1, s2⟩ := big4_false fx.num fy.num h
      refine ⟨18014398509481984, 1 / 134217728, c_p54.1, c_m27.1, c_p54.2.1, c_m27.2.1, c_p54.2.2, c_m27.2.2, by decide +kernel, by decide +kernel, ?_, ?_, ?_⟩ <;> grind
  obtain ⟨vc, vs, v1, v2, f1, f2, s1, s2, b1, b2, b3, b4, b5⟩ := e
  obtain ⟨x', ex, wx', fx', sx', Rx, bx, _⟩ := scaled_part hx fx f1 s1 (by rw [v1]; exact b3)
  obtain ⟨y', ey, wy', fy', sy', Ry, by', ly⟩ := scaled_part hy fy f1 s1 (by rw [v1]; exact b4)
  have ly' := ly (by rw [v1]; exact b5)
  obtain ⟨p, q, s, t, m, d, r, t2, G⟩ := gen_ok (x' := x') (y' := y') (sc := sc) (!fgt x' 0) wx' wy' fx' fy' bx by' ly' f2 s2 (by rw [v2]; exact b1) (by rw [v2]; exact b2) rfl
  exact ⟨x', y', p, q, s, t, m, d, r, t2, ex, ey, wx', wy', fx', fy', sx', sy', ly', Rx, Ry, G⟩

theorem flt_zero_ne {y : Nat} (hn : Num y) (h0 : rg y ≠ 0) : flt y 0 = sg y := by
  rw [flt_zero]; unfold minus; rw [isNan_false.2 hn]; simp [h0]

/-- The root of a positive number, +Inf among them. -/
theorem sqrt_pos {x : Nat} (hx : Wd x) (hn : Num x) (hs : sg x = false) (h0 : rg x ≠ 0) : ∃ z, fsqrt x = some z ∧ Wd z ∧ Num z ∧ sg z = false ∧ rg z ≠ 0 := by
  by_cases hI : rg x = INF
  · have : x = 9218868437227405312 := wd_ext hx (by unfold Wd; decide) (by rw [hs]; decide) (by rw [hI]; decide)
    subst this
    exact ⟨_, sqrt_inf, by unfold Wd; decide, by unfold Num; decide, by decide, by decide⟩
  · obtain ⟨z, e, R⟩ := sqrt_rnd (num_fin hn hI) hs h0
    refine ⟨z, e, R.wd, R.fin.num, R.sgn, ?_⟩
    intro h
    have hp := val_pos hs h0
    have hz : val z = 0 := by rw [val_pos_word R.sgn, h, rv_zero]
    have := R.errL
    rw [hz] at this
    have k : 0 < (1 - e52) * (1 - e52) := by unfold e52; decide +kernel
    have := Rat.mul_pos hp k
    grind

end Go.Proofs.Ytojjlkmeicdeeaa

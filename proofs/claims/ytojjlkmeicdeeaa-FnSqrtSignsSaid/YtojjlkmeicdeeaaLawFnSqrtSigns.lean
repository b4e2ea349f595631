/- Proved: for every two words that are no NaNs, the second 0 or at least 2^-1000 in size: both parts of the root are numbers, the first is not negative, not both are 0 unless the number is, the second has the sign of the second word, and the root of the conjugate is the conjugate. No condition. -/
import Derived.Test.YtojjlkmeicdeeaaRows
import Derived.Test.YtojjlkmeicdeeaaMid
import Derived.Test.YtojjlkmeicdeeaaHypotLaws
import Derived.Test.YtojjlkmeicdeeaaSqrtSigns
import Derived.Test.YtojjlkmeicdeeaaFrame
set_option linter.unusedSimpArgs false
set_option linter.unusedVariables false
namespace Go.Proofs.Ytojjlkmeicdeeaa.fnSqrtSigns
open Go.ChangeShapes Go.WideShapes Go.ChangeAt Go.RowKit F64

/-- What is said of the two roots. -/
structure Good (x y a b c d : Nat) : Prop where
  na : isNan a = false
  nb : isNan b = false
  sa : sg a = false
  nz : feq a 0 = true → feq b 0 = true → feq x 0 = true ∧ feq y 0 = true
  sb : minus b = minus y
  ca : c = a
  db : d = fneg b
theorem minus_num {x : Nat} (h : Num x) : minus x = sg x := by unfold minus; rw [isNan_false.2 h]; simp
theorem good_of {x y a b c d : Nat} (na : Num a) (nb : Num b) (ny : Num y) (sa : sg a = false) (nz : rg a = 0 → rg b = 0 → rg x = 0 ∧ rg y = 0) (sb : sg b = sg y) (ca : c = a) (db : d = fneg b) : Good x y a b c d :=
  ⟨isNan_false.2 na, isNan_false.2 nb, sa, fun h1 h2 => by
    rw [feq_zero] at *; rw [feq_zero]
    simp at h1 h2 ⊢
    exact nz h1 h2, by rw [minus_num nb, minus_num ny, sb], ca, db⟩

theorem finite_case {x y a b c d k sc : Nat} (hx : Wd x) (hy : Wd y) (fx : Fi x) (fy : Fi y) (hl : Q1000 ≤ val (rg y))
    (hc : (big4 x y = true ∧ k = 4598175219545276416 ∧ sc = 4611686018427387904) ∨ (big4 x y = false ∧ k = 4850376798678024192 ∧ sc = 4485585228861014016))
    (h1 : SqrtGen x y k sc a b) (h2 : SqrtGen x (fneg y) k sc c d) : Good x y a b c d := by
  obtain ⟨x', y', p, q, s, t, m, e, r, t2, ex, ey, wx', wy', fx', fy', sx', sy', ly, Rx, Ry, G⟩ := gen_exists hx hy fx fy hl hc
  have fk : Fi k := by
    rcases hc with ⟨_, rfl, _⟩ | ⟨_, rfl, _⟩
    · exact c_quarter.2.1
    · exact c_p54.2.1
  have hy0 : rg y' ≠ 0 := by
    intro h; have := Q1002_pos; rw [val_rg, h, rv_zero] at ly; grind
  obtain ⟨ha, hb⟩ := gen_val h1 ex ey G
  obtain ⟨hc', hd⟩ := gen_val h2 ex (fmul_negl hy fy fk ey) (G.conj wy' fy')
  have l1 : flt y' 0 = sg y' := flt_zero_ne fy'.num hy0
  have l2 : flt (fneg y') 0 = !sg y' := by rw [flt_zero_ne (fneg_num wy' fy'.num) (by rw [fneg_rg wy']; exact hy0), fneg_sg wy']
  have t2z : rg t2 ≠ 0 := by
    intro h; have := G.t2pos; rw [val_pos_word G.st2, h, rv_zero] at this; grind
  rw [l1] at hb
  rw [l2] at hd
  have wr := G.Rr.wd
  have wt := G.Rt2.wd
  cases hg : fgt x' 0 <;> rw [hg] at ha hb hc' hd <;> simp only [Bool.false_eq_true, if_false, if_true] at ha hb hc' hd <;> cases hs : sg y' <;> rw [hs] at hb hd <;> simp only [Bool.not_false, Bool.not_true, Bool.false_eq_true, if_false, if_true] at hb hd
  · refine good_of (by rw [ha]; exact G.fr.num) (by rw [hb]; exact G.ft2.num) fy.num (by rw [ha]; exact G.sr) (fun _ h => absurd (by rw [hb] at h; exact h) t2z) (by rw [hb, G.st2, ← sy', hs]) (by rw [ha, hc']) (by rw [hb, hd])
  · refine good_of (by rw [ha]; exact G.fr.num) (by rw [hb]; exact fneg_num wt G.ft2.num) fy.num (by rw [ha]; exact G.sr) (fun _ h => absurd (by rw [hb, fneg_rg wt] at h; exact h) t2z) (by rw [hb, fneg_sg wt, G.st2, ← sy', hs]; rfl) (by rw [ha, hc']) (by rw [hb, hd, fneg_fneg wt])
  · refine good_of (by rw [ha]; exact G.ft2.num) (by rw [hb]; exact G.fr.num) fy.num (by rw [ha]; exact G.st2) (fun h _ => absurd (by rw [ha] at h; exact h) t2z) (by rw [hb, G.sr, ← sy', hs]) (by rw [ha, hc']) (by rw [hb, hd])
  · refine good_of (by rw [ha]; exact G.ft2.num) (by rw [hb]; exact fneg_num wr G.fr.num) fy.num (by rw [ha]; exact G.st2) (fun h _ => absurd (by rw [ha] at h; exact h) t2z) (by rw [hb, fneg_sg wr, G.sr, ← sy', hs]; rfl) (by rw [ha, hc']) (by rw [hb, hd, fneg_fneg wr])

theorem inf_gen {x y a b k sc : Nat} (hx : Wd x) (hy : Wd y) (hI : rg x = INF) (fy : Fi y) (h0 : Q1000 ≤ val (rg y))
    (hb4 : k = 4598175219545276416 ∧ sc = 4611686018427387904) (h : SqrtGen x y k sc a b) :
    (sg x = false → a = 9218868437227405312 ∧ b = (if sg y then fneg 0 else 0)) ∧ (sg x = true → a = 0 ∧ b = (if sg y then fneg 9218868437227405312 else 9218868437227405312)) := by
  obtain ⟨rfl, rfl⟩ := hb4
  have hQ := Q1002_pos
  unfold Q1000 at h0
  obtain ⟨y', ey, wy', fy', sy', Ry, _, ly⟩ := scaled_part hy fy c_quarter.2.1 c_quarter.2.2 (by rw [c_quarter.1]; have := size_le fy; have := MAXF_4P; grind)
  have ly' := ly (by rw [c_quarter.1]; grind)
  have hy0 : rg y' ≠ 0 := by
    intro h; rw [val_rg, h, rv_zero] at ly'; grind
  obtain ⟨m, em, Rm, sm⟩ := mul_rnd fin_HALF fy'
  rw [sg_HALF, Bool.false_xor] at sm
  rw [val_HALF] at Rm
  have fm : Fi m := by
    have hP := P1022_MAXF
    have hP0 := P1022_pos
    have hM : val (rg y') ≤ MAXF := size_le fy'
    rw [val_rg] at hM
    have h1 := rv_nonneg (rg y')
    refine Rm.fin ?_ ?_ <;> rw [val_pm y'] <;> unfold pm <;> cases sg y' <;> simp <;> grind
  have l1 : flt y' 0 = sg y := by rw [flt_zero_ne fy'.num hy0, sy']
  have quo : ∀ d, FRes (fdiv m 9218868437227405312) d → rg d = 0 := by
    intro d hd
    obtain ⟨k, i, e1, _⟩ := read_fin fm
    have e : fdiv m 9218868437227405312 = some (Ieee.double.word (sg m ^^ sg 9218868437227405312) 0) := by
      unfold fdiv Ieee.Format.div
      rw [e1, read_inf (x := 9218868437227405312) (by decide)]
      simp only [Ieee.Datum.quotient, Option.map_some, Ieee.Format.write]
      unfold Ieee.Format.nearest; rw [if_pos rfl]
    rw [e] at hd
    have : d = _ := hd
    rw [this, word_rg (by decide)]
  have em' : fmul 4602678819172646912 y' = some m := em
  have z1 : fmul 4611686018427387904 0 = some 0 := by unfold fmul; decide +kernel
  have z2 : fmul 9218868437227405312 4611686018427387904 = some 9218868437227405312 := by unfold fmul; decide +kernel
  have z3 : fmul 4602678819172646912 9218868437227405312 = some 9218868437227405312 := by unfold fmul; decide +kernel
  have z4 : fadd 9218868437227405312 9218868437227405312 = some 9218868437227405312 := by unfold fadd; decide +kernel
  have z5 : fmul 4602678819172646912 18442240474082181120 = some 18442240474082181120 := by unfold fmul; decide +kernel
  have z6 : fsub 9218868437227405312 18442240474082181120 = some 9218868437227405312 := by unfold fsub; decide +kernel
  have z7 : fmul 9218868437227405312 4598175219545276416 = some 9218868437227405312 := by unfold fmul; decide +kernel
  have z8 : fmul 18442240474082181120 4598175219545276416 = some 18442240474082181120 := by unfold fmul; decide +kernel
  have g1 : fgt 9218868437227405312 0 = true := by decide +kernel
  have g2 : fgt 18442240474082181120 0 = false := by decide +kernel
  constructor
  · intro hs
    have ex : x = 9218868437227405312 := wd_ext hx (by unfold Wd; decide) (by rw [hs]; decide) (by rw [hI]; decide)
    subst ex
    have hh : hypotW 9218868437227405312 y' = 9218868437227405312 := hypotW_inf (Or.inl (by decide))
    rcases h with ⟨x1, y1, p1, q1, s1, t1, m1, d1, r1, u1, hx1, hy1, hg, hp, hq, hs1, ht, hm, hd, hr, hu, ha, hb⟩ | ⟨x1, y1, p1, q1, s1, t1, m1, d1, r1, u1, hx1, hy1, hg, hp, hq, hs1, ht, hm, hd, hr, hu, ha, hb⟩
    · obtain rfl := fres_some hx1 z7
      obtain rfl := fres_some hy1 ey
      rw [hh] at hp
      obtain rfl := fres_some hp z3
      obtain rfl := fres_some hq z3
      obtain rfl := fres_some hs1 z4
      obtain rfl := fres_some ht sqrt_inf
      obtain rfl := fres_some hm em'
      rw [quo _ hd] at hr
      obtain rfl := fres_some hr z1
      obtain rfl := fres_some hu z2
      rw [l1] at hb
      exact ⟨ha, hb⟩
    · obtain rfl := fres_some hx1 z7
      rw [g1] at hg; cases hg
  · intro hs
    have ex : x = 18442240474082181120 := wd_ext hx (by unfold Wd; decide) (by rw [hs]; decide) (by rw [hI]; decide)
    subst ex
    have hh : hypotW 18442240474082181120 y' = 9218868437227405312 := hypotW_inf (Or.inl (by decide))
    rcases h with ⟨x1, y1, p1, q1, s1, t1, m1, d1, r1, u1, hx1, hy1, hg, hp, hq, hs1, ht, hm, hd, hr, hu, ha, hb⟩ | ⟨x1, y1, p1, q1, s1, t1, m1, d1, r1, u1, hx1, hy1, hg, hp, hq, hs1, ht, hm, hd, hr, hu, ha, hb⟩
    · obtain rfl := fres_some hx1 z8
      rw [g2] at hg; cases hg
    · obtain rfl := fres_some hx1 z8
      obtain rfl := fres_some hy1 ey
      rw [hh] at hp
      obtain rfl := fres_some hp z3
      obtain rfl := fres_some hq z5
      obtain rfl := fres_some hs1 z6
      obtain rfl := fres_some ht sqrt_inf
      obtain rfl := fres_some hm em'
      rw [quo _ hd] at hr
      obtain rfl := fres_some hr z1
      obtain rfl := fres_some hu z2
      rw [l1] at hb
      exact ⟨ha, hb⟩
theorem inf_big {x y : Nat} (hI : rg x = INF) : big4 x y = true := by
  unfold big4; rw [hI]
  have : fgt INF 4616189618054758400 = true := by decide +kernel
  rw [this]; rfl

theorem signs {x y a b c d : Nat} (hx : Wd x) (hy : Wd y) (nx : Num x) (ny : Num y) (hl : feq y 0 = true ∨ Q1000 ≤ val (rg y))
    (h1 : SqrtRel x y a b) (h2 : SqrtRel x (fneg y) c d) : Good x y a b c d := by
  have e1 : feq (fneg y) 0 = feq y 0 := by rw [feq_zero, feq_zero, fneg_rg hy]
  have e2 : isInf (fneg y) = isInf y := by unfold isInf; rw [fneg_rg hy]
  have e3 : big4 x (fneg y) = big4 x y := by unfold big4; rw [fneg_rg hy]
  unfold SqrtRel at h1 h2
  rw [e1, e2, e3] at h2
  cases c1 : feq y 0
  · have hl' : Q1000 ≤ val (rg y) := by rw [c1] at hl; simpa using hl
    have hy0 : rg y ≠ 0 := by rw [feq_zero] at c1; simpa using c1
    have l1 : flt y 0 = sg y := flt_zero_ne ny hy0
    have l2 : flt (fneg y) 0 = !sg y := by rw [flt_zero_ne (fneg_num hy ny) (by rw [fneg_rg hy]; exact hy0), fneg_sg hy]
    cases c2 : isInf y
    · have fy : Fi y := num_fin ny (by unfold isInf at c2; simpa using c2)
      cases c3 : feq x 0
      · have hx0 : rg x ≠ 0 := by rw [feq_zero] at c3; simpa using c3
        simp only [c1, c2, c3, Bool.false_eq_true, false_and, false_or, true_and, Bool.true_eq_false] at h1 h2
        by_cases hI : rg x = INF
        · have hbg := inf_big (y := y) hI
          rw [hbg] at h1 h2
          simp only [true_and, Bool.true_eq_false, false_and, or_false] at h1 h2
          obtain ⟨i1, i2⟩ := inf_gen hx hy hI fy hl' ⟨rfl, rfl⟩ h1
          obtain ⟨j1, j2⟩ := inf_gen hx (fneg_wd hy) hI (fneg_fi hy fy) (by rw [fneg_rg hy]; exact hl') ⟨rfl, rfl⟩ h2
          rw [fneg_sg hy] at j1 j2
          have w0 : Wd 0 := by unfold Wd; decide
          have wI : Wd 9218868437227405312 := by unfold Wd; decide
          cases hsx : sg x
          · obtain ⟨ha, hb⟩ := i1 hsx
            obtain ⟨hc, hd⟩ := j1 hsx
            cases hsy : sg y <;> rw [hsy] at hb hd <;> simp only [Bool.not_false, Bool.not_true, Bool.false_eq_true, if_false, if_true] at hb hd
            · exact good_of (by rw [ha]; unfold Num; decide) (by rw [hb]; exact num_zero) ny (by rw [ha]; decide) (fun h _ => absurd h (by rw [ha]; decide)) (by rw [hb, hsy]; decide) (by rw [ha, hc]) (by rw [hb, hd])
            · exact good_of (by rw [ha]; unfold Num; decide) (by rw [hb]; exact fneg_num w0 num_zero) ny (by rw [ha]; decide) (fun h _ => absurd h (by rw [ha]; decide)) (by rw [hb, hsy]; decide) (by rw [ha, hc]) (by rw [hb, hd, fneg_fneg w0])
          · obtain ⟨ha, hb⟩ := i2 hsx
            obtain ⟨hc, hd⟩ := j2 hsx
            cases hsy : sg y <;> rw [hsy] at hb hd <;> simp only [Bool.not_false, Bool.not_true, Bool.false_eq_true, if_false, if_true] at hb hd
            · exact good_of (by rw [ha]; exact num_zero) (by rw [hb]; unfold Num; decide) ny (by rw [ha]; decide) (fun _ h => absurd h (by rw [hb]; decide)) (by rw [hb, hsy]; decide) (by rw [ha, hc]) (by rw [hb, hd])
            · exact good_of (by rw [ha]; exact num_zero) (by rw [hb]; unfold Num; decide) ny (by rw [ha]; decide) (fun _ h => absurd h (by rw [hb]; decide)) (by rw [hb, hsy]; decide) (by rw [ha, hc]) (by rw [hb, hd, fneg_fneg wI])
        · have fx : Fi x := num_fin nx hI
          cases c4 : big4 x y <;> rw [c4] at h1 h2 <;> simp only [true_and, Bool.true_eq_false, Bool.false_eq_true, false_and, or_false, false_or] at h1 h2
          · exact finite_case hx hy fx fy hl' (Or.inr ⟨c4, rfl, rfl⟩) h1 h2
          · exact finite_case hx hy fx fy hl' (Or.inl ⟨c4, rfl, rfl⟩) h1 h2
      · simp only [c1, c2, c3, l1, l2, Bool.false_eq_true, false_and, false_or, true_and, Bool.true_eq_false, or_false] at h1 h2
        have key : ∀ m, fmul 4602678819172646912 (rg y) = some m → ∃ z, fsqrt m = some z ∧ Wd z ∧ Num z ∧ sg z = false ∧ rg z ≠ 0 := by
          intro m em
          have fy' : Fi (rg y) := by unfold Fi at *; rw [rg_rg]; exact fy
          obtain ⟨m', em', Rm, sm⟩ := mul_rnd fin_HALF fy'
          have : m' = m := by
            have h : fmul 4602678819172646912 (rg y) = some m' := em'
            rw [em] at h; simpa using h.symm
          subst this
          rw [sg_HALF, sg_rg] at sm
          have hm : 0 < val m' := by
            obtain ⟨q1, q2, q3, q4⟩ := w_Q
            have hQ0 := Q1002_pos
            have h4 := Rm.lo _ q2 (by rw [q4, val_HALF]; unfold Q1000 at hl'; grind)
            rw [q4] at h4
            have := Q1002_pos
            grind
          have hm0 : rg m' ≠ 0 := by intro h; rw [val_pos_word sm, h, rv_zero] at hm; grind
          exact sqrt_pos Rm.wd Rm.num sm hm0
        have fy' : Fi (rg y) := by unfold Fi at *; rw [rg_rg]; exact fy
        obtain ⟨m, em, _, _⟩ := mul_rnd fin_HALF fy'
        have em' : fmul 4602678819172646912 (rg y) = some m := em
        obtain ⟨z, ez, wz, nz, sz, z0⟩ := key m em'
        have nh : (13826050856027422720 : Nat) = fneg 4602678819172646912 := by decide
        have wh : Wd 4602678819172646912 := by unfold Wd; decide
        have ey : y = if sg y then fneg (rg y) else rg y := by
          cases hs : sg y
          · have := word_self hy
            rw [hs, word_eq] at this; simpa using this.symm
          · simp only [if_true]
            exact wd_ext hy (fneg_wd (rg_wd _)) (by rw [fneg_sg (rg_wd _), sg_rg, hs]; rfl) (by rw [fneg_rg (rg_wd _), rg_rg])
        have en : fneg y = if sg y then rg y else fneg (rg y) := by
          cases hs : sg y
          · rw [hs] at ey; simp only [Bool.false_eq_true, if_false] at ey ⊢; rw [← ey]
          · rw [hs] at ey; simp only [if_true] at ey ⊢
            have h5 : fneg y = fneg (fneg (rg y)) := congrArg fneg ey
            rw [h5, fneg_fneg (rg_wd y)]
        have mm : fmul (fneg 4602678819172646912) (fneg (rg y)) = some m := by
          have h1 := fmul_negr (rg_wd y) (fneg_fi wh fin_HALF) fy' (fmul_negl wh fin_HALF fy' em')
          rwa [fneg_fneg (by have := Ieee.double.mul_lt em; exact wd_width this)] at h1
        cases hs : sg y <;> rw [hs] at h1 h2 ey en <;> simp only [Bool.not_false, Bool.not_true, Bool.false_eq_true, if_false, if_true, true_and, false_and, false_or, or_false, Bool.true_eq_false] at h1 h2 ey en
        · obtain ⟨m1, r1, a1, a2, a3, a4⟩ := h1
          obtain ⟨m2, r2, b1, b2, b3, b4⟩ := h2
          rw [ey] at a1
          obtain rfl := fres_some a1 em'
          obtain rfl := fres_some a2 ez
          rw [nh, en] at b1
          obtain rfl := fres_some b1 mm
          obtain rfl := fres_some b2 ez
          exact good_of (by rw [a3]; exact nz) (by rw [a4]; exact nz) ny (by rw [a3]; exact sz) (fun h _ => absurd h (by rw [a3]; exact z0)) (by rw [a4, sz, hs]) (by rw [a3, b3]) (by rw [a4, b4])
        · obtain ⟨m1, r1, a1, a2, a3, a4⟩ := h1
          obtain ⟨m2, r2, b1, b2, b3, b4⟩ := h2
          rw [nh, ey] at a1
          obtain rfl := fres_some a1 mm
          obtain rfl := fres_some a2 ez
          rw [en] at b1
          obtain rfl := fres_some b1 em'
          obtain rfl := fres_some b2 ez
          exact good_of (by rw [a3]; exact nz) (by rw [a4]; exact fneg_num wz nz) ny (by rw [a3]; exact sz) (fun h _ => absurd h (by rw [a3]; exact z0)) (by rw [a4, fneg_sg wz, sz, hs]; rfl) (by rw [a3, b3]) (by rw [a4, b4, fneg_fneg wz])
    · simp only [c1, c2, Bool.false_eq_true, false_and, false_or, true_and, Bool.true_eq_false, or_false] at h1 h2
      obtain ⟨ha, hb⟩ := h1
      obtain ⟨hc, hd⟩ := h2
      exact good_of (by rw [ha]; unfold Num; decide) (by rw [hb]; exact ny) ny (by rw [ha]; decide) (fun h _ => absurd h (by rw [ha]; decide)) (by rw [hb]) (by rw [ha, hc]) (by rw [hb, hd])
  · have hy0 : rg y = 0 := by rw [feq_zero] at c1; simpa using c1
    cases c3 : feq x 0
    · have hx0 : rg x ≠ 0 := by rw [feq_zero] at c3; simpa using c3
      cases c4 : flt x 0
      · simp only [c1, c3, c4, Bool.false_eq_true, false_and, false_or, true_and, Bool.true_eq_false, or_false] at h1 h2
        obtain ⟨h1a, h1b⟩ := h1
        obtain ⟨h2a, h2b⟩ := h2
        have hs : sg x = false := by rw [flt_zero_ne nx hx0] at c4; exact c4
        obtain ⟨r, e, wr, nr, sr, r0⟩ := sqrt_pos hx nx hs hx0
        obtain rfl := fres_some h1a e
        obtain rfl := fres_some h2a e
        exact good_of nr (by rw [h1b]; exact ny) ny sr (fun h _ => absurd h r0) (by rw [h1b]) rfl (by rw [h1b, h2b])
      · simp only [c1, c3, c4, Bool.false_eq_true, false_and, false_or, true_and, Bool.true_eq_false, or_false] at h1 h2
        obtain ⟨ha, r1, hr1, hb⟩ := h1
        obtain ⟨hc, r2, hr2, hd⟩ := h2
        have hs : sg x = true := by rw [flt_zero_ne nx hx0] at c4; exact c4
        obtain ⟨r, e, wr, nr, sr, r0⟩ := sqrt_pos (fneg_wd hx) (fneg_num hx nx) (by rw [fneg_sg hx, hs]; rfl) (by rw [fneg_rg hx]; exact hx0)
        obtain rfl := fres_some hr1 e
        obtain rfl := fres_some hr2 e
        refine good_of (by rw [ha]; exact num_zero) (by rw [hb]; unfold Num; rw [copyW_rg]; exact nr) ny (by rw [ha]; decide) (fun _ h => absurd (by rw [hb, copyW_rg] at h; exact h) r0) (by rw [hb, copyW_sg]) (by rw [ha, hc]) ?_
        rw [hb, hd]
        exact wd_ext (copyW_wd _ _) (fneg_wd (copyW_wd _ _)) (by rw [copyW_sg, fneg_sg (copyW_wd _ _), copyW_sg, fneg_sg hy]) (by rw [copyW_rg, fneg_rg (copyW_wd _ _), copyW_rg])
    · simp only [c1, c3, Bool.false_eq_true, false_and, false_or, true_and, Bool.true_eq_false, or_false] at h1 h2
      obtain ⟨ha, hb⟩ := h1
      obtain ⟨hc, hd⟩ := h2
      exact good_of (by rw [ha]; exact num_zero) (by rw [hb]; exact ny) ny (by rw [ha]; decide) (fun _ _ => ⟨by rw [feq_zero] at c3; simpa using c3, hy0⟩) (by rw [hb]) (by rw [ha, hc]) (by rw [hb, hd])

theorem low_word : val (powW (-1000)) = Q1000 := by unfold Q1000 Q1002; decide +kernel
theorem not_low {y : Nat} (hy : Wd y) (ny : Num y) (h : flt (sizeW y) (powW (-1000)) = false) : Q1000 ≤ val (rg y) := by
  rw [sizeW_num hy ny, flt_val (by unfold Num at *; rw [rg_rg]; exact ny) (by unfold Num; decide), low_word] at h
  simp at h
  grind

set_option maxRecDepth 100000 in
set_option maxHeartbeats 1000000 in
theorem walk_main (x y : Nat) (hx : Wd x) (hy : Wd y) (w : World) (h1 : isNan x = false) (h2 : isNan y = false) (h : feq y 0 = true ∨ (feq y 0 = false ∧ flt (sizeW y) (powW (-1000)) = false)) :
    Calls Try.prog 11 #[.float .f64 x, .float .f64 y] w fun e w' => e = .returned (.bool true) ∧ Grown w w' := by
  have hny := fneg_wd hy
  have hw := sizeW_wd hy
  have H : Hid (∀ a b c d, SqrtRel x y a b → SqrtRel x (fneg y) c d → Good x y a b c d) := fun a b c d r1 r2 =>
    signs hx hy (isNan_false.1 h1) (isNan_false.1 h2) (h.elim Or.inl fun h' => Or.inr (not_low hy (isNan_false.1 h2) h'.2)) r1 r2
  rcases h with h3 | ⟨h3, h4⟩
  · go_enter Try.func11, Try.ntmps11
    go_wp2_with (first | (go_at_call 19; refine (isNan_any _ _).mono ?_; rintro e w' ⟨rfl, rfl⟩) | (go_at_call 20; refine (infinity_any _).mono ?_; rintro e w' ⟨rfl, rfl⟩) | (go_at_call 35; refine (isInf_any _ _ (by assumption)).mono ?_; rintro e w' ⟨rfl, rfl⟩) | (go_at_call 17; refine (isFinite_any _ _ (by assumption)).mono ?_; rintro e w' ⟨rfl, rfl⟩) | (go_at_call 31; refine (minus_any _ _ (by assumption)).mono ?_; rintro e w' ⟨rfl, rfl⟩) | (go_at_call 26; refine (size_any _ _ (by assumption)).mono ?_; rintro e w' ⟨rfl, rfl⟩) | (go_at_call 32; refine (like_any _ _ _ (by assumption) (by assumption)).mono ?_; rintro e w' ⟨rfl, rfl⟩) | (go_at_call 22; refine (same_any _ _ _ (by assumption) (by assumption)).mono ?_; rintro e w' ⟨rfl, rfl⟩) | (go_at_call 21; refine (conj_any _ _ _).mono ?_; rintro e w' ⟨rfl, rfl⟩) | (go_at_call 15; refine (isInf2_any _ _ _ (by assumption) (by assumption)).mono ?_; rintro e w' ⟨rfl, rfl⟩) | (go_at_call 16; refine (isNaN2_any _ _ _ (by assumption) (by assumption)).mono ?_; rintro e w' ⟨rfl, rfl⟩) | (go_at_call 18; refine (abs_any _ _ _).mono ?_; rintro e w' ⟨rfl, rfl⟩) | (go_at_call 27; refine (realHypot_any _ _ _).mono ?_; rintro e w' ⟨rfl, rfl⟩) | (go_at_call 54; refine (mAbs_any _ _ (by assumption)).mono ?_; rintro e w' ⟨rfl, rfl⟩))
    refine (sqrt2_any _ _ _ hx hy).mono ?_
    rintro e w' ⟨a, b, n, hr, wa, wb, rfl, rfl⟩
    go_wp2_with (first | (go_at_call 19; refine (isNan_any _ _).mono ?_; rintro e w' ⟨rfl, rfl⟩) | (go_at_call 20; refine (infinity_any _).mono ?_; rintro e w' ⟨rfl, rfl⟩) | (go_at_call 35; refine (isInf_any _ _ (by assumption)).mono ?_; rintro e w' ⟨rfl, rfl⟩) | (go_at_call 17; refine (isFinite_any _ _ (by assumption)).mono ?_; rintro e w' ⟨rfl, rfl⟩) | (go_at_call 31; refine (minus_any _ _ (by assumption)).mono ?_; rintro e w' ⟨rfl, rfl⟩) | (go_at_call 26; refine (size_any _ _ (by assumption)).mono ?_; rintro e w' ⟨rfl, rfl⟩) | (go_at_call 32; refine (like_any _ _ _ (by assumption) (by assumption)).mono ?_; rintro e w' ⟨rfl, rfl⟩) | (go_at_call 22; refine (same_any _ _ _ (by assumption) (by assumption)).mono ?_; rintro e w' ⟨rfl, rfl⟩) | (go_at_call 21; refine (conj_any _ _ _).mono ?_; rintro e w' ⟨rfl, rfl⟩) | (go_at_call 15; refine (isInf2_any _ _ _ (by assumption) (by assumption)).mono ?_; rintro e w' ⟨rfl, rfl⟩) | (go_at_call 16; refine (isNaN2_any _ _ _ (by assumption) (by assumption)).mono ?_; rintro e w' ⟨rfl, rfl⟩) | (go_at_call 18; refine (abs_any _ _ _).mono ?_; rintro e w' ⟨rfl, rfl⟩) | (go_at_call 27; refine (realHypot_any _ _ _).mono ?_; rintro e w' ⟨rfl, rfl⟩) | (go_at_call 54; refine (mAbs_any _ _ (by assumption)).mono ?_; rintro e w' ⟨rfl, rfl⟩))
    refine (sqrt2_any _ _ _ hx hny).mono ?_
    rintro e w' ⟨c, d, n2, hr2, wc, wd, rfl, rfl⟩
    obtain ⟨g1, g2, g3, g4, g5, g6, g7⟩ := H.out a b c d hr hr2
    have G3 : Hid (fgt a 0 = !feq a 0) := by
      show fgt a 0 = !feq a 0
      rw [fgt_zero, g3, g1, feq_zero]; rfl
    have G4 := hidd g4
    clear hr hr2 H g3 g4
    have s1 := same_self a
    have s2 := same_self (fneg b)
    have wnb := fneg_wd wb
    subst g6 g7
    cases k1 : feq c 0 <;> cases k2 : feq b 0 <;> cases k3 : feq x 0
    all_goals
      have k4 := G3.out
      rw [k1] at k4
      simp only [Bool.not_true, Bool.not_false] at k4
      first
        | (exact absurd (G4.out k1 k2).1 (by rw [k3]; decide))
        | (go_wp2_with (first | (go_at_call 19; refine (isNan_any _ _).mono ?_; rintro e w' ⟨rfl, rfl⟩) | (go_at_call 20; refine (infinity_any _).mono ?_; rintro e w' ⟨rfl, rfl⟩) | (go_at_call 35; refine (isInf_any _ _ (by assumption)).mono ?_; rintro e w' ⟨rfl, rfl⟩) | (go_at_call 17; refine (isFinite_any _ _ (by assumption)).mono ?_; rintro e w' ⟨rfl, rfl⟩) | (go_at_call 31; refine (minus_any _ _ (by assumption)).mono ?_; rintro e w' ⟨rfl, rfl⟩) | (go_at_call 26; refine (size_any _ _ (by assumption)).mono ?_; rintro e w' ⟨rfl, rfl⟩) | (go_at_call 32; refine (like_any _ _ _ (by assumption) (by assumption)).mono ?_; rintro e w' ⟨rfl, rfl⟩) | (go_at_call 22; refine (same_any _ _ _ (by assumption) (by assumption)).mono ?_; rintro e w' ⟨rfl, rfl⟩) | (go_at_call 21; refine (conj_any _ _ _).mono ?_; rintro e w' ⟨rfl, rfl⟩) | (go_at_call 15; refine (isInf2_any _ _ _ (by assumption) (by assumption)).mono ?_; rintro e w' ⟨rfl, rfl⟩) | (go_at_call 16; refine (isNaN2_any _ _ _ (by assumption) (by assumption)).mono ?_; rintro e w' ⟨rfl, rfl⟩) | (go_at_call 18; refine (abs_any _ _ _).mono ?_; rintro e w' ⟨rfl, rfl⟩) | (go_at_call 27; refine (realHypot_any _ _ _).mono ?_; rintro e w' ⟨rfl, rfl⟩) | (go_at_call 54; refine (mAbs_any _ _ (by assumption)).mono ?_; rintro e w' ⟨rfl, rfl⟩))
           go_ret
           exact ⟨rfl, grown_drewN _ _⟩)
  · go_enter Try.func11, Try.ntmps11
    go_wp2_with (first | (go_at_call 24; refine (bound_any _ _ (by omega) (by omega)).mono ?_; rintro e w' ⟨rfl, rfl⟩) | first | (go_at_call 19; refine (isNan_any _ _).mono ?_; rintro e w' ⟨rfl, rfl⟩) | (go_at_call 20; refine (infinity_any _).mono ?_; rintro e w' ⟨rfl, rfl⟩) | (go_at_call 35; refine (isInf_any _ _ (by assumption)).mono ?_; rintro e w' ⟨rfl, rfl⟩) | (go_at_call 17; refine (isFinite_any _ _ (by assumption)).mono ?_; rintro e w' ⟨rfl, rfl⟩) | (go_at_call 31; refine (minus_any _ _ (by assumption)).mono ?_; rintro e w' ⟨rfl, rfl⟩) | (go_at_call 26; refine (size_any _ _ (by assumption)).mono ?_; rintro e w' ⟨rfl, rfl⟩) | (go_at_call 32; refine (like_any _ _ _ (by assumption) (by assumption)).mono ?_; rintro e w' ⟨rfl, rfl⟩) | (go_at_call 22; refine (same_any _ _ _ (by assumption) (by assumption)).mono ?_; rintro e w' ⟨rfl, rfl⟩) | (go_at_call 21; refine (conj_any _ _ _).mono ?_; rintro e w' ⟨rfl, rfl⟩) | (go_at_call 15; refine (isInf2_any _ _ _ (by assumption) (by assumption)).mono ?_; rintro e w' ⟨rfl, rfl⟩) | (go_at_call 16; refine (isNaN2_any _ _ _ (by assumption) (by assumption)).mono ?_; rintro e w' ⟨rfl, rfl⟩) | (go_at_call 18; refine (abs_any _ _ _).mono ?_; rintro e w' ⟨rfl, rfl⟩) | (go_at_call 27; refine (realHypot_any _ _ _).mono ?_; rintro e w' ⟨rfl, rfl⟩) | (go_at_call 54; refine (mAbs_any _ _ (by assumption)).mono ?_; rintro e w' ⟨rfl, rfl⟩))
    refine (sqrt2_any _ _ _ hx hy).mono ?_
    rintro e w' ⟨a, b, n, hr, wa, wb, rfl, rfl⟩
    go_wp2_with (first | (go_at_call 19; refine (isNan_any _ _).mono ?_; rintro e w' ⟨rfl, rfl⟩) | (go_at_call 20; refine (infinity_any _).mono ?_; rintro e w' ⟨rfl, rfl⟩) | (go_at_call 35; refine (isInf_any _ _ (by assumption)).mono ?_; rintro e w' ⟨rfl, rfl⟩) | (go_at_call 17; refine (isFinite_any _ _ (by assumption)).mono ?_; rintro e w' ⟨rfl, rfl⟩) | (go_at_call 31; refine (minus_any _ _ (by assumption)).mono ?_; rintro e w' ⟨rfl, rfl⟩) | (go_at_call 26; refine (size_any _ _ (by assumption)).mono ?_; rintro e w' ⟨rfl, rfl⟩) | (go_at_call 32; refine (like_any _ _ _ (by assumption) (by assumption)).mono ?_; rintro e w' ⟨rfl, rfl⟩) | (go_at_call 22; refine (same_any _ _ _ (by assumption) (by assumption)).mono ?_; rintro e w' ⟨rfl, rfl⟩) | (go_at_call 21; refine (conj_any _ _ _).mono ?_; rintro e w' ⟨rfl, rfl⟩) | (go_at_call 15; refine (isInf2_any _ _ _ (by assumption) (by assumption)).mono ?_; rintro e w' ⟨rfl, rfl⟩) | (go_at_call 16; refine (isNaN2_any _ _ _ (by assumption) (by assumption)).mono ?_; rintro e w' ⟨rfl, rfl⟩) | (go_at_call 18; refine (abs_any _ _ _).mono ?_; rintro e w' ⟨rfl, rfl⟩) | (go_at_call 27; refine (realHypot_any _ _ _).mono ?_; rintro e w' ⟨rfl, rfl⟩) | (go_at_call 54; refine (mAbs_any _ _ (by assumption)).mono ?_; rintro e w' ⟨rfl, rfl⟩))
    refine (sqrt2_any _ _ _ hx hny).mono ?_
    rintro e w' ⟨c, d, n2, hr2, wc, wd, rfl, rfl⟩
    obtain ⟨g1, g2, g3, g4, g5, g6, g7⟩ := H.out a b c d hr hr2
    have G3 : Hid (fgt a 0 = !feq a 0) := by
      show fgt a 0 = !feq a 0
      rw [fgt_zero, g3, g1, feq_zero]; rfl
    have G4 := hidd g4
    clear hr hr2 H g3 g4
    have s1 := same_self a
    have s2 := same_self (fneg b)
    have wnb := fneg_wd wb
    subst g6 g7
    cases k1 : feq c 0 <;> cases k2 : feq b 0 <;> cases k3 : feq x 0
    all_goals
      have k4 := G3.out
      rw [k1] at k4
      simp only [Bool.not_true, Bool.not_false] at k4
      first
        | (exact absurd (G4.out k1 k2).2 (by rw [h3]; decide))
        | (go_wp2_with (first | (go_at_call 19; refine (isNan_any _ _).mono ?_; rintro e w' ⟨rfl, rfl⟩) | (go_at_call 20; refine (infinity_any _).mono ?_; rintro e w' ⟨rfl, rfl⟩) | (go_at_call 35; refine (isInf_any _ _ (by assumption)).mono ?_; rintro e w' ⟨rfl, rfl⟩) | (go_at_call 17; refine (isFinite_any _ _ (by assumption)).mono ?_; rintro e w' ⟨rfl, rfl⟩) | (go_at_call 31; refine (minus_any _ _ (by assumption)).mono ?_; rintro e w' ⟨rfl, rfl⟩) | (go_at_call 26; refine (size_any _ _ (by assumption)).mono ?_; rintro e w' ⟨rfl, rfl⟩) | (go_at_call 32; refine (like_any _ _ _ (by assumption) (by assumption)).mono ?_; rintro e w' ⟨rfl, rfl⟩) | (go_at_call 22; refine (same_any _ _ _ (by assumption) (by assumption)).mono ?_; rintro e w' ⟨rfl, rfl⟩) | (go_at_call 21; refine (conj_any _ _ _).mono ?_; rintro e w' ⟨rfl, rfl⟩) | (go_at_call 15; refine (isInf2_any _ _ _ (by assumption) (by assumption)).mono ?_; rintro e w' ⟨rfl, rfl⟩) | (go_at_call 16; refine (isNaN2_any _ _ _ (by assumption) (by assumption)).mono ?_; rintro e w' ⟨rfl, rfl⟩) | (go_at_call 18; refine (abs_any _ _ _).mono ?_; rintro e w' ⟨rfl, rfl⟩) | (go_at_call 27; refine (realHypot_any _ _ _).mono ?_; rintro e w' ⟨rfl, rfl⟩) | (go_at_call 54; refine (mAbs_any _ _ (by assumption)).mono ?_; rintro e w' ⟨rfl, rfl⟩))
           go_ret
           exact ⟨rfl, grown_drewN _ _⟩)
theorem walk (x y : Nat) (hx : Wd x) (hy : Wd y) (w : World) :
    Calls Try.prog 11 #[.float .f64 x, .float .f64 y] w fun e w' => e = .returned (.bool true) ∧ Grown w w' := by
  cases h1 : isNan x
  · cases h2 : isNan y
    · cases h3 : feq y 0
      · cases h4 : flt (sizeW y) (powW (-1000))
        · exact walk_main x y hx hy w h1 h2 (Or.inr ⟨h3, h4⟩)
        · have hw := sizeW_wd hy
          go_enter Try.func11, Try.ntmps11
          go_wp2_with (first | (go_at_call 24; refine (bound_any _ _ (by omega) (by omega)).mono ?_; rintro e w' ⟨rfl, rfl⟩) | first | (go_at_call 19; refine (isNan_any _ _).mono ?_; rintro e w' ⟨rfl, rfl⟩) | (go_at_call 20; refine (infinity_any _).mono ?_; rintro e w' ⟨rfl, rfl⟩) | (go_at_call 35; refine (isInf_any _ _ (by assumption)).mono ?_; rintro e w' ⟨rfl, rfl⟩) | (go_at_call 17; refine (isFinite_any _ _ (by assumption)).mono ?_; rintro e w' ⟨rfl, rfl⟩) | (go_at_call 31; refine (minus_any _ _ (by assumption)).mono ?_; rintro e w' ⟨rfl, rfl⟩) | (go_at_call 26; refine (size_any _ _ (by assumption)).mono ?_; rintro e w' ⟨rfl, rfl⟩) | (go_at_call 32; refine (like_any _ _ _ (by assumption) (by assumption)).mono ?_; rintro e w' ⟨rfl, rfl⟩) | (go_at_call 22; refine (same_any _ _ _ (by assumption) (by assumption)).mono ?_; rintro e w' ⟨rfl, rfl⟩) | (go_at_call 21; refine (conj_any _ _ _).mono ?_; rintro e w' ⟨rfl, rfl⟩) | (go_at_call 15; refine (isInf2_any _ _ _ (by assumption) (by assumption)).mono ?_; rintro e w' ⟨rfl, rfl⟩) | (go_at_call 16; refine (isNaN2_any _ _ _ (by assumption) (by assumption)).mono ?_; rintro e w' ⟨rfl, rfl⟩) | (go_at_call 18; refine (abs_any _ _ _).mono ?_; rintro e w' ⟨rfl, rfl⟩) | (go_at_call 27; refine (realHypot_any _ _ _).mono ?_; rintro e w' ⟨rfl, rfl⟩) | (go_at_call 54; refine (mAbs_any _ _ (by assumption)).mono ?_; rintro e w' ⟨rfl, rfl⟩))
          go_ret
          exact ⟨rfl, Grown.refl _⟩
      · exact walk_main x y hx hy w h1 h2 (Or.inl h3)
    · go_enter Try.func11, Try.ntmps11
      go_wp2_with (first | (go_at_call 19; refine (isNan_any _ _).mono ?_; rintro e w' ⟨rfl, rfl⟩) | (go_at_call 20; refine (infinity_any _).mono ?_; rintro e w' ⟨rfl, rfl⟩) | (go_at_call 35; refine (isInf_any _ _ (by assumption)).mono ?_; rintro e w' ⟨rfl, rfl⟩) | (go_at_call 17; refine (isFinite_any _ _ (by assumption)).mono ?_; rintro e w' ⟨rfl, rfl⟩) | (go_at_call 31; refine (minus_any _ _ (by assumption)).mono ?_; rintro e w' ⟨rfl, rfl⟩) | (go_at_call 26; refine (size_any _ _ (by assumption)).mono ?_; rintro e w' ⟨rfl, rfl⟩) | (go_at_call 32; refine (like_any _ _ _ (by assumption) (by assumption)).mono ?_; rintro e w' ⟨rfl, rfl⟩) | (go_at_call 22; refine (same_any _ _ _ (by assumption) (by assumption)).mono ?_; rintro e w' ⟨rfl, rfl⟩) | (go_at_call 21; refine (conj_any _ _ _).mono ?_; rintro e w' ⟨rfl, rfl⟩) | (go_at_call 15; refine (isInf2_any _ _ _ (by assumption) (by assumption)).mono ?_; rintro e w' ⟨rfl, rfl⟩) | (go_at_call 16; refine (isNaN2_any _ _ _ (by assumption) (by assumption)).mono ?_; rintro e w' ⟨rfl, rfl⟩) | (go_at_call 18; refine (abs_any _ _ _).mono ?_; rintro e w' ⟨rfl, rfl⟩) | (go_at_call 27; refine (realHypot_any _ _ _).mono ?_; rintro e w' ⟨rfl, rfl⟩) | (go_at_call 54; refine (mAbs_any _ _ (by assumption)).mono ?_; rintro e w' ⟨rfl, rfl⟩))
      go_ret
      exact ⟨rfl, Grown.refl _⟩
  · go_enter Try.func11, Try.ntmps11
    go_wp2_with (first | (go_at_call 19; refine (isNan_any _ _).mono ?_; rintro e w' ⟨rfl, rfl⟩) | (go_at_call 20; refine (infinity_any _).mono ?_; rintro e w' ⟨rfl, rfl⟩) | (go_at_call 35; refine (isInf_any _ _ (by assumption)).mono ?_; rintro e w' ⟨rfl, rfl⟩) | (go_at_call 17; refine (isFinite_any _ _ (by assumption)).mono ?_; rintro e w' ⟨rfl, rfl⟩) | (go_at_call 31; refine (minus_any _ _ (by assumption)).mono ?_; rintro e w' ⟨rfl, rfl⟩) | (go_at_call 26; refine (size_any _ _ (by assumption)).mono ?_; rintro e w' ⟨rfl, rfl⟩) | (go_at_call 32; refine (like_any _ _ _ (by assumption) (by assumption)).mono ?_; rintro e w' ⟨rfl, rfl⟩) | (go_at_call 22; refine (same_any _ _ _ (by assumption) (by assumption)).mono ?_; rintro e w' ⟨rfl, rfl⟩) | (go_at_call 21; refine (conj_any _ _ _).mono ?_; rintro e w' ⟨rfl, rfl⟩) | (go_at_call 15; refine (isInf2_any _ _ _ (by assumption) (by assumption)).mono ?_; rintro e w' ⟨rfl, rfl⟩) | (go_at_call 16; refine (isNaN2_any _ _ _ (by assumption) (by assumption)).mono ?_; rintro e w' ⟨rfl, rfl⟩) | (go_at_call 18; refine (abs_any _ _ _).mono ?_; rintro e w' ⟨rfl, rfl⟩) | (go_at_call 27; refine (realHypot_any _ _ _).mono ?_; rintro e w' ⟨rfl, rfl⟩) | (go_at_call 54; refine (mAbs_any _ _ (by assumption)).mono ?_; rintro e w' ⟨rfl, rfl⟩))
    go_ret
    exact ⟨rfl, Grown.refl _⟩

theorem own : ownKnob Try.prog.godebug = none := by kernel_rfl
set_option maxRecDepth 100000 in
theorem lifted (os : Os) (started : os.Started) (H : Type) (enc : TypeId × Value → H) :
    ReturnsInHanded {} Try.checked os 11 .any (Rows.fnSqrtSignsSpec.pre6 enc Try.prog Try.f11 Rows.fnSqrtSignsRow.domain false) (Rows.fnSqrtSignsSpec.post enc Try.prog Try.f11 false true false false) := by
  refine returnsInHanded_of_change (C := Try.checked) own started (by kernel_rfl) Try.func11
    (ChangeSpec.witness6 (enc := enc) (C := Try.checked) false ⟨#[], #[.float .f64 0, .float .f64 0], []⟩ 8 (by kernel_rfl) (by kernel_rfl) (by kernel_rfl) (by kernel_rfl)) ?_
  intro W base args ds gs before hval0 hW hcnd _
  have hval : ∀ (j : Nat) t v, Try.f11.params[j]? = some t → args[j]? = some v → Value.okWide Try.prog W .any base t v := hval0
  have hW' := hW
  obtain ⟨p, q, hA0, hV, rfl, hfz, hnd⟩ := hW
  have hA : DataW.TrodAll enc Try.prog W 0 (fun _ => true) true Try.f11.params.toList args.toList ds p := hA0
  rw [Try.params11] at hA hval
  obtain ⟨v0, vs0, d0, ds0, p0, q0, hargs, rfl, rfl, h0, r0⟩ := trodAll_cons hA
  obtain ⟨v1, vs1, d1, ds1, p1, q1, rfl, rfl, rfl, h1, r1⟩ := trodAll_cons r0
  obtain ⟨rfl, rfl, rfl⟩ := trodAll_nil r1
  obtain rfl : args = #[v0, v1] := by cases args; simp_all
  obtain ⟨rfl, rfl⟩ := trodVars_none hV
  obtain ⟨a0, rfl, rfl, rfl, w0⟩ := open_float Try.underlying22 (hval 0 22 v0 rfl rfl) h0
  obtain ⟨a1, rfl, rfl, rfl, w1⟩ := open_float Try.underlying22 (hval 1 22 v1 rfl rfl) h1
  clear hA0 hval0
  simp only [List.append_nil] at hW'
  refine (walk a0 a1 (wd_of_wf w0) (wd_of_wf w1) W).mono fun e W' ⟨he, hg⟩ => ?_
  subst he
  exact ⟨_, rfl, post_of_same (pa := []) (pv := []) hW' (fun _ _ _ => (trodAll_cons_mk (shut_bool Try.underlying4 _) trodAll_mk0)) (fun sp _ => (trodAll_cons_mk (shut_float Try.underlying22 w0) (trodAll_cons_mk (shut_float Try.underlying22 w1) trodAll_mk0))) (fun _ _ => rfl) rfl
    (hg.frame _) hg.2.1 (ok_one (by kernel_rfl) rfl (okWide_bool_mk Try.underlying4 _))⟩
theorem over : Rows.fnSqrtSignsRow.holds Try.pinned (OpenSpec.ofChange Rows.fnSqrtSignsSpec) :=
  OpenClaim.holds_of_wide 11 Try.f11 rfl rfl rfl rfl rfl rfl rfl ⟨rfl, rfl, rfl, rfl, rfl⟩ rfl rfl rfl rfl rfl (by kernel_rfl) Try.func11 (by kernel_rfl)
    (of_decide_eq_true (by kernel_rfl)) (by unfold Func.isWrapper; first | (rw [if_pos (by decide +kernel)]; kernel_rfl) | (rw [if_neg (by decide +kernel)]; exact ⟨rfl, rfl⟩))
    (fun os started H enc _ => lifted os started H enc)
/-- The given statement. -/
theorem proved : Rows.FnSqrtSignsSaid := over
end Go.Proofs.Ytojjlkmeicdeeaa.fnSqrtSigns

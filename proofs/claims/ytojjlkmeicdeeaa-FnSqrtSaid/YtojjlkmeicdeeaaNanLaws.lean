/- Operations on what is no number give no number. -/
import Derived.Test.YtojjlkmeicdeeaaSqrtSigns
set_option linter.unusedSimpArgs false
set_option linter.unusedVariables false
namespace Go.Proofs.Ytojjlkmeicdeeaa
open F64

theorem nan_read {x : Nat} (h : ¬ Num x) : ∃ s f, Ieee.double.read x = .nan s f := ⟨_, _, read_nan (by unfold Num at h; omega)⟩
theorem fmul_nanl {x y r : Nat} (h : ¬ Num x) (e : FRes (fmul x y) r) : ¬ Num r := by
  obtain ⟨s, f, hr⟩ := nan_read h
  have : fmul x y = none := by unfold fmul Ieee.Format.mul; rw [hr]; rfl
  rw [this] at e; exact e.1
theorem fmul_nanr {x y r : Nat} (h : ¬ Num y) (e : FRes (fmul x y) r) : ¬ Num r := by
  obtain ⟨s, f, hr⟩ := nan_read h
  have : fmul x y = none := by unfold fmul Ieee.Format.mul; rw [hr]; cases Ieee.double.read x <;> rfl
  rw [this] at e; exact e.1
theorem fadd_nanl {x y r : Nat} (h : ¬ Num x) (e : FRes (fadd x y) r) : ¬ Num r := by
  obtain ⟨s, f, hr⟩ := nan_read h
  have : fadd x y = none := by unfold fadd Ieee.Format.add; rw [hr]; rfl
  rw [this] at e; exact e.1
theorem fsub_nanl {x y r : Nat} (h : ¬ Num x) (e : FRes (fsub x y) r) : ¬ Num r := by
  obtain ⟨s, f, hr⟩ := nan_read h
  have : fsub x y = none := by unfold fsub Ieee.Format.sub; rw [hr]; rfl
  rw [this] at e; exact e.1
theorem fdiv_nanl {x y r : Nat} (h : ¬ Num x) (e : FRes (fdiv x y) r) : ¬ Num r := by
  obtain ⟨s, f, hr⟩ := nan_read h
  have : fdiv x y = none := by unfold fdiv Ieee.Format.div; rw [hr]; rfl
  rw [this] at e; exact e.1
theorem fdiv_nanr {x y r : Nat} (h : ¬ Num y) (e : FRes (fdiv x y) r) : ¬ Num r := by
  obtain ⟨s, f, hr⟩ := nan_read h
  have : fdiv x y = none := by unfold fdiv Ieee.Format.div; rw [hr]; cases Ieee.double.read x <;> rfl
  rw [this] at e; exact e.1
theorem fsqrt_nan {x r : Nat} (h : ¬ Num x) (e : FRes (fsqrt x) r) : ¬ Num r := by
  rw [sqrt_nan h] at e; exact e.1
theorem rg_nan {x : Nat} (h : ¬ Num x) : ¬ Num (rg x) := by unfold Num at *; rw [rg_rg]; exact h
theorem fneg_nan {x : Nat} (hx : Wd x) (h : ¬ Num x) : ¬ Num (fneg x) := by unfold Num at *; rw [fneg_rg hx]; exact h
theorem flt_nan {x : Nat} (h : ¬ Num x) : flt x 0 = false := by unfold flt; rw [order_nanl h]; rfl
theorem fgt_nan {x : Nat} (h : ¬ Num x) : fgt x 0 = false := by unfold fgt; rw [order_nanl h]; rfl

/-- The first part is no number: both are none. -/
theorem gen_nanx {x y c sc a b : Nat} (hx : ¬ Num x) (hy : ∀ y', FRes (fmul y c) y' → isInf y' = false) (h : SqrtGen x y c sc a b) : ¬ Num a ∧ ¬ Num b := by
  rcases h with ⟨x1, y1, p1, q1, s1, t1, m1, d1, r1, u1, hx1, hy1, hg, hp, hq, hs, ht, hm, hd, hr, hu, ha, hb⟩ | ⟨x1, y1, p1, q1, s1, t1, m1, d1, r1, u1, hx1, hy1, hg, hp, hq, hs, ht, hm, hd, hr, hu, ha, hb⟩
  · have n1 := fmul_nanl hx hx1
    rw [fgt_nan n1] at hg; cases hg
  · have n1 := fmul_nanl hx hx1
    have hh : hypotW x1 y1 = 9221120237041090561 := hypotW_nan (by unfold isInf; unfold Num at n1; simp; omega) (hy _ hy1) (Or.inl (isNan_iff.2 n1))
    rw [hh] at hp
    have np := fmul_nanr (by unfold Num; decide) hp
    have ns := fsub_nanl np hs
    have nt := fsqrt_nan ns ht
    have nd := fdiv_nanr nt hd
    have nr := fmul_nanr (rg_nan nd) hr
    have nu := fmul_nanl nt hu
    refine ⟨by rw [ha]; exact nr, ?_⟩
    rw [hb]; split
    · exact fneg_nan (fmul_wd hu) nu
    · exact nu
/-- The second part is no number, the first finite: both are none. -/
theorem gen_nany {x y c sc a b : Nat} (hy : ¬ Num y) (hx : ∀ x', FRes (fmul x c) x' → isInf x' = false) (h : SqrtGen x y c sc a b) : ¬ Num a ∧ ¬ Num b := by
  rcases h with ⟨x1, y1, p1, q1, s1, t1, m1, d1, r1, u1, hx1, hy1, hg, hp, hq, hs, ht, hm, hd, hr, hu, ha, hb⟩ | ⟨x1, y1, p1, q1, s1, t1, m1, d1, r1, u1, hx1, hy1, hg, hp, hq, hs, ht, hm, hd, hr, hu, ha, hb⟩
  · have n1 := fmul_nanl hy hy1
    have hh : hypotW x1 y1 = 9221120237041090561 := hypotW_nan (hx _ hx1) (by unfold isInf; unfold Num at n1; simp; omega) (Or.inr (isNan_iff.2 n1))
    rw [hh] at hp
    have np := fmul_nanr (by unfold Num; decide) hp
    have ns := fadd_nanl np hs
    have nt := fsqrt_nan ns ht
    have nd := fdiv_nanr nt hd
    have nr := fmul_nanr (rg_nan nd) hr
    have nu := fmul_nanl nt hu
    refine ⟨by rw [ha]; exact nu, ?_⟩
    rw [hb]; split
    · exact fneg_nan (fmul_wd hr) nr
    · exact nr
  · have n1 := fmul_nanl hy hy1
    have hh : hypotW x1 y1 = 9221120237041090561 := hypotW_nan (hx _ hx1) (by unfold isInf; unfold Num at n1; simp; omega) (Or.inr (isNan_iff.2 n1))
    rw [hh] at hp
    have np := fmul_nanr (by unfold Num; decide) hp
    have ns := fsub_nanl np hs
    have nt := fsqrt_nan ns ht
    have nd := fdiv_nanr nt hd
    have nr := fmul_nanr (rg_nan nd) hr
    have nu := fmul_nanl nt hu
    refine ⟨by rw [ha]; exact nr, ?_⟩
    rw [hb]; split
    · exact fneg_nan (fmul_wd hu) nu
    · exact nu
/-- An infinite first part beside what is no number. -/
theorem gen_infnan {x y a b : Nat} (hx : Wd x) (hI : rg x = INF) (hy : ¬ Num y) (h : SqrtGen x y 4598175219545276416 4611686018427387904 a b) :
    (sg x = false → a = 9218868437227405312 ∧ ¬ Num b) ∧ (sg x = true → ¬ Num a ∧ b = 9218868437227405312) := by
  have z2 : fmul 9218868437227405312 4611686018427387904 = some 9218868437227405312 := by unfold fmul; decide +kernel
  have z3 : fmul 4602678819172646912 9218868437227405312 = some 9218868437227405312 := by unfold fmul; decide +kernel
  have z4 : fadd 9218868437227405312 9218868437227405312 = some 9218868437227405312 := by unfold fadd; decide +kernel
  have z5 : fmul 4602678819172646912 18442240474082181120 = some 18442240474082181120 := by unfold fmul; decide +kernel
  have z6 : fsub 9218868437227405312 18442240474082181120 = some 9218868437227405312 := by unfold fsub; decide +kernel
  have z7 : fmul 9218868437227405312 4598175219545276416 = some 9218868437227405312 := by unfold fmul; decide +kernel
  have z8 : fmul 18442240474082181120 4598175219545276416 = some 18442240474082181120 := by unfold fmul; decide +kernel
  have g1 : fgt 9218868437227405312 0 = true := by decide +kernel
  have g2 : fgt 18442240474082181120 0 = false := by decide +kernel
  constructor
  · intro hs
    have ex : x = 9218868437227405312 := wd_ext hx (by unfold Wd; decide) (by rw [hs]; decide) (by rw [hI]; decide)
    subst ex
    rcases h with ⟨x1, y1, p1, q1, s1, t1, m1, d1, r1, u1, hx1, hy1, hg, hp, hq, hs1, ht, hm, hd, hr, hu, ha, hb⟩ | ⟨x1, y1, p1, q1, s1, t1, m1, d1, r1, u1, hx1, hy1, hg, hp, hq, hs1, ht, hm, hd, hr, hu, ha, hb⟩
    · obtain rfl := fres_some hx1 z7
      have n1 := fmul_nanl hy hy1
      rw [hypotW_inf (Or.inl (by decide))] at hp
      obtain rfl := fres_some hp z3
      obtain rfl := fres_some hq z3
      obtain rfl := fres_some hs1 z4
      obtain rfl := fres_some ht sqrt_inf
      have nm := fmul_nanr n1 hm
      have nd := fdiv_nanl nm hd
      have nr := fmul_nanr (rg_nan nd) hr
      obtain rfl := fres_some hu z2
      rw [flt_nan n1] at hb
      exact ⟨ha, by rw [hb]; exact nr⟩
    · obtain rfl := fres_some hx1 z7
      rw [g1] at hg; cases hg
  · intro hs
    have ex : x = 18442240474082181120 := wd_ext hx (by unfold Wd; decide) (by rw [hs]; decide) (by rw [hI]; decide)
    subst ex
    rcases h with ⟨x1, y1, p1, q1, s1, t1, m1, d1, r1, u1, hx1, hy1, hg, hp, hq, hs1, ht, hm, hd, hr, hu, ha, hb⟩ | ⟨x1, y1, p1, q1, s1, t1, m1, d1, r1, u1, hx1, hy1, hg, hp, hq, hs1, ht, hm, hd, hr, hu, ha, hb⟩
    · obtain rfl := fres_some hx1 z8
      rw [g2] at hg; cases hg
    · obtain rfl := fres_some hx1 z8
      have n1 := fmul_nanl hy hy1
      rw [hypotW_inf (Or.inl (by decide))] at hp
      obtain rfl := fres_some hp z3
      obtain rfl := fres_some hq z5
      obtain rfl := fres_some hs1 z6
      obtain rfl := fres_some ht sqrt_inf
      have nm := fmul_nanr n1 hm
      have nd := fdiv_nanl nm hd
      have nr := fmul_nanr (rg_nan nd) hr
      obtain rfl := fres_some hu z2
      rw [flt_nan n1] at hb
      exact ⟨by rw [ha]; exact nr, hb⟩

/-- A scaled finite part is finite. -/
theorem scaled_not_inf {x y c x' : Nat} (hx : Wd x) (fx : Fi x) (h : (c = 4598175219545276416) ∨ (c = 4850376798678024192 ∧ val (rg x) ≤ 4)) (e : FRes (fmul x c) x') : isInf x' = false := by
  have hP := one_le_P
  have h4 := MAXF_4P
  have s1 := size_le fx
  have key : ∃ x1, fmul x c = some x1 ∧ Fi x1 := by
    rcases h with rfl | ⟨rfl, h⟩
    · obtain ⟨x1, e1, _, f1, _⟩ := scaled_part hx fx c_quarter.2.1 c_quarter.2.2 (by rw [c_quarter.1]; grind)
      exact ⟨x1, e1, f1⟩
    · obtain ⟨x1, e1, _, f1, _⟩ := scaled_part hx fx c_p54.2.1 c_p54.2.2 (by rw [c_p54.1]; grind)
      exact ⟨x1, e1, f1⟩
  obtain ⟨x1, e1, f1⟩ := key
  obtain rfl := fres_some e e1
  unfold isInf; unfold Fi at f1; simp; omega

/-- An infinite first part beside a finite second one. -/
theorem inf_gen {x y a b k sc : Nat} (hx : Wd x) (hy : Wd y) (hI : rg x = INF) (fy : Fi y) (h0 : Q1000 ≤ val (rg y))
    (hb4 : k = 4598175219545276416 ∧ sc = 4611686018427387904) (h : SqrtGen x y k sc a b) :
    (sg x = false → a = 9218868437227405312 ∧ b = (if sg y then fneg 0 else 0)) ∧ (sg x = true → a = 0 ∧ b = (if sg y then fneg 9218868437227405312 else 9218868437227405312)) := by
  obtain ⟨rfl, rfl⟩ := hb4
  have hQ := Q1002_pos
  unfold Q1000 at h0
  obtain ⟨y', ey, wy', fy', sy', Ry, _, ly⟩ := scaled_part hy fy c_quarter.2.1 c_quarter.2.2 (by rw [c_quarter.1]; have := size_le fy; have := MAXF_4P; grind)
  have ly' := ly (by rw [c_quarter.1]; grind)
  have hy0 : rg y' ≠ 0 := by
    intro h; rw [val_rg, h, rv_zero] at ly'; grind
  obtain ⟨m, em, Rm, sm⟩ := mul_rnd fin_HALF fy'
  rw [sg_HALF, Bool.false_xor] at sm
  rw [val_HALF] at Rm
  have fm : Fi m := by
    have hP := P1022_MAXF
    have hP0 := P1022_pos
    have hM : val (rg y') ≤ MAXF := size_le fy'
    rw [val_rg] at hM
    have h1 := rv_nonneg (rg y')
    refine Rm.fin ?_ ?_ <;> rw [val_pm y'] <;> unfold pm <;> cases sg y' <;> simp <;> grind
  have l1 : flt y' 0 = sg y := by rw [flt_zero_ne fy'.num hy0, sy']
  have quo : ∀ d, FRes (fdiv m 9218868437227405312) d → rg d = 0 := by
    intro d hd
    obtain ⟨k, i, e1, _⟩ := read_fin fm
    have e : fdiv m 9218868437227405312 = some (Ieee.double.word (sg m ^^ sg 9218868437227405312) 0) := by
      unfold fdiv Ieee.Format.div
      rw [e1, read_inf (x := 9218868437227405312) (by decide)]
      simp only [Ieee.Datum.quotient, Option.map_some, Ieee.Format.write]
      unfold Ieee.Format.nearest; rw [if_pos rfl]
    rw [e] at hd
    have : d = _ := hd
    rw [this, word_rg (by decide)]
  have em' : fmul 4602678819172646912 y' = some m := em
  have z1 : fmul 4611686018427387904 0 = some 0 := by unfold fmul; decide +kernel
  have z2 : fmul 9218868437227405312 4611686018427387904 = some 9218868437227405312 := by unfold fmul; decide +kernel
  have z3 : fmul 4602678819172646912 9218868437227405312 = some 9218868437227405312 := by unfold fmul; decide +kernel
  have z4 : fadd 9218868437227405312 9218868437227405312 = some 9218868437227405312 := by unfold fadd; decide +kernel
  have z5 : fmul 4602678819172646912 18442240474082181120 = some 18442240474082181120 := by unfold fmul; decide +kernel
  have z6 : fsub 9218868437227405312 18442240474082181120 = some 9218868437227405312 := by unfold fsub; decide +kernel
  have z7 : fmul 9218868437227405312 4598175219545276416 = some 9218868437227405312 := by unfold fmul; decide +kernel
  have z8 : fmul 18442240474082181120 4598175219545276416 = some 18442240474082181120 := by unfold fmul; decide +kernel
  have g1 : fgt 9218868437227405312 0 = true := by decide +kernel
  have g2 : fgt 18442240474082181120 0 = false := by decide +kernel
  constructor
  · intro hs
    have ex : x = 9218868437227405312 := wd_ext hx (by unfold Wd; decide) (by rw [hs]; decide) (by rw [hI]; decide)
    subst ex
    have hh : hypotW 9218868437227405312 y' = 9218868437227405312 := hypotW_inf (Or.inl (by decide))
    rcases h with ⟨x1, y1, p1, q1, s1, t1, m1, d1, r1, u1, hx1, hy1, hg, hp, hq, hs1, ht, hm, hd, hr, hu, ha, hb⟩ | ⟨x1, y1, p1, q1, s1, t1, m1, d1, r1, u1, hx1, hy1, hg, hp, hq, hs1, ht, hm, hd, hr, hu, ha, hb⟩
    · obtain rfl := fres_some hx1 z7
      obtain rfl := fres_some hy1 ey
      rw [hh] at hp
      obtain rfl := fres_some hp z3
      obtain rfl := fres_some hq z3
      obtain rfl := fres_some hs1 z4
      obtain rfl := fres_some ht sqrt_inf
      obtain rfl := fres_some hm em'
      rw [quo _ hd] at hr
      obtain rfl := fres_some hr z1
      obtain rfl := fres_some hu z2
      rw [l1] at hb
      exact ⟨ha, hb⟩
    · obtain rfl := fres_some hx1 z7
      rw [g1] at hg; cases hg
  · intro hs
    have ex : x = 18442240474082181120 := wd_ext hx (by unfold Wd; decide) (by rw [hs]; decide) (by rw [hI]; decide)
    subst ex
    have hh : hypotW 18442240474082181120 y' = 9218868437227405312 := hypotW_inf (Or.inl (by decide))
    rcases h with ⟨x1, y1, p1, q1, s1, t1, m1, d1, r1, u1, hx1, hy1, hg, hp, hq, hs1, ht, hm, hd, hr, hu, ha, hb⟩ | ⟨x1, y1, p1, q1, s1, t1, m1, d1, r1, u1, hx1, hy1, hg, hp, hq, hs1, ht, hm, hd, hr, hu, ha, hb⟩
    · obtain rfl := fres_some hx1 z8
      rw [g2] at hg; cases hg
    · obtain rfl := fres_some hx1 z8
      obtain rfl := fres_some hy1 ey
      rw [hh] at hp
      obtain rfl := fres_some hp z3
      obtain rfl := fres_some hq z5
      obtain rfl := fres_some hs1 z6
      obtain rfl := fres_some ht sqrt_inf
      obtain rfl := fres_some hm em'
      rw [quo _ hd] at hr
      obtain rfl := fres_some hr z1
      obtain rfl := fres_some hu z2
      rw [l1] at hb
      exact ⟨ha, hb⟩
theorem inf_big {x y : Nat} (hI : rg x = INF) : big4 x y = true := by
  unfold big4; rw [hI]
  have : fgt INF 4616189618054758400 = true := by decide +kernel
  rw [this]; rfl


end Go.Proofs.Ytojjlkmeicdeeaa

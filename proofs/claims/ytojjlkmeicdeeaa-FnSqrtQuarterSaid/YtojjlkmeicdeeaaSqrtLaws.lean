/- Plain laws of cmplx.Sqrt's relation: what comes of finite parts behind the special cases, step by step; how a change of the second part's sign goes through. -/
import Derived.Test.YtojjlkmeicdeeaaCSqrt
import Derived.Test.YtojjlkmeicdeeaaRep
set_option linter.unusedSimpArgs false
set_option linter.unusedVariables false
namespace Go.Proofs.Ytojjlkmeicdeeaa
open F64

/-- A change of sign goes through products and quotients. -/
theorem map_write_neg (n : Bool) (m : Nat) (p : Int) : Ieee.double.nearest (!n) m p = negw (Ieee.double.nearest n m p) := by
  refine wd_ext (nearest_rnd _ _ _).wd (negw_wd (nearest_rnd _ _ _).wd) ?_ ?_
  · rw [negw_sg (nearest_rnd _ _ _).wd, nearest_sg, nearest_sg]
  · rw [negw_rg (nearest_rnd _ _ _).wd]
    have hsw := inf_lt_sw
    have key : ∀ b : Bool, rg (Ieee.double.nearest b m p) = if m = 0 then 0 else min (near false m p) INF := by
      intro b
      by_cases h : m = 0
      · rw [if_pos h, h]; unfold Ieee.Format.nearest; rw [if_pos rfl]; exact word_rg (by decide)
      · rw [if_neg h, nearest_eq b m p h, word_rg (min_sw _)]
        congr 1
    rw [key, key]
theorem write_opp (d : Ieee.Datum) (h : ∃ n m p, d = .number n m p) : Ieee.double.write d.opposite = negw (Ieee.double.write d) := by
  obtain ⟨n, m, p, rfl⟩ := h
  exact map_write_neg n m p
theorem fmul_negl {x y z : Nat} (hx : Wd x) (fx : Fi x) (fy : Fi y) (h : fmul x y = some z) : fmul (fneg x) y = some (fneg z) := by
  rw [fneg_eq hx]
  obtain ⟨m, p, e1, _⟩ := read_fin fx
  obtain ⟨n, q, f1, _⟩ := read_fin fy
  unfold fmul Ieee.Format.mul at *
  rw [read_negw hx]
  rw [e1, f1] at h ⊢
  simp only [Ieee.Datum.opposite, Ieee.Datum.product, Option.map_some, Ieee.Format.write, Option.some.injEq] at h ⊢
  rw [show ((!sg x) ^^ sg y) = !(sg x ^^ sg y) from by cases sg x <;> cases sg y <;> rfl, map_write_neg, h]
  rw [fneg_eq (by rw [← h]; exact (nearest_rnd _ _ _).wd)]
theorem fmul_comm' {x y : Nat} (fx : Fi x) (fy : Fi y) : fmul x y = fmul y x := by
  obtain ⟨m, p, e1, _⟩ := read_fin fx
  obtain ⟨n, q, f1, _⟩ := read_fin fy
  unfold fmul Ieee.Format.mul
  rw [e1, f1]
  simp only [Ieee.Datum.product, Option.map_some, Ieee.Format.write, Option.some.injEq]
  rw [Nat.mul_comm, Int.add_comm, Bool.xor_comm]
theorem fmul_negr {x y z : Nat} (hy : Wd y) (fx : Fi x) (fy : Fi y) (h : fmul x y = some z) : fmul x (fneg y) = some (fneg z) := by
  rw [fmul_comm' fx (fneg_fi hy fy)]
  rw [fmul_comm' fx fy] at h
  exact fmul_negl hy fy fx h
theorem fdiv_negl {x y z : Nat} (hx : Wd x) (fx : Fi x) (fy : Fi y) (h0 : rg y ≠ 0) (h : fdiv x y = some z) : fdiv (fneg x) y = some (fneg z) := by
  rw [fneg_eq hx]
  obtain ⟨m, p, e1, _⟩ := read_fin fx
  obtain ⟨n, q, f1, _, _, _, fz⟩ := read_fin fy
  have hn : n ≠ 0 := fun h => h0 (fz.1 h)
  unfold fdiv Ieee.Format.div at *
  rw [read_negw hx]
  rw [e1, f1] at h ⊢
  simp only [Ieee.Datum.opposite, Ieee.Datum.quotient, if_neg hn, Option.map_some, Ieee.Format.write, Option.some.injEq] at h ⊢
  rw [show ((!sg x) ^^ sg y) = !(sg x ^^ sg y) from by cases sg x <;> cases sg y <;> rfl, map_write_neg, h]
  rw [fneg_eq (by rw [← h]; exact (nearest_rnd _ _ _).wd)]

theorem val_HALF : val 4602678819172646912 = 1 / 2 := by decide +kernel
theorem fin_HALF : Fi 4602678819172646912 := by unfold Fi; decide
theorem sg_HALF : sg 4602678819172646912 = false := by decide

/-- A rung up or down by binades. -/
theorem rv_shift (g j : Nat) (h : B ≤ g) : rv (g + j * B) = rv g * (2 : Rat) ^ (j : Int) := by
  have hB := B_pos
  obtain ⟨p, k, rfl, hk⟩ := rung_form g
  have hk' : B ≤ k ∧ k < 2 * B := by
    rcases hk with ⟨rfl, hk⟩ | hk
    · omega
    · exact hk
  rw [show p * B + k + j * B = (p + j) * B + k from by rw [Nat.add_mul]; omega, rv_of (p + j) k (Or.inr ⟨hk'.1, by omega⟩), rv_of p k (Or.inr ⟨hk'.1, by omega⟩), Rat.mul_assoc, ← zp_add]
  congr 2; omega
/-- Half of a number that is not too small is a word. -/
theorem half_word {x z : Nat} (hx : Wd x) (fx : Fi x) (h : rv (2 * B) ≤ val (rg x)) (R : Rnd e53 (1 / 2 * val x) z) : val z = 1 / 2 * val x := by
  rw [val_rg] at h
  have hg := rv_le_iff.1 h
  have hB := B_pos
  have hsw := inf_lt_sw
  have hf : rg x < INF := fx
  have hs : rg x - B < SW := by omega
  have e := rv_shift (rg x - B) 1 (by omega)
  rw [show rg x - B + 1 * B = rg x from by omega, show ((1 : Nat) : Int) = 1 from rfl, Rat.zpow_one] at e
  have vc : val (Ieee.double.word (sg x) (rg x - B)) = 1 / 2 * val x := by
    rw [val_word hs, val_pm x, e]; grind
  exact R.exact (by unfold Num; rw [word_rg hs]; omega) vc

/-- The words 2^1022 and 2^-1002, 2^-1003. -/
theorem num_fin {x : Nat} (h : Num x) (h2 : rg x ≠ INF) : Fi x := by unfold Num Fi at *; omega

/-- The steps behind the special cases; 'neg': the first part is not above 0. -/
structure GenOk (x' y' sc : Nat) (neg : Bool) (p q s t m d r t2 : Nat) : Prop where
  ep : fmul 4602678819172646912 (hypotW x' y') = some p
  eq : fmul 4602678819172646912 x' = some q
  es : (if neg then fsub p q else fadd p q) = some s
  et : fsqrt s = some t
  em : fmul 4602678819172646912 y' = some m
  ed : fdiv m t = some d
  er : fmul sc (rg d) = some r
  et2 : fmul t sc = some t2
  fh : Fi (hypotW x' y')
  Rp : Rnd e53 (1 / 2 * val (hypotW x' y')) p
  Rq : Rnd e53 (1 / 2 * val x') q
  Rs : Rnd e53 (val p + val (rg q)) s
  Rt : Root s t
  Rm : Rnd e53 (1 / 2 * val y') m
  Rd : Rnd e52 (val m / val t) d
  Rr : Rnd e53 (val sc * val (rg d)) r
  Rt2 : Rnd e53 (val t * val sc) t2
  sp : sg p = false
  ss : sg s = false
  sm : sg m = sg y'
  sd : sg d = sg y'
  sr : sg r = false
  st2 : sg t2 = false
  fp : Fi p
  fq : Fi q
  fs : Fi s
  fm : Fi m
  fd : Fi d
  fr : Fi r
  ft2 : Fi t2
  ms : val (rg m) ≤ val s
  s0 : 0 < val s
  t0 : 0 < val t
  t2pos : 0 < val t2
  vp : val p = 1 / 2 * val (hypotW x' y')
  vm : val m = 1 / 2 * val y'

theorem MAXF_big : (179769313486231560000000000000000000000 : Rat) ≤ MAXF := by unfold MAXF; decide +kernel
/-- 2 ^ 1022, half of it, and bounds beside them. -/
def P1022 : Rat := rv (2045 * B)
theorem P1022_MAXF : 3 * P1022 ≤ MAXF := by unfold P1022 MAXF; decide +kernel
theorem P1022_pos : 0 < P1022 := by unfold P1022; decide +kernel
/-- 2 ^ -1002. -/
def Q1002 : Rat := rv (21 * B)
theorem Q1002_pos : 0 < Q1002 := by unfold Q1002; decide +kernel
theorem one_le_P : 1000000000000000000000000000000 ≤ P1022 := by unfold P1022; decide +kernel
/-- 2 ^ -1003, 2 ^ 1021 and roots of them, as words. -/
theorem w_half_Q : val (20 * B) = 1 / 2 * Q1002 := by unfold Q1002; decide +kernel
theorem w_P : val (2045 * B) = P1022 := by unfold P1022; decide +kernel
theorem w_root : val (1534 * B) * val (1534 * B) = P1022 := by unfold P1022; decide +kernel
theorem w_root2 : val (1536 * B) * val (1536 * B) = 16 * P1022 := by unfold P1022; decide +kernel
theorem w_lowroot : val (521 * B) * val (521 * B) ≤ 1 / 2 * Q1002 := by unfold Q1002; decide +kernel
theorem w_lowpos : 0 < val (400 * B) := by decide +kernel
theorem w_low400 : val (400 * B) ≤ val (521 * B) * (1 / 134217728) := by decide +kernel
theorem w_32 : ∃ c, Num c ∧ val c = 3 / 2 * P1022 := by
  refine ⟨2045 * B + B / 2, ?_, ?_⟩
  · unfold Num; decide
  · unfold P1022; decide +kernel
theorem rv2B_Q : rv (2 * B) ≤ Q1002 := by unfold Q1002; exact rv_le_iff.2 (by decide)
theorem w_1536 : val (1536 * B) * 8 ≤ P1022 := by unfold P1022; decide +kernel

theorem gen_ok {x' y' sc : Nat} (neg : Bool) (wx : Wd x') (wy : Wd y') (fx : Fi x') (fy : Fi y') (bx : val (rg x') ≤ P1022) (by' : val (rg y') ≤ P1022) (ly : Q1002 ≤ val (rg y'))
    (hsc : Fi sc) (ssc : sg sc = false) (sc1 : val sc ≤ 2) (sc2 : 1 / 134217728 ≤ val sc) (hn : neg = !fgt x' 0) :
    ∃ p q s t m d r t2, GenOk x' y' sc neg p q s t m d r t2 := by
  have hP := P1022_MAXF
  have hP0 := P1022_pos
  have hQ0 := Q1002_pos
  have hP1 := one_le_P
  have h2Q := rv2B_Q
  -- hypot
  have hh : Fi (hypotW x' y') ∧ val (hypotW x' y') ≤ 3 / 2 * P1022 ∧ val (rg y') ≤ val (hypotW x' y') := by
    have h1 := hypotW_ge fx fy
    have hy0 : rg y' ≠ 0 := by
      intro h; rw [val_rg, h, rv_zero] at ly; grind
    obtain ⟨big, small, r, s, t, q, hc, fb, fs, sb, ss, h0, hle, H⟩ := hypotW_gen fx fy (fun h => hy0 h.2)
    have hb : val big ≤ P1022 := by
      rcases hc with ⟨hb1, _⟩ | ⟨hb1, _⟩
      · rw [hb1]; exact bx
      · rw [hb1]; exact by'
    have hb0 := val_pos sb h0
    have h2 : val q * val big ≤ 3 / 2 * P1022 := by
      have a1 := Rat.mul_le_mul_of_nonneg_right H.bq2 (Rat.le_of_lt hb0)
      grind
    obtain ⟨c, nc, vc⟩ := w_32
    have h3 := H.r5.up c nc (by rw [vc]; exact h2)
    rw [vc] at h3
    refine ⟨H.r5.fin (by grind) ?_, h3, h1.2⟩
    have := Rat.mul_nonneg (val_nonneg H.sq) (Rat.le_of_lt hb0)
    grind
  obtain ⟨fh, hh1, hh2⟩ := hh
  have hs := hypotW_sg x' y'
  have hh0 := val_nonneg hs
  generalize hgen : hypotW x' y' = h at *
  obtain ⟨p, ep, Rp, sp⟩ := mul_rnd fin_HALF fh
  rw [val_HALF] at Rp
  rw [sg_HALF, hs] at sp
  have fp : Fi p := Rp.fin (by grind) (by grind)
  have np := fp.num
  have hlow : Num (20 * B) := by unfold Num; decide
  have p1 : 1 / 2 * Q1002 ≤ val p := by
    have := Rp.lo (20 * B) hlow (by rw [w_half_Q]; grind)
    rwa [w_half_Q] at this
  have hup : Num (2045 * B) := by unfold Num; decide
  have p2 : val p ≤ P1022 := by
    have := Rp.up (2045 * B) hup (by rw [w_P]; grind)
    rwa [w_P] at this
  obtain ⟨q, eq', Rq, sq⟩ := mul_rnd fin_HALF fx
  rw [val_HALF] at Rq
  rw [sg_HALF] at sq
  simp only [Bool.false_bne, Bool.false_xor] at sq
  have bx' : val x' ≤ P1022 ∧ -P1022 ≤ val x' := by
    rw [val_rg] at bx
    have := rv_nonneg (rg x')
    rw [val_pm x']; unfold pm; cases sg x' <;> simp <;> grind
  have fq : Fi q := Rq.fin (by grind) (by grind)
  have q2 : val (rg q) ≤ P1022 := by
    rw [val_rg]
    have a1 := Rq.up (2045 * B) hup (by rw [w_P]; grind)
    have wn : val (2045 * B + SW) = -P1022 := by unfold P1022; decide +kernel
    have a2 := Rq.lo (2045 * B + SW) (by unfold Num; decide) (by rw [wn]; grind)
    rw [w_P] at a1
    rw [wn] at a2
    rw [val_pm q] at a1 a2
    have := rv_nonneg (rg q)
    unfold pm at a1 a2; cases h : sg q <;> simp [h] at a1 a2 <;> grind
  have q0 : 0 ≤ val (rg q) := by rw [val_rg]; exact rv_nonneg _
  -- the sum
  have hsum : ∃ s, (if neg then fsub p q else fadd p q) = some s ∧ Rnd e53 (val p + val (rg q)) s ∧ sg s = false := by
    have hpos : val p + val (rg q) ≠ 0 := by grind
    cases neg with
    | true =>
      simp only [if_true]
      unfold fsub
      rw [sub_eq_add Rq.wd]
      obtain ⟨s, es, Rs, s1, _⟩ := add_rnd fp (negw_fin Rq.wd fq)
      have e : val (negw q) = val (rg q) := by
        rw [negw_val Rq.wd, val_rg, val_pm]
        -- x' is not above 0, so q is not, or is a zero
        have hx0 : fgt x' 0 = false := by revert hn; cases fgt x' 0 <;> simp
        rw [fgt_zero, isNan_false.2 fx.num] at hx0
        simp at hx0
        cases h : sg x'
        · have z := hx0 h
          have hq : val q = 0 := by
            have := Rq.exact num_zero (by rw [val_zero, val_pm x', z, rv_zero]; simp)
            rw [this, val_pm x', z, rv_zero]; simp
          rw [val_pm] at hq
          have := rv_nonneg (rg q)
          unfold pm at *; cases h2 : sg q <;> simp [h2] at hq ⊢ <;> grind
        · rw [h] at sq
          rw [sq]; unfold pm; simp; grind
      rw [e] at Rs s1
      refine ⟨s, es, Rs, ?_⟩
      rw [s1 hpos]; simp; grind
    | false =>
      simp only [Bool.false_eq_true, if_false]
      unfold fadd
      obtain ⟨s, es, Rs, s1, _⟩ := add_rnd fp fq
      have hx0 : fgt x' 0 = true := by revert hn; cases fgt x' 0 <;> simp
      rw [fgt_zero] at hx0
      simp at hx0
      have e : val q = val (rg q) := by
        rw [val_rg, val_pm, sq, hx0.1.1]; unfold pm; simp
      rw [e] at Rs s1
      refine ⟨s, es, Rs, ?_⟩
      rw [s1 hpos]; simp; grind
  obtain ⟨s, es, Rs, ss⟩ := hsum
  have fs : Fi s := Rs.fin (by grind) (by grind)
  have s1 : 1 / 2 * Q1002 ≤ val s := by
    have := Rs.lo (20 * B) hlow (by rw [w_half_Q]; grind)
    rwa [w_half_Q] at this
  have sp' : val p ≤ val s := Rs.lo p np (by grind)
  have s0 : 0 < val s := by grind
  have hs0 : rg s ≠ 0 := by intro h; rw [val_pos_word ss, h, rv_zero] at s0; grind
  have s2 : val s ≤ 16 * P1022 := by
    have := (Rs.err fs).1
    rw [abs_of_nonneg' (by grind)] at this
    have k53 : e53 ≤ 1 := by unfold e53; decide +kernel
    have h1 := Rat.mul_le_mul_of_nonneg_left k53 (show (0 : Rat) ≤ val p + val (rg q) by grind)
    have hu := u_small
    grind
  obtain ⟨t, et, Rt⟩ := sqrt_rnd fs ss hs0
  have t1 : val (521 * B) ≤ val t := Rt.lo (521 * B) (by unfold Num; decide) (by decide) (by have := w_lowroot; grind)
  have t2b : val t ≤ val (1536 * B) := Rt.up (1536 * B) (by unfold Num; decide) (by decide) (by rw [w_root2]; exact s2)
  have l521 : (0 : Rat) < val (521 * B) := by decide +kernel
  have t0 : 0 < val t := by grind
  have ht0 : rg t ≠ 0 := by intro h; rw [val_pos_word Rt.sgn, h, rv_zero] at t0; grind
  obtain ⟨m, em, Rm, sm⟩ := mul_rnd fin_HALF fy
  rw [val_HALF] at Rm
  rw [sg_HALF] at sm
  simp only [Bool.false_bne, Bool.false_xor] at sm
  have by2 : val y' ≤ P1022 ∧ -P1022 ≤ val y' := by
    rw [val_rg] at by'
    have := rv_nonneg (rg y')
    rw [val_pm y']; unfold pm; cases sg y' <;> simp <;> grind
  have fm : Fi m := Rm.fin (by grind) (by grind)
  have vm : val m = 1 / 2 * val y' := (half_word wy fy (by grind) Rm)
  have hmy : val (rg m) = 1 / 2 * val (rg y') := by
    rw [val_rg, val_rg]
    rw [val_pm, val_pm, sm] at vm
    unfold pm at vm; cases hy : sg y' <;> simp [hy] at vm <;> grind
  have hwd : Wd h := by rw [← hgen]; exact hypotW_wd _ _
  have vp : val p = 1 / 2 * val h := half_word hwd fh (by rw [val_rg, ← val_pos_word hs]; grind) Rp
  have ms : val (rg m) ≤ val s := by rw [hmy]; grind
  have m0 : 0 ≤ val (rg m) := by rw [val_rg]; exact rv_nonneg _
  obtain ⟨d, ed, Rd, sd⟩ := div_rnd fm Rt.fin ht0
  rw [Rt.sgn, sm] at sd
  simp only [Bool.bne_false, Bool.xor_false] at sd
  -- the quotient is small enough
  have st2 : val s ≤ 2 * (val t * val t) := by
    have h1 := Rt.errL
    have k : (1 : Rat) / 2 ≤ (1 - e52) * (1 - e52) := by unfold e52; decide +kernel
    have h2 := Rat.mul_le_mul_of_nonneg_left k (Rat.le_of_lt s0)
    grind
  have quo : ∀ v : Rat, v ≤ val s → v / val t ≤ 2 * val t := by
    intro v hv
    rw [← Rat.not_lt, Rat.lt_div_iff t0]
    grind
  have hmv : val m ≤ val s ∧ -(val m) ≤ val s := by
    have e : val (rg m) = rv (rg m) := val_rg m
    have h1 := rv_nonneg (rg m)
    rw [e] at ms
    rw [val_pm m]; unfold pm; cases sg m <;> simp <;> grind
  have b1536 := w_1536
  have dU : val m / val t ≤ 2 * val t := quo _ hmv.1
  have dL : -(2 * val t) ≤ val m / val t := by
    have := quo _ hmv.2
    have e : -(val m) / val t = -(val m / val t) := by rw [Rat.div_def, Rat.div_def, Rat.neg_mul]
    rw [e] at this; grind
  have fd : Fi d := Rd.fin (by grind) (by grind)
  -- a word for the bound
  have d4 : val (rg d) ≤ 4 * val (1536 * B) := by
    have w4 : val (1538 * B) = 4 * val (1536 * B) := by decide +kernel
    have w4n : val (1538 * B + SW) = -(4 * val (1536 * B)) := by decide +kernel
    have c1 := Rd.up (1538 * B) (by unfold Num; decide) (by rw [w4]; grind)
    have c2 := Rd.lo (1538 * B + SW) (by unfold Num; decide) (by rw [w4n]; grind)
    rw [w4] at c1
    rw [w4n] at c2
    rw [val_rg]
    have := rv_nonneg (rg d)
    rw [val_pm d] at c1 c2
    unfold pm at c1 c2; cases hd : sg d <;> simp [hd] at c1 c2 <;> grind
  have d0 : 0 ≤ val (rg d) := by rw [val_rg]; exact rv_nonneg _
  have frd : Fi (rg d) := by unfold Fi at *; rw [rg_rg]; exact fd
  obtain ⟨r, er, Rr, sr⟩ := mul_rnd hsc frd
  rw [ssc, sg_rg] at sr
  have sc0 : 0 ≤ val sc := by grind
  have r1 : val sc * val (rg d) ≤ 8 * val (1536 * B) := by
    have h1 := Rat.mul_le_mul_of_nonneg_right sc1 d0
    grind
  have r0 : 0 ≤ val sc * val (rg d) := Rat.mul_nonneg sc0 d0
  have fr : Fi r := Rr.fin (by grind) (by grind)
  obtain ⟨t2, et2, Rt2, st2'⟩ := mul_rnd Rt.fin hsc
  rw [ssc, Rt.sgn] at st2'
  have q1 : val t * val sc ≤ 2 * val (1536 * B) := by
    have h1 := Rat.mul_le_mul_of_nonneg_left sc1 (Rat.le_of_lt t0)
    grind
  have q0' : 0 ≤ val t * val sc := Rat.mul_nonneg (Rat.le_of_lt t0) sc0
  have ft2 : Fi t2 := Rt2.fin (by grind) (by grind)
  have q3 : val (400 * B) ≤ val t * val sc := by
    have h1 := Rat.mul_le_mul_of_nonneg_left sc2 (Rat.le_of_lt t0)
    have h2 := w_low400
    have h3 := Rat.mul_le_mul_of_nonneg_right t1 (show (0 : Rat) ≤ 1 / 134217728 by decide +kernel)
    grind
  have t2pos : 0 < val t2 := by
    have := Rt2.lo (400 * B) (by unfold Num; decide) q3
    have := w_lowpos
    grind
  exact ⟨p, q, s, t, m, d, r, t2, by rw [hgen]; exact ep, eq', es, et, em, ed, er, et2, by rw [hgen]; exact fh, by rw [hgen]; exact Rp, Rq, Rs, Rt, Rm, Rd, Rr, Rt2, sp, ss, sm, sd, sr, st2', fp, fq, fs, fm, fd, fr, ft2, ms, s0, t0, t2pos, by rw [hgen]; exact vp, vm⟩

end Go.Proofs.Ytojjlkmeicdeeaa

/- What the model's stand-in for Hypot's assembly gives, as a plain function of the words, with what is known of each step; no operation on its way is invalid. -/
import Derived.Test.YtnfidnfokfgepaaOps
import GoSem.Extern.MathHypot
set_option linter.unusedSimpArgs false
set_option linter.unusedVariables false
namespace Go.Proofs.Ytnfidnfokfgepaa
open Go.RowKit F64

/-- The word of 1. -/
def ONE : Nat := 4607182418800017408
theorem val_ONE : val ONE = 1 := by decide +kernel
theorem fin_ONE : Fi ONE := by unfold Fi; decide
theorem num_ONE : Num ONE := fin_ONE.num

theorem val_pos_word {x : Nat} (h : sg x = false) : val x = rv (rg x) := by rw [val_pm, h]; unfold pm; simp
theorem val_nonneg {x : Nat} (h : sg x = false) : 0 ≤ val x := by rw [val_pos_word h]; exact rv_nonneg _
theorem val_pos {x : Nat} (h : sg x = false) (h0 : rg x ≠ 0) : 0 < val x := by rw [val_pos_word h]; exact rv_pos (by omega)

/-- The steps of Hypot behind its special cases. -/
structure Hyp (big small r s t q z : Nat) : Prop where
  d1 : fdiv small big = some r
  d2 : fmul r r = some s
  d3 : fadd s ONE = some t
  d4 : fsqrt t = some q
  d5 : fmul q big = some z
  r1 : Rnd e52 (val small / val big) r
  r2 : Rnd e53 (val r * val r) s
  r3 : Rnd e53 (val s + 1) t
  r4 : Root t q
  r5 : Rnd e53 (val q * val big) z
  sr : sg r = false
  ss : sg s = false
  st : sg t = false
  sq : sg q = false
  sz : sg z = false
  fr : Fi r
  fs : Fi s
  ft : Fi t
  fq : Fi q
  br : val r ≤ 1
  bs : val s ≤ 1
  bt : 1 ≤ val t
  bt2 : val t ≤ 2
  bq : 1 ≤ val q
  bq2 : val q ≤ 3 / 2
  le : val small ≤ val big

theorem one_le_MAXF : (4 : Rat) ≤ MAXF := by unfold MAXF; decide +kernel

theorem hyp_ok {big small : Nat} (hb : Fi big) (hs : Fi small) (sb : sg big = false) (ssm : sg small = false) (h0 : rg big ≠ 0) (hle : val small ≤ val big) :
    ∃ r s t q z, Hyp big small r s t q z := by
  have pb := val_pos sb h0
  have ps := val_nonneg ssm
  have hM := one_le_MAXF
  obtain ⟨r, d1, r1, sr⟩ := div_rnd hs hb h0
  rw [sb, ssm] at sr
  have q0 : 0 ≤ val small / val big := by
    rw [Rat.div_def]; exact Rat.mul_nonneg ps (Rat.le_of_lt (Rat.inv_pos.2 pb))
  have q1 : val small / val big ≤ 1 := by
    rw [← Rat.not_lt, Rat.lt_div_iff pb]; grind
  have br : val r ≤ 1 := by
    have := r1.up ONE num_ONE (by rw [val_ONE]; exact q1)
    rwa [val_ONE] at this
  have fr : Fi r := r1.fin (by grind) (by grind)
  have r0 := val_nonneg (x := r) sr
  obtain ⟨s, d2, r2, ss⟩ := mul_rnd fr fr
  simp only [Bool.xor_self] at ss
  have rr1 : val r * val r ≤ 1 := by
    have := Rat.mul_le_mul_of_nonneg_left br r0; grind
  have rr0 : 0 ≤ val r * val r := Rat.mul_nonneg r0 r0
  have bs : val s ≤ 1 := by
    have := r2.up ONE num_ONE (by rw [val_ONE]; exact rr1)
    rwa [val_ONE] at this
  have fs : Fi s := r2.fin (by grind) (by grind)
  have s0 := val_nonneg ss
  obtain ⟨t, d3, r3, st, _⟩ := add_rnd fs fin_ONE
  rw [val_ONE] at r3 st
  have st' : sg t = false := by
    rw [st (by grind)]; simp; grind
  have bt : 1 ≤ val t := by
    have := r3.lo ONE num_ONE (by rw [val_ONE]; grind)
    rwa [val_ONE] at this
  have v2 : val 4611686018427387904 = 2 := by decide +kernel
  have bt2 : val t ≤ 2 := by
    have := r3.up 4611686018427387904 (by unfold Num; decide) (by rw [v2]; grind)
    rwa [v2] at this
  have ft : Fi t := r3.fin (by grind) (by grind)
  have t0 : rg t ≠ 0 := by
    intro h; rw [val_pos_word st', h, rv_zero] at bt; grind
  obtain ⟨q, d4, r4⟩ := sqrt_rnd ft st' t0
  have bq : 1 ≤ val q := by
    have := r4.lo ONE num_ONE (by decide) (by rw [val_ONE]; grind)
    rwa [val_ONE] at this
  have v3 : val 4609434218613702656 = 3 / 2 := by decide +kernel
  have bq2 : val q ≤ 3 / 2 := by
    have := r4.up 4609434218613702656 (by unfold Num; decide) (by decide) (by rw [v3]; grind)
    rwa [v3] at this
  obtain ⟨z, d5, r5, sz⟩ := mul_rnd r4.fin hb
  rw [r4.sgn, sb] at sz
  exact ⟨r, s, t, q, z, d1, d2, d3, d4, d5, r1, r2, r3, r4, r5, sr, ss, st', r4.sgn, sz, fr, fs, ft, r4.fin, br, bs, bt, bt2, bq, bq2, hle⟩

def hyp2 (big small : Nat) : Nat :=
  ((fdiv small big).bind fun r => (fmul r r).bind fun s => (fadd s ONE).bind fun t => (fsqrt t).bind fun q => fmul q big).getD 0
theorem Hyp.eq {big small r s t q z : Nat} (h : Hyp big small r s t q z) : hyp2 big small = z := by
  unfold hyp2; simp [h.d1, h.d2, h.d3, h.d4, h.d5]

/-- Hypot on words. -/
def hypotW (x y : Nat) : Nat :=
  if rg x = INF ∨ rg y = INF then 9218868437227405312
  else if INF < rg x ∨ INF < rg y then 9221120237041090561
  else if rg x = 0 ∧ rg y = 0 then 0
  else if rg x < rg y then hyp2 (rg y) (rg x) else hyp2 (rg x) (rg y)

theorem flt_rg {x y : Nat} (hx : Num x) (hy : Num y) : flt (rg x) (rg y) = decide (rg x < rg y) := by
  have hx' : Num (rg x) := by unfold Num at *; rw [rg_rg]; exact hx
  have hy' : Num (rg y) := by unfold Num at *; rw [rg_rg]; exact hy
  unfold flt
  rw [lt_iff hx' hy', val_rg, val_rg]
  simp only [rv_lt_iff]

section
variable {P : Program} (w : World)
theorem run_asm (op : BinOp) (o : Option Nat) (x y z : Nat) (ho : floatBits op .f64 x y = some z) :
    (Extern.MathAsm.arith op x y).run P w = .ok z w := by
  simp [Extern.MathAsm.arith, run_floatArith w ho]

theorem hypot_match {x y : Nat} (f : Nat → Nat → Sem Value) (g : (a : Array Value) → Sem Value) : Extern.MathHypot.archHypot.match_3 (fun _ => Sem Value) #[.float .f64 x, .float .f64 y] f g = f x y := rfl
theorem run_archHypot (x y : Nat) : (Extern.MathHypot.archHypot #[.float .f64 x, .float .f64 y]).run P w = .ok (.float .f64 (hypotW x y)) w := by
  delta Extern.MathHypot.archHypot
  dsimp only
  rw [hypot_match]
  have ep : x % 2 ^ 63 = rg x := rfl
  have eq' : y % 2 ^ 63 = rg y := rfl
  have eI : Extern.MathAsm.posInf = INF := rfl
  have eN : Extern.MathAsm.nan = 9221120237041090561 := rfl
  have eO : Extern.MathAsm.one = ONE := rfl
  simp only [ep, eq', eI, eN, eO]
  unfold hypotW
  by_cases c1 : rg x = INF ∨ rg y = INF
  · rw [if_pos c1]
    have : (rg x == INF || rg y == INF) = true := by simpa using c1
    rw [this]; rfl
  · rw [if_neg c1]
    have : (rg x == INF || rg y == INF) = false := by simpa using c1
    rw [this]
    by_cases c2 : INF < rg x ∨ INF < rg y
    · rw [if_pos c2]
      have : (decide (rg x > INF) || decide (rg y > INF)) = true := by simpa using c2
      simp [this]
    · rw [if_neg c2]
      have : (decide (rg x > INF) || decide (rg y > INF)) = false := by simpa using c2
      rw [this]
      by_cases c3 : rg x = 0 ∧ rg y = 0
      · rw [if_pos c3]
        have : (rg x == 0 && rg y == 0) = true := by simpa using c3
        simp [this]
      · rw [if_neg c3]
        have : (rg x == 0 && rg y == 0) = false := by simpa using c3
        rw [this]
        have fx : Fi x := by unfold Fi; omega
        have fy : Fi y := by unfold Fi; omega
        have fx' : Fi (rg x) := by unfold Fi at *; rw [rg_rg]; exact fx
        have fy' : Fi (rg y) := by unfold Fi at *; rw [rg_rg]; exact fy
        have hl : Extern.MathAsm.lt (rg x) (rg y) = decide (rg x < rg y) := flt_rg fx.num fy.num
        rw [hl]
        by_cases c4 : rg x < rg y
        · rw [if_pos c4]
          obtain ⟨r, s, t, q, z, H⟩ := hyp_ok fy' fx' (sg_rg y) (sg_rg x) (by rw [rg_rg]; omega) (by rw [val_rg, val_rg]; exact Rat.le_of_lt (rv_lt_iff.2 c4))
          rw [H.eq]
          have a1 := run_asm (P := P) w .quo (some r) (rg x) (rg y) r H.d1
          have a2 := run_asm (P := P) w .mul (some s) r r s H.d2
          have a3 := run_asm (P := P) w .add (some t) s ONE t H.d3
          have a5 := run_asm (P := P) w .mul (some z) q (rg y) z H.d5
          have a4 := run_sqrt_any (P := P) w t
          rw [H.d4] at a4
          simp only [fv_some, fd_some, drewN0] at a4
          simp [c4, Extern.MathAsm.div, Extern.MathAsm.mul, Extern.MathAsm.add, a1, a2, a3, a4, a5]
        · rw [if_neg c4]
          obtain ⟨r, s, t, q, z, H⟩ := hyp_ok fx' fy' (sg_rg x) (sg_rg y) (by rw [rg_rg]; omega) (by rw [val_rg, val_rg]; exact rv_le_iff.2 (by omega))
          rw [H.eq]
          have a1 := run_asm (P := P) w .quo (some r) (rg y) (rg x) r H.d1
          have a2 := run_asm (P := P) w .mul (some s) r r s H.d2
          have a3 := run_asm (P := P) w .add (some t) s ONE t H.d3
          have a5 := run_asm (P := P) w .mul (some z) q (rg x) z H.d5
          have a4 := run_sqrt_any (P := P) w t
          rw [H.d4] at a4
          simp only [fv_some, fd_some, drewN0] at a4
          simp [c4, Extern.MathAsm.div, Extern.MathAsm.mul, Extern.MathAsm.add, a1, a2, a3, a4, a5]
end

end Go.Proofs.Ytnfidnfokfgepaa

/- What the model's stand-in for Log's assembly gives, as a plain function of the word; it is finite for every finite number above 0, and no operation on its way is invalid. -/
import Derived.Test.YtnfidnfokfgepaaWhole
import Derived.Test.YtnfidnfokfgepaaCSqrt
import GoSem.Extern.MathLog
set_option linter.unusedSimpArgs false
set_option linter.unusedVariables false
namespace Go.Proofs.Ytnfidnfokfgepaa
open Go.RowKit F64

/-- A finite word of size at most 2 ^ j. -/
structure Bd (x : Nat) (j : Int) : Prop where
  wd : Wd x
  fi : Fi x
  up : val x ≤ (2 : Rat) ^ j
  lo : -((2 : Rat) ^ j) ≤ val x

theorem zp_mono {i j : Int} (h : i ≤ j) : (2 : Rat) ^ i ≤ (2 : Rat) ^ j := by
  rw [show j = i + ((j - i).toNat : Int) from by omega, zp_add, zp_nat]
  have : ((1 : Nat) : Rat) ≤ ((2 ^ (j - i).toNat : Nat) : Rat) := Rat.natCast_le_natCast.2 Nat.one_le_two_pow
  have h := Rat.mul_le_mul_of_nonneg_left this (Rat.le_of_lt (zp_pos i))
  rw [show ((1 : Nat) : Rat) = 1 from rfl, Rat.mul_one] at h
  exact h
theorem Bd.mono {x : Nat} {i j : Int} (h : Bd x i) (hij : i ≤ j) : Bd x j := by
  have := zp_mono hij
  exact ⟨h.wd, h.fi, by have := h.up; grind, by have := h.lo; grind⟩
theorem bd_of_rnd {e v : Rat} {z : Nat} {j : Int} (R : Rnd e v z) (h1 : -1000 ≤ j) (h2 : j ≤ 1000) (hu : v ≤ (2 : Rat) ^ j) (hl : -((2 : Rat) ^ j) ≤ v) : Bd z j := by
  obtain ⟨p1, p2, p3, p4, p5⟩ := powW_spec (k := j) (by omega) (by omega)
  have a1 := R.up _ p2.num (by rw [p5]; exact hu)
  have a2 := R.lo _ (negw_num p1 p2.num) (by rw [negw_val p1, p5]; exact hl)
  rw [p5] at a1
  rw [negw_val p1, p5] at a2
  refine ⟨R.wd, ?_, a1, a2⟩
  have hM : (2 : Rat) ^ j ≤ MAXF := by
    have h3 := zp_mono h2
    have h4 : (2 : Rat) ^ (1000 : Int) ≤ MAXF := by unfold MAXF; decide +kernel
    exact Rat.le_trans h3 h4
  exact R.fin (by grind) (by grind)
theorem prod_bd {a b A C : Rat} (h1 : a ≤ A) (h2 : -A ≤ a) (h3 : b ≤ C) (h4 : -C ≤ b) : a * b ≤ A * C ∧ -(A * C) ≤ a * b := by
  have k1 := Rat.mul_nonneg (show (0 : Rat) ≤ A - a by grind) (show (0 : Rat) ≤ C - b by grind)
  have k2 := Rat.mul_nonneg (show (0 : Rat) ≤ A + a by grind) (show (0 : Rat) ≤ C + b by grind)
  have k3 := Rat.mul_nonneg (show (0 : Rat) ≤ A - a by grind) (show (0 : Rat) ≤ C + b by grind)
  have k4 := Rat.mul_nonneg (show (0 : Rat) ≤ A + a by grind) (show (0 : Rat) ≤ C - b by grind)
  constructor <;> grind
theorem bd_mul {x y : Nat} {i j : Int} (hx : Bd x i) (hy : Bd y j) (h1 : -1000 ≤ i + j) (h2 : i + j ≤ 1000) : ∃ z, fmul x y = some z ∧ Bd z (i + j) := by
  obtain ⟨z, e, R, _⟩ := mul_rnd hx.fi hy.fi
  obtain ⟨a1, a2⟩ := prod_bd hx.up hx.lo hy.up hy.lo
  rw [← zp_add] at a1 a2
  exact ⟨z, e, bd_of_rnd R h1 h2 a1 a2⟩
theorem bd_add {x y : Nat} {i j : Int} (k : Int) (hx : Bd x i) (hy : Bd y j) (hi : i < k) (hj : j < k) (h1 : -1000 ≤ k) (h2 : k ≤ 1000) : ∃ z, fadd x y = some z ∧ Bd z k := by
  obtain ⟨z, e, R, _⟩ := add_rnd hx.fi hy.fi
  have b1 := zp_mono (show i ≤ k - 1 by omega)
  have b2 := zp_mono (show j ≤ k - 1 by omega)
  have b3 : (2 : Rat) ^ k = 2 * (2 : Rat) ^ (k - 1) := by rw [show k = 1 + (k - 1) from by omega, zp_add, Rat.zpow_one, show 1 + (k - 1) - 1 = k - 1 from by omega]
  have := hx.up; have := hx.lo; have := hy.up; have := hy.lo
  exact ⟨z, e, bd_of_rnd R h1 h2 (by grind) (by grind)⟩
theorem Bd.neg {x : Nat} {i : Int} (h : Bd x i) : Bd (negw x) i :=
  ⟨negw_wd h.wd, negw_fin h.wd h.fi, by rw [negw_val h.wd]; have := h.lo; grind, by rw [negw_val h.wd]; have := h.up; grind⟩
theorem bd_sub {x y : Nat} {i j : Int} (k : Int) (hx : Bd x i) (hy : Bd y j) (hi : i < k) (hj : j < k) (h1 : -1000 ≤ k) (h2 : k ≤ 1000) : ∃ z, fsub x y = some z ∧ Bd z k := by
  obtain ⟨z, e, b⟩ := bd_add k hx hy.neg hi hj h1 h2
  exact ⟨z, by unfold fsub; rw [sub_eq_add hy.wd]; exact e, b⟩
theorem bd_const {c : Nat} {j : Int} (h1 : Wd c) (h2 : Fi c) (h3 : val c ≤ (2 : Rat) ^ j) (h4 : -((2 : Rat) ^ j) ≤ val c) : Bd c j := ⟨h1, h2, h3, h4⟩

/-- The steps of Log behind its special cases, from the fraction f, the word k of the exponent. -/
def logTail (f k : Nat) : Option Nat :=
  (fadd 4611686018427387904 f).bind fun a => (fdiv f a).bind fun s => (fmul s s).bind fun s2 => (fmul s2 s2).bind fun s4 =>
  (fmul 0x3FC2F112DF3E5244 s4).bind fun c1 => (fadd c1 0x3FC7466496CB03DE).bind fun c2 => (fmul c2 s4).bind fun c3 => (fadd c3 0x3FD2492494229359).bind fun c4 => (fmul c4 s4).bind fun c5 => (fadd c5 0x3FE5555555555593).bind fun c6 => (fmul s2 c6).bind fun t1 =>
  (fmul 0x3FC39A09D078C69F s4).bind fun d1 => (fadd d1 0x3FCC71C51D8E78AF).bind fun d2 => (fmul d2 s4).bind fun d3 => (fadd d3 0x3FD999999997FA04).bind fun d4 => (fmul s4 d4).bind fun t2 =>
  (fadd t1 t2).bind fun r => (fmul 4602678819172646912 f).bind fun h1 => (fmul h1 f).bind fun h2 => (fadd r h2).bind fun g1 => (fmul s g1).bind fun g2 => (fmul 0x3DEA39EF35793C76 k).bind fun g3 => (fadd g2 g3).bind fun inner =>
  (fmul k 0x3FE62E42FEE00000).bind fun o1 => (fsub h2 inner).bind fun o2 => (fsub o2 f).bind fun o3 => fsub o1 o3

/-- All the steps, each with its word. -/
structure LogSteps (f k a s s2 s4 c1 c2 c3 c4 c5 c6 t1 d1 d2 d3 d4 t2 r h1 h2 g1 g2 g3 inner o1 o2 o3 z : Nat) : Prop where
  e1 : fadd 4611686018427387904 f = some a
  e2 : fdiv f a = some s
  e3 : fmul s s = some s2
  e4 : fmul s2 s2 = some s4
  e5 : fmul 0x3FC2F112DF3E5244 s4 = some c1
  e6 : fadd c1 0x3FC7466496CB03DE = some c2
  e7 : fmul c2 s4 = some c3
  e8 : fadd c3 0x3FD2492494229359 = some c4
  e9 : fmul c4 s4 = some c5
  e10 : fadd c5 0x3FE5555555555593 = some c6
  e11 : fmul s2 c6 = some t1
  e12 : fmul 0x3FC39A09D078C69F s4 = some d1
  e13 : fadd d1 0x3FCC71C51D8E78AF = some d2
  e14 : fmul d2 s4 = some d3
  e15 : fadd d3 0x3FD999999997FA04 = some d4
  e16 : fmul s4 d4 = some t2
  e17 : fadd t1 t2 = some r
  e18 : fmul 4602678819172646912 f = some h1
  e19 : fmul h1 f = some h2
  e20 : fadd r h2 = some g1
  e21 : fmul s g1 = some g2
  e22 : fmul 0x3DEA39EF35793C76 k = some g3
  e23 : fadd g2 g3 = some inner
  e24 : fmul k 0x3FE62E42FEE00000 = some o1
  e25 : fsub h2 inner = some o2
  e26 : fsub o2 f = some o3
  e27 : fsub o1 o3 = some z
  fz : Fi z

theorem bdc (c : Nat) (h : (decide (c < 18446744073709551616) && decide (rg c < INF) && decide (val c ≤ 1) && decide (-1 ≤ val c)) = true) : Bd c 0 := by
  simp only [Bool.and_eq_true, decide_eq_true_eq] at h
  obtain ⟨⟨⟨h1, h2⟩, h3⟩, h4⟩ := h
  exact ⟨h1, h2, by rw [Rat.zpow_zero]; exact h3, by rw [Rat.zpow_zero]; exact h4⟩

set_option maxRecDepth 10000 in
theorem log_steps {f k : Nat} (hf : Bd f 0) (hfl : -(1 / 2) ≤ val f) (hk : Bd k 11) :
    ∃ a s s2 s4 c1 c2 c3 c4 c5 c6 t1 d1 d2 d3 d4 t2 r h1 h2 g1 g2 g3 inner o1 o2 o3 z, LogSteps f k a s s2 s4 c1 c2 c3 c4 c5 c6 t1 d1 d2 d3 d4 t2 r h1 h2 g1 g2 g3 inner o1 o2 o3 z := by
  obtain ⟨a, e1, Ra, _⟩ := add_rnd fin_TWO hf.fi
  rw [val_TWO] at Ra
  have hfu := hf.up
  rw [Rat.zpow_zero] at hfu
  have a1 : 1 ≤ val a := by
    have := Ra.lo ONE num_ONE (by rw [val_ONE]; grind)
    rwa [val_ONE] at this
  have fa : Fi a := Ra.fin (by have := one_le_MAXF; grind) (by have := one_le_MAXF; grind)
  have a0 : rg a ≠ 0 := by
    intro h
    have : val a = 0 := by rw [val_pm, h, rv_zero]; simp
    rw [this] at a1; exact absurd a1 (by decide +kernel)
  obtain ⟨s, e2, Rs, _⟩ := div_rnd hf.fi fa a0
  have hs : Bd s 0 := by
    refine bd_of_rnd Rs (by omega) (by omega) ?_ ?_
    · rw [Rat.zpow_zero, ← Rat.not_lt, Rat.lt_div_iff (by grind)]; grind
    · rw [Rat.zpow_zero, ← Rat.not_lt, Rat.div_lt_iff (by grind)]; grind
  obtain ⟨s2, e3, b3⟩ := bd_mul hs hs (by omega) (by omega)
  obtain ⟨s4, e4, b4⟩ := bd_mul b3 b3 (by omega) (by omega)
  obtain ⟨c1, e5, b5⟩ := bd_mul (bdc 0x3FC2F112DF3E5244 (by decide +kernel)) b4 (by omega) (by omega)
  obtain ⟨c2, e6, b6⟩ := bd_add 1 b5 (bdc 0x3FC7466496CB03DE (by decide +kernel)) (by omega) (by omega) (by omega) (by omega)
  obtain ⟨c3, e7, b7⟩ := bd_mul b6 b4 (by omega) (by omega)
  obtain ⟨c4, e8, b8⟩ := bd_add 2 b7 (bdc 0x3FD2492494229359 (by decide +kernel)) (by omega) (by omega) (by omega) (by omega)
  obtain ⟨c5, e9, b9⟩ := bd_mul b8 b4 (by omega) (by omega)
  obtain ⟨c6, e10, b10⟩ := bd_add 3 b9 (bdc 0x3FE5555555555593 (by decide +kernel)) (by omega) (by omega) (by omega) (by omega)
  obtain ⟨t1, e11, b11⟩ := bd_mul b3 b10 (by omega) (by omega)
  obtain ⟨d1, e12, b12⟩ := bd_mul (bdc 0x3FC39A09D078C69F (by decide +kernel)) b4 (by omega) (by omega)
  obtain ⟨d2, e13, b13⟩ := bd_add 1 b12 (bdc 0x3FCC71C51D8E78AF (by decide +kernel)) (by omega) (by omega) (by omega) (by omega)
  obtain ⟨d3, e14, b14⟩ := bd_mul b13 b4 (by omega) (by omega)
  obtain ⟨d4, e15, b15⟩ := bd_add 2 b14 (bdc 0x3FD999999997FA04 (by decide +kernel)) (by omega) (by omega) (by omega) (by omega)
  obtain ⟨t2, e16, b16⟩ := bd_mul b4 b15 (by omega) (by omega)
  obtain ⟨r, e17, b17⟩ := bd_add 4 b11 b16 (by omega) (by omega) (by omega) (by omega)
  obtain ⟨h1, e18, b18⟩ := bd_mul (bdc 4602678819172646912 (by decide +kernel)) hf (by omega) (by omega)
  obtain ⟨h2, e19, b19⟩ := bd_mul b18 hf (by omega) (by omega)
  obtain ⟨g1, e20, b20⟩ := bd_add 5 b17 b19 (by omega) (by omega) (by omega) (by omega)
  obtain ⟨g2, e21, b21⟩ := bd_mul hs b20 (by omega) (by omega)
  obtain ⟨g3, e22, b22⟩ := bd_mul (bdc 0x3DEA39EF35793C76 (by decide +kernel)) hk (by omega) (by omega)
  obtain ⟨inner, e23, b23⟩ := bd_add 12 b21 b22 (by omega) (by omega) (by omega) (by omega)
  obtain ⟨o1, e24, b24⟩ := bd_mul hk (bdc 0x3FE62E42FEE00000 (by decide +kernel)) (by omega) (by omega)
  obtain ⟨o2, e25, b25⟩ := bd_sub 13 b19 b23 (by omega) (by omega) (by omega) (by omega)
  obtain ⟨o3, e26, b26⟩ := bd_sub 14 b25 hf (by omega) (by omega) (by omega) (by omega)
  obtain ⟨z, e27, b27⟩ := bd_sub 15 b24 b26 (by omega) (by omega) (by omega) (by omega)
  exact ⟨a, s, s2, s4, c1, c2, c3, c4, c5, c6, t1, d1, d2, d3, d4, t2, r, h1, h2, g1, g2, g3, inner, o1, o2, o3, z, e1, e2, e3, e4, e5, e6, e7, e8, e9, e10, e11, e12, e13, e14, e15, e16, e17, e18, e19, e20, e21, e22, e23, e24, e25, e26, e27, b27.fi⟩

theorem bind_eq {α β : Type} {o : Option α} {x : α} {F : α → Option β} (h : o = some x) : o.bind F = F x := by rw [h]; rfl
theorem LogSteps.eq {f k a s s2 s4 c1 c2 c3 c4 c5 c6 t1 d1 d2 d3 d4 t2 r h1 h2 g1 g2 g3 inner o1 o2 o3 z : Nat} (h : LogSteps f k a s s2 s4 c1 c2 c3 c4 c5 c6 t1 d1 d2 d3 d4 t2 r h1 h2 g1 g2 g3 inner o1 o2 o3 z) : logTail f k = some z := by
  unfold logTail
  rw [bind_eq h.e1]
  rw [bind_eq h.e2]
  rw [bind_eq h.e3]
  rw [bind_eq h.e4]
  rw [bind_eq h.e5]
  rw [bind_eq h.e6]
  rw [bind_eq h.e7]
  rw [bind_eq h.e8]
  rw [bind_eq h.e9]
  rw [bind_eq h.e10]
  rw [bind_eq h.e11]
  rw [bind_eq h.e12]
  rw [bind_eq h.e13]
  rw [bind_eq h.e14]
  rw [bind_eq h.e15]
  rw [bind_eq h.e16]
  rw [bind_eq h.e17]
  rw [bind_eq h.e18]
  rw [bind_eq h.e19]
  rw [bind_eq h.e20]
  rw [bind_eq h.e21]
  rw [bind_eq h.e22]
  rw [bind_eq h.e23]
  rw [bind_eq h.e24]
  rw [bind_eq h.e25]
  rw [bind_eq h.e26]
  exact h.e27

/-- The fraction and the exponent that Log starts from. -/
def logHead (x : Nat) : Option (Nat × Nat) :=
  let f1 := x % 4503599627370496 + 4602678819172646912
  let small := !flt 0x3FE6A09E667F3BCD f1
  (fsub (floatOfInt .f64 (Int.ofNat (x / 4503599627370496) - 1022)) (if small then ONE else 0)).bind fun k =>
  (fadd (if small then ONE else 0) ONE).bind fun m => (fmul f1 m).bind fun g => (fsub g ONE).bind fun f => some (f, k)
/-- Log on words. -/
def logW (x : Nat) : Nat :=
  if rg x = 0 then 18442240474082181120
  else if SW ≤ x then 9221120237041090561
  else if INF ≤ x then x
  else ((logHead x).bind fun p => logTail p.1 p.2).getD 0

/-- What Log starts from is in range. -/
theorem log_head {x : Nat} (h0 : 0 < x) (hI : x < INF) : ∃ k m g f, fsub (floatOfInt .f64 (Int.ofNat (x / 4503599627370496) - 1022)) (if !flt 0x3FE6A09E667F3BCD (x % 4503599627370496 + 4602678819172646912) then ONE else 0) = some k ∧
    fadd (if !flt 0x3FE6A09E667F3BCD (x % 4503599627370496 + 4602678819172646912) then ONE else 0) ONE = some m ∧ fmul (x % 4503599627370496 + 4602678819172646912) m = some g ∧ fsub g ONE = some f ∧ Bd f 0 ∧ -(1 / 2) ≤ val f ∧ Bd k 11 := by
  have hBv : B = 4503599627370496 := rfl
  have hIv : INF = 9218868437227405312 := rfl
  have hsw : SW = 9223372036854775808 := rfl
  obtain ⟨f1, hf1⟩ : ∃ f1, f1 = x % 4503599627370496 + 4602678819172646912 := ⟨_, rfl⟩
  rw [← hf1]
  have hb1 : 4602678819172646912 ≤ f1 ∧ f1 < 4607182418800017408 := by omega
  have hs1 : f1 < SW := by omega
  have ew : f1 = Ieee.double.word false f1 := by rw [word_eq]; simp
  have r1 : rg f1 = f1 := by unfold rg; exact Nat.mod_eq_of_lt hs1
  have s1 : sg f1 = false := by rw [ew]; exact word_sg hs1
  have fi1 : Fi f1 := by unfold Fi; omega
  have wd1 : Wd f1 := by unfold Wd; omega
  have v1 : 1 / 2 ≤ val f1 ∧ val f1 ≤ 1 := by
    rw [val_pos_word s1, r1]
    have a : (1 : Rat) / 2 = rv 4602678819172646912 := by decide +kernel
    have b : (1 : Rat) = rv 4607182418800017408 := by decide +kernel
    constructor
    · rw [a]; exact rv_le_iff.2 hb1.1
    · have : rv f1 ≤ rv 4607182418800017408 := rv_le_iff.2 (by omega)
      rw [← b] at this; exact this
  -- the exponent
  obtain ⟨n, hn⟩ : ∃ n : Int, n = Int.ofNat (x / 4503599627370496) - 1022 := ⟨_, rfl⟩
  rw [← hn]
  have hnb : -1022 ≤ n ∧ n ≤ 1024 := by
    have : x / 4503599627370496 ≤ 2046 := by omega
    have e : Int.ofNat (x / 4503599627370496) = ((x / 4503599627370496 : Nat) : Int) := rfl
    rw [e] at hn; omega
  obtain ⟨k1, k2, k3, k4⟩ := ofInt_spec (n := n) (by omega)
  have kb : Bd (floatOfInt .f64 n) 11 := by
    refine ⟨k1, k2, ?_, ?_⟩
    · rw [k3]
      have : (2 : Rat) ^ (11 : Int) = ((2048 : Int) : Rat) := by decide +kernel
      rw [this]; exact Rat.intCast_le_intCast.2 (by omega)
    · rw [k3]
      have : -(2 : Rat) ^ (11 : Int) = ((-2048 : Int) : Rat) := by decide +kernel
      rw [this]; exact Rat.intCast_le_intCast.2 (by omega)
  have kex : ∀ c : Nat, (c = ONE ∨ c = 0) → ∃ k, fsub (floatOfInt .f64 n) c = some k ∧ Bd k 11 := by
    intro c hc
    have wc : Wd c := by rcases hc with rfl | rfl <;> unfold Wd <;> decide
    have fc : Fi (negw c) := by rcases hc with rfl | rfl <;> unfold Fi <;> decide
    have vc : val (negw c) = -1 ∨ val (negw c) = 0 := by
      rcases hc with rfl | rfl
      · left; decide +kernel
      · right; decide +kernel
    obtain ⟨z, e, R, _⟩ := add_rnd k2 fc
    refine ⟨z, by unfold fsub; rw [sub_eq_add wc]; exact e, bd_of_rnd R (by omega) (by omega) ?_ ?_⟩
    · rw [k3]
      have : (2 : Rat) ^ (11 : Int) = ((2048 : Int) : Rat) := by decide +kernel
      rw [this]
      have : (n : Rat) ≤ ((1024 : Int) : Rat) := Rat.intCast_le_intCast.2 (by omega)
      have e1 : ((1024 : Int) : Rat) = 1024 := rfl
      have e2 : ((2048 : Int) : Rat) = 2048 := rfl
      grind
    · rw [k3]
      have : (2 : Rat) ^ (11 : Int) = ((2048 : Int) : Rat) := by decide +kernel
      rw [this]
      have : ((-1022 : Int) : Rat) ≤ (n : Rat) := Rat.intCast_le_intCast.2 (by omega)
      have e1 : ((-1022 : Int) : Rat) = -1022 := rfl
      have e2 : ((2048 : Int) : Rat) = 2048 := rfl
      grind
  -- the factor
  have key : ∀ m : Nat, Fi m → (val m = 1 ∨ (val m = 2 ∧ val f1 ≤ 1)) → ∃ g f, fmul f1 m = some g ∧ fsub g ONE = some f ∧ Bd f 0 ∧ -(1 / 2) ≤ val f := by
    intro m fm hm
    obtain ⟨g, eg, Rg, _⟩ := mul_rnd fi1 fm
    have w2 : val 4611686018427387904 = 2 := by decide +kernel
    have g1 : 1 / 2 ≤ val g := by
      have := Rg.lo 4602678819172646912 (by unfold Num; decide) (by
        have e : val 4602678819172646912 = 1 / 2 := by decide +kernel
        rw [e]; rcases hm with hm | hm
        · rw [hm]; grind
        · rw [hm.1]; grind)
      have e : val 4602678819172646912 = 1 / 2 := by decide +kernel
      rwa [e] at this
    have g2 : val g ≤ 2 := by
      have := Rg.up 4611686018427387904 (by unfold Num; decide) (by
        rw [w2]; rcases hm with hm | hm
        · rw [hm]; grind
        · rw [hm.1]; grind)
      rwa [w2] at this
    have fg : Fi g := by
      refine Rg.fin ?_ ?_ <;> (have := one_le_MAXF; rcases hm with hm | hm) <;> first | (rw [hm]; grind) | (rw [hm.1]; grind)
    obtain ⟨f, ef, Rf, _⟩ := add_rnd fg (negw_fin ONE_wd fin_ONE)
    have vn : val (negw ONE) = -1 := by rw [negw_val ONE_wd, val_ONE]
    rw [vn] at Rf
    refine ⟨g, f, eg, by unfold fsub; rw [sub_eq_add ONE_wd]; exact ef, bd_of_rnd Rf (by omega) (by omega) (by rw [Rat.zpow_zero]; grind) (by rw [Rat.zpow_zero]; grind), ?_⟩
    have wm : val 13826050856027422720 = -(1 / 2) := by decide +kernel
    have := Rf.lo 13826050856027422720 (by unfold Num; decide) (by rw [wm]; grind)
    rwa [wm] at this
  have m1 : fadd ONE ONE = some 4611686018427387904 := by unfold fadd; decide +kernel
  have m0 : fadd 0 ONE = some ONE := by unfold fadd; decide +kernel
  cases hsm : flt 0x3FE6A09E667F3BCD f1
  · simp only [Bool.not_false, if_true]
    obtain ⟨k, ek, bk⟩ := kex ONE (Or.inl rfl)
    obtain ⟨g, f, eg, ef, bf, lf⟩ := key 4611686018427387904 fin_TWO (Or.inr ⟨val_TWO, v1.2⟩)
    exact ⟨k, _, g, f, ek, m1, eg, ef, bf, lf, bk⟩
  · simp only [Bool.not_true, Bool.false_eq_true, if_false]
    obtain ⟨k, ek, bk⟩ := kex 0 (Or.inr rfl)
    obtain ⟨g, f, eg, ef, bf, lf⟩ := key ONE fin_ONE (Or.inl val_ONE)
    exact ⟨k, _, g, f, ek, m0, eg, ef, bf, lf, bk⟩

/-- A finite number above 0 has a finite logarithm. -/
theorem logW_fin {x : Nat} (h0 : 0 < x) (hI : x < INF) : ∃ k m g f z, fsub (floatOfInt .f64 (Int.ofNat (x / 4503599627370496) - 1022)) (if !flt 0x3FE6A09E667F3BCD (x % 4503599627370496 + 4602678819172646912) then ONE else 0) = some k ∧
    fadd (if !flt 0x3FE6A09E667F3BCD (x % 4503599627370496 + 4602678819172646912) then ONE else 0) ONE = some m ∧ fmul (x % 4503599627370496 + 4602678819172646912) m = some g ∧ fsub g ONE = some f ∧ Bd f 0 ∧ -(1 / 2) ≤ val f ∧ Bd k 11 ∧
    logTail f k = some z ∧ Fi z ∧ Wd z ∧ logW x = z := by
  obtain ⟨k, m, g, f, e1, e2, e3, e4, b1, b2, b3⟩ := log_head h0 hI
  obtain ⟨a, s, s2, s4, c1, c2, c3, c4, c5, c6, t1, d1, d2, d3, d4, t2, r, h1, h2, g1, g2, g3, inner, o1, o2, o3, z, L⟩ := log_steps b1 b2 b3
  have hz := L.eq
  have hsw : INF < SW := inf_lt_sw
  refine ⟨k, m, g, f, z, e1, e2, e3, e4, b1, b2, b3, hz, L.fz, wd_width (Ieee.double.sub_lt L.e27), ?_⟩
  have hr : rg x = x := by unfold rg; exact Nat.mod_eq_of_lt (by omega)
  unfold logW
  rw [hr, if_neg (by omega), if_neg (by omega), if_neg (by omega)]
  unfold logHead
  simp only []
  rw [bind_eq e1, bind_eq e2, bind_eq e3, bind_eq e4]
  show ((some (f, k)).bind fun p => logTail p.1 p.2).getD 0 = z
  rw [bind_eq (x := (f, k)) rfl, hz]
  rfl

section
variable {P : Program} (w : World)
theorem step_add {x y z : Nat} {F : Nat → Sem Value} (h : fadd x y = some z) : Sem.run P (Extern.MathAsm.add x y >>= F) w = Sem.run P (F z) w := by
  have a := run_asm (P := P) w .add (some z) x y z h
  have e : Extern.MathAsm.add x y = Extern.MathAsm.arith .add x y := rfl
  rw [e, Sem.run_bind, a]; rfl
theorem step_sub {x y z : Nat} {F : Nat → Sem Value} (h : fsub x y = some z) : Sem.run P (Extern.MathAsm.sub x y >>= F) w = Sem.run P (F z) w := by
  have a := run_asm (P := P) w .sub (some z) x y z h
  have e : Extern.MathAsm.sub x y = Extern.MathAsm.arith .sub x y := rfl
  rw [e, Sem.run_bind, a]; rfl
theorem step_mul {x y z : Nat} {F : Nat → Sem Value} (h : fmul x y = some z) : Sem.run P (Extern.MathAsm.mul x y >>= F) w = Sem.run P (F z) w := by
  have a := run_asm (P := P) w .mul (some z) x y z h
  have e : Extern.MathAsm.mul x y = Extern.MathAsm.arith .mul x y := rfl
  rw [e, Sem.run_bind, a]; rfl
theorem step_div {x y z : Nat} {F : Nat → Sem Value} (h : fdiv x y = some z) : Sem.run P (Extern.MathAsm.div x y >>= F) w = Sem.run P (F z) w := by
  have a := run_asm (P := P) w .quo (some z) x y z h
  have e : Extern.MathAsm.div x y = Extern.MathAsm.arith .quo x y := rfl
  rw [e, Sem.run_bind, a]; rfl
theorem log_match {x : Nat} (f : Nat → Sem Value) (g : (a : Array Value) → Sem Value) : Extern.MathLog.archLog.match_1 (fun _ => Sem Value) #[.float .f64 x] f g = f x := rfl
set_option maxRecDepth 10000 in
theorem run_archLog (x : Nat) (hx : Wd x) : (Extern.MathLog.archLog #[.float .f64 x]).run P w = .ok (.float .f64 (logW x)) w := by
  delta Extern.MathLog.archLog
  dsimp only
  rw [log_match]
  by_cases c1 : rg x = 0
  · have : (x % 2 ^ 63 == 0) = true := by
      have e : x % 2 ^ 63 = rg x := rfl
      rw [e, c1]; rfl
    rw [if_pos this]
    unfold logW; rw [if_pos c1]; rfl
  · have : ¬ (x % 2 ^ 63 == 0) = true := by
      have e : x % 2 ^ 63 = rg x := rfl
      rw [e]; simpa using c1
    rw [if_neg this]
    by_cases c2 : SW ≤ x
    · rw [if_pos (show x ≥ 2 ^ 63 from c2)]
      unfold logW; rw [if_neg c1, if_pos c2]; rfl
    · rw [if_neg (show ¬ x ≥ 2 ^ 63 from c2)]
      by_cases c3 : INF ≤ x
      · rw [if_pos (show x ≥ Extern.MathAsm.posInf from c3)]
        unfold logW; rw [if_neg c1, if_neg c2, if_pos c3]; rfl
      · rw [if_neg (show ¬ x ≥ Extern.MathAsm.posInf from c3)]
        have x0 : 0 < x := by
          by_cases h : x = 0
          · subst h; exact absurd (by decide) c1
          · omega
        obtain ⟨k, m, g, f, z, e1, e2, e3, e4, b1, b2, b3, hz, fz, wz, hl⟩ := logW_fin x0 (by omega)
        obtain ⟨a, s, s2, s4, c1', c2', c3', c4, c5, c6, t1, d1, d2, d3, d4, t2, r, h1, h2, g1, g2, g3, inner, o1, o2, o3, z', L⟩ := log_steps b1 b2 b3
        have hzz : z' = z := by have := L.eq; rw [hz] at this; simpa using this.symm
        subst hzz
        have q1 : ∀ n, Extern.MathAsm.ofInt32 n = floatOfInt .f64 n := fun _ => rfl
        have q2 : ∀ a b, Extern.MathAsm.lt a b = flt a b := fun _ _ => rfl
        have q3 : Extern.MathAsm.half = 4602678819172646912 := rfl
        have q4 : Extern.MathAsm.one = ONE := rfl
        have q5 : Extern.MathAsm.two = 4611686018427387904 := rfl
        have q6 : (2 : Nat) ^ 52 = 4503599627370496 := by decide
        rw [hl]
        simp only [q1, q2, q3, q4, q5, q6]
        rw [step_sub w e1, step_add w e2, step_mul w e3, step_sub w e4]
        rw [step_add w L.e1]
        rw [step_div w L.e2]
        rw [step_mul w L.e3]
        rw [step_mul w L.e4]
        rw [step_mul w L.e5]
        rw [step_add w L.e6]
        rw [step_mul w L.e7]
        rw [step_add w L.e8]
        rw [step_mul w L.e9]
        rw [step_add w L.e10]
        rw [step_mul w L.e11]
        rw [step_mul w L.e12]
        rw [step_add w L.e13]
        rw [step_mul w L.e14]
        rw [step_add w L.e15]
        rw [step_mul w L.e16]
        rw [step_add w L.e17]
        rw [step_mul w L.e18]
        rw [step_mul w L.e19]
        rw [step_add w L.e20]
        rw [step_mul w L.e21]
        rw [step_mul w L.e22]
        rw [step_add w L.e23]
        rw [step_mul w L.e24]
        rw [step_sub w L.e25]
        rw [step_sub w L.e26]
        rw [step_sub w L.e27]
        rfl
end
@[go_sem] theorem callLog (x : Nat) (w : World) (hx : Wd x) : (callFunc 43 #[.float .f64 x]).run Try.prog w = .ok (.value (.float .f64 (logW x))) w := by
  rw [run_callFunc_extern (e := Extern.MathLog.archLog) Try.func43 (by kernel_rfl) (by kernel_rfl) (by kernel_rfl) (by kernel_rfl), run_archLog w x hx]; rfl
theorem mLog_any (x : Nat) (w : World) (hx : Wd x) :
    Calls Try.prog 32 #[.float .f64 x] w fun e w' => e = .returned (.float .f64 (logW x)) ∧ w = w' := by
  go_enter Try.func32, Try.ntmps32
  go_wp2
  go_ret
  exact ⟨rfl, rfl⟩
theorem realLog_any (x : Nat) (w : World) (hx : Wd x) :
    Calls Try.prog 18 #[.float .f64 x] w fun e w' => e = .returned (.float .f64 (logW x)) ∧ w = w' := by
  go_enter Try.func18, Try.ntmps18
  go_wp2_with (go_at_call 32; refine (mLog_any _ _ hx).mono ?_; rintro e w' ⟨rfl, rfl⟩)
  go_ret
  exact ⟨rfl, rfl⟩

/-- Special values. -/
theorem logW_wd {x : Nat} (hx : Wd x) : Wd (logW x) := by
  by_cases c1 : rg x = 0
  · unfold logW; rw [if_pos c1]; unfold Wd; decide
  · by_cases c2 : SW ≤ x
    · unfold logW; rw [if_neg c1, if_pos c2]; unfold Wd; decide
    · by_cases c3 : INF ≤ x
      · unfold logW; rw [if_neg c1, if_neg c2, if_pos c3]; exact hx
      · have x0 : 0 < x := by
          by_cases h : x = 0
          · subst h; exact absurd (by decide) c1
          · omega
        obtain ⟨k, m, g, f, z, e1, e2, e3, e4, b1, b2, b3, hz, fz, wz, hl⟩ := logW_fin x0 (by omega)
        rw [hl]; exact wz
theorem logW_zero {x : Nat} (h : rg x = 0) : logW x = 18442240474082181120 := by unfold logW; rw [if_pos h]
theorem logW_neg {x : Nat} (hx : Wd x) (h0 : rg x ≠ 0) (hs : sg x = true) : logW x = 9221120237041090561 := by
  rw [sg_iff hx] at hs
  unfold logW; rw [if_neg h0, if_pos (by simpa [SW] using hs)]
theorem logW_top {x : Nat} (hx : Wd x) (hs : sg x = false) (h : INF ≤ rg x) : logW x = x := by
  have hr : rg x = x := by
    have := word_self hx
    rw [hs, word_eq] at this; simpa using this
  have h2 : ¬ SW ≤ x := by rw [sg_iff hx] at hs; simpa [SW] using hs
  have hI : (0 : Nat) < INF := by decide
  unfold logW; rw [if_neg (by omega), if_neg h2, if_pos (by omega)]
theorem logW_pos {x : Nat} (hx : Wd x) (hs : sg x = false) (h0 : rg x ≠ 0) (hf : Fi x) : Fi (logW x) := by
  have hr : rg x = x := by
    have := word_self hx
    rw [hs, word_eq] at this; simpa using this
  unfold Fi at hf
  obtain ⟨k, m, g, f, z, e1, e2, e3, e4, b1, b2, b3, hz, fz, wz, hl⟩ := logW_fin (x := x) (by omega) (by omega)
  rw [hl]; exact fz

end Go.Proofs.Ytnfidnfokfgepaa

/- The words of double precision: their values as rationals, how the model orders them, and what its sum, product, quotient and root give: the nearest word, told by what it lies between and by how far it is off. -/
import Derived.Test.YtojjlkmeicdeeaaFloatA
set_option linter.unusedSimpArgs false
set_option linter.unusedVariables false
namespace Go.Proofs.Ytojjlkmeicdeeaa.F64
open Ieee

/-- The sign bit, the rung, the value. -/
def sg (x : Nat) : Bool := x / SW % 2 == 1
def rg (x : Nat) : Nat := x % SW
def val (x : Nat) : Rat := if sg x then -(rv (rg x)) else rv (rg x)
/-- A word. -/
def Wd (x : Nat) : Prop := x < 18446744073709551616
/-- The word is no NaN; it is finite. -/
def Num (x : Nat) : Prop := rg x ≤ INF
def Fi (x : Nat) : Prop := rg x < INF
theorem Fi.num {x : Nat} (h : Fi x) : Num x := Nat.le_of_lt h

theorem e_sw : double.signWeight = SW := by decide
theorem e_b : double.binade = B := by decide
theorem e_inf : double.infRung = INF := by decide
theorem e_lp : double.leastPlace = -1074 := by decide

theorem word_eq (n : Bool) (g : Nat) : double.word n g = if n then SW + g else g := by
  unfold Format.word; rw [e_sw]
theorem word_sg {n : Bool} {g : Nat} (h : g < SW) : sg (double.word n g) = n := by
  rw [word_eq]; unfold sg
  cases n
  · simp [Nat.div_eq_of_lt h]
  · have : (SW + g) / SW = 1 := by
      rw [Nat.add_div_left _ (by decide), Nat.div_eq_of_lt h]
    simp [this]
theorem word_rg {n : Bool} {g : Nat} (h : g < SW) : rg (double.word n g) = g := by
  rw [word_eq]; unfold rg
  cases n
  · simp [Nat.mod_eq_of_lt h]
  · simp [Nat.mod_eq_of_lt h]
theorem word_wd {n : Bool} {g : Nat} (h : g < SW) : Wd (double.word n g) := by
  rw [word_eq]; unfold Wd; unfold SW at *
  cases n <;> simp <;> omega
theorem inf_lt_sw : INF < SW := by decide
theorem word_self {x : Nat} (h : Wd x) : double.word (sg x) (rg x) = x := by
  rw [word_eq]; unfold sg rg Wd SW at *
  have h2 : x / 9223372036854775808 < 2 := by omega
  by_cases h1 : x / 9223372036854775808 % 2 = 1
  · simp [h1]; omega
  · simp [h1]; omega
theorem wd_ext {x y : Nat} (hx : Wd x) (hy : Wd y) (h1 : sg x = sg y) (h2 : rg x = rg y) : x = y := by
  rw [← word_self hx, ← word_self hy, h1, h2]

theorem read_fin {x : Nat} (h : Fi x) : ∃ m p, double.read x = .number (sg x) m p ∧ (m : Rat) * (2 : Rat) ^ p = rv (rg x) ∧ m < 2 * B ∧ -1074 ≤ p ∧ (m = 0 ↔ rg x = 0) := by
  unfold Fi at h
  have hB := B_pos
  have hr : double.read x = (if rg x < B then .number (sg x) (rg x) (-1074) else if rg x < INF then .number (sg x) (B + rg x % B) (-1074 + ((rg x / B - 1 : Nat) : Int)) else if rg x = INF then .infinity (sg x) else .nan (sg x) (rg x - INF)) := by
    unfold Format.read rg sg; simp only [e_sw, e_b, e_inf, e_lp]
  rw [hr]
  generalize rg x = g at *
  by_cases h1 : g < B
  · rw [if_pos h1]
    refine ⟨_, _, rfl, ?_, by omega, by omega, Iff.rfl⟩
    have := rv_of 0 g (Or.inl ⟨rfl, by omega⟩)
    rw [Nat.zero_mul, Nat.zero_add, show ((0 : Nat) : Int) - 1074 = -1074 from rfl] at this
    exact this.symm
  · rw [if_neg h1, if_pos h]
    have hm := Nat.mod_lt g hB
    refine ⟨_, _, rfl, ?_, by omega, by omega, by omega⟩
    have h2 : 1 ≤ g / B := (Nat.le_div_iff_mul_le hB).2 (by omega)
    have e := rv_of (g / B - 1) (B + g % B) (Or.inr ⟨by omega, by omega⟩)
    have e2 : (g / B - 1) * B + (B + g % B) = g := by
      have h1 := Nat.div_add_mod g B
      have h3 : (g / B - 1) * B + B = g / B * B := by
        rw [← Nat.succ_mul]; congr 1; omega
      rw [Nat.mul_comm] at h1
      omega
    rw [e2] at e
    rw [e, Int.sub_eq_add_neg, Int.add_comm]

theorem read_inf {x : Nat} (h : rg x = INF) : double.read x = .infinity (sg x) := by
  have hr : double.read x = (if rg x < B then .number (sg x) (rg x) (-1074) else if rg x < INF then .number (sg x) (B + rg x % B) (-1074 + ((rg x / B - 1 : Nat) : Int)) else if rg x = INF then .infinity (sg x) else .nan (sg x) (rg x - INF)) := by
    unfold Format.read rg sg; simp only [e_sw, e_b, e_inf, e_lp]
  rw [hr, h, if_neg (by decide), if_neg (by decide), if_pos rfl]

theorem read_nan {x : Nat} (h : INF < rg x) : double.read x = .nan (sg x) (rg x - INF) := by
  have hr : double.read x = (if rg x < B then .number (sg x) (rg x) (-1074) else if rg x < INF then .number (sg x) (B + rg x % B) (-1074 + ((rg x / B - 1 : Nat) : Int)) else if rg x = INF then .infinity (sg x) else .nan (sg x) (rg x - INF)) := by
    unfold Format.read rg sg; simp only [e_sw, e_b, e_inf, e_lp]
  have : B < INF := by decide
  rw [hr, if_neg (by omega), if_neg (by omega), if_neg (by omega)]

/-- 1 or -1. -/
def pm (s : Bool) : Rat := if s then -1 else 1
theorem val_pm (x : Nat) : val x = pm (sg x) * rv (rg x) := by
  unfold val pm; cases sg x <;> simp <;> grind
theorem signed_pm (s : Bool) (m k : Nat) : ((signed s m k : Int) : Rat) = pm s * ((m : Rat) * (2 : Rat) ^ (k : Int)) := by
  unfold signed pm
  rw [zp_nat, ← Rat.natCast_mul, Nat.shiftLeft_eq]
  cases s <;> simp [Rat.intCast_natCast] <;> grind

/-- How the model orders. -/
def cmpR (a b : Rat) : Ordering := if a < b then .lt else if a = b then .eq else .gt
theorem compare_int_scaled (a b : Int) (q r s : Rat) (hs : 0 < s) (ha : (a : Rat) * s = q) (hb : (b : Rat) * s = r) : compare a b = cmpR q r := by
  unfold cmpR
  have h1 : q < r ↔ a < b := by
    rw [← ha, ← hb, Rat.mul_lt_mul_right hs, Rat.intCast_lt_intCast]
  have h2 : q = r ↔ a = b := by
    constructor
    · intro h
      rw [← ha, ← hb] at h
      have := congrArg (· / s) h
      simp only [Rat.mul_div_cancel (Rat.ne_of_gt hs)] at this
      exact Rat.intCast_inj.1 this
    · intro h; rw [← ha, ← hb, h]
  show compareOfLessAndEq a b = _
  unfold compareOfLessAndEq
  by_cases c1 : a < b
  · rw [if_pos c1, if_pos (h1.2 c1)]
  · rw [if_neg c1, if_neg (fun h => c1 (h1.1 h))]
    by_cases c2 : a = b
    · rw [if_pos c2, if_pos (h2.2 c2)]
    · rw [if_neg c2, if_neg (fun h => c2 (h2.1 h))]

theorem scaled_val {x : Nat} {m : Nat} {p base : Int} (hb : base ≤ p) (hv : (m : Rat) * (2 : Rat) ^ p = rv (rg x)) :
    ((signed (sg x) m (p - base).toNat : Int) : Rat) * (2 : Rat) ^ base = val x := by
  rw [signed_pm, val_pm, ← hv, Int.toNat_of_nonneg (by omega), Rat.mul_assoc, Rat.mul_assoc, ← zp_add]
  congr 4; omega

theorem order_num {x y : Nat} (hx : Num x) (hy : Num y) : double.order x y = some (cmpR (val x) (val y)) := by
  unfold Format.order
  have hI : ∀ {z : Nat}, Fi z → rv (rg z) < rv INF := fun h => rv_lt_iff.2 h
  have h0 := rv_nonneg
  by_cases cx : Fi x
  · obtain ⟨m, p, e1, e2, _⟩ := read_fin cx
    by_cases cy : Fi y
    · obtain ⟨n, q, f1, f2, _⟩ := read_fin cy
      rw [e1, f1]
      simp only [Datum.order]
      rw [compare_int_scaled _ _ (val x) (val y) _ (zp_pos (min p q)) (scaled_val (by omega) e2) (scaled_val (by omega) f2)]
    · have ey : rg y = INF := by unfold Fi Num at *; omega
      rw [e1, read_inf ey]
      simp only [Datum.order]
      congr 1
      have a1 := hI cx
      have a2 := h0 (rg x)
      unfold cmpR
      rw [val_pm, val_pm, ey]
      unfold pm
      cases sg x <;> cases sg y <;> simp <;> grind
  · have ex : rg x = INF := by unfold Fi Num at *; omega
    rw [read_inf ex]
    by_cases cy : Fi y
    · obtain ⟨n, q, f1, f2, _⟩ := read_fin cy
      rw [f1]
      simp only [Datum.order]
      congr 1
      have a1 := hI cy
      have a2 := h0 (rg y)
      unfold cmpR
      rw [val_pm, val_pm, ex]
      unfold pm
      cases sg x <;> cases sg y <;> simp <;> grind
    · have ey : rg y = INF := by unfold Fi Num at *; omega
      rw [read_inf ey]
      simp only [Datum.order]
      congr 1
      have a1 : 0 < rv INF := rv_pos (by decide)
      have k1 : compare (1 : Nat) 0 = .gt := by decide
      have k2 : compare (0 : Nat) 1 = .lt := by decide
      unfold cmpR
      rw [val_pm, val_pm, ex, ey]
      unfold pm
      cases sg x <;> cases sg y <;> simp [k1, k2] <;> grind

theorem order_nanl {x y : Nat} (h : ¬ Num x) : double.order x y = none := by
  unfold Format.order; rw [read_nan (by unfold Num at h; omega)]; simp [Datum.order]
theorem order_nanr {x y : Nat} (h : ¬ Num y) : double.order x y = none := by
  unfold Format.order; rw [read_nan (x := y) (by unfold Num at h; omega)]
  cases double.read x <;> simp [Datum.order]

/-- The comparisons of the walk. -/
theorem lt_iff {x y : Nat} (hx : Num x) (hy : Num y) : (double.order x y == some .lt) = decide (val x < val y) := by
  rw [order_num hx hy]; unfold cmpR
  by_cases h1 : val x < val y
  · simp [h1]
  · by_cases h2 : val x = val y <;> simp [h1, h2]
theorem gt_iff {x y : Nat} (hx : Num x) (hy : Num y) : (double.order x y == some .gt) = decide (val y < val x) := by
  rw [order_num hx hy]; unfold cmpR
  by_cases h1 : val x < val y
  · have : ¬ val y < val x := by grind
    simp [h1, this]
  · by_cases h2 : val x = val y
    · simp [h1, h2]
    · have : val y < val x := by grind
      simp [h1, h2, this]
theorem eq_iff {x y : Nat} (hx : Num x) (hy : Num y) : (double.order x y == some .eq) = decide (val x = val y) := by
  rw [order_num hx hy]; unfold cmpR
  by_cases h1 : val x < val y
  · have : val x ≠ val y := Rat.ne_of_lt h1
    simp [h1, this]
  · by_cases h2 : val x = val y <;> simp [h1, h2]

theorem val_word {n : Bool} {g : Nat} (h : g < SW) : val (double.word n g) = pm n * rv g := by
  rw [val_pm, word_sg h, word_rg h]

/-- What is known of a word to which a number was rounded: 'e' bounds how far it is off. -/
structure Rnd (e v : Rat) (z : Nat) : Prop where
  wd : Wd z
  num : Num z
  up : ∀ c, Num c → v ≤ val c → val z ≤ val c
  lo : ∀ c, Num c → val c ≤ v → val c ≤ val z
  err : Fi z → val z ≤ v + (v.abs * e + u) ∧ v ≤ val z + (v.abs * e + u)

def e53 : Rat := (2 : Rat) ^ (-53 : Int)
def e52 : Rat := (2 : Rat) ^ (-52 : Int)

theorem pm_abs (n : Bool) {v : Rat} (h : 0 ≤ v) : (pm n * v).abs = v := by
  unfold pm; cases n
  · simp; exact Rat.abs_of_nonneg h
  · simp [Rat.neg_mul, Rat.abs_neg]; exact Rat.abs_of_nonneg h

theorem u_twice : (2 : Rat) ^ (-1075 : Int) + (2 : Rat) ^ (-1075 : Int) = u := by
  have : u = (2 : Rat) ^ ((1 : Int) + (-1075)) := rfl
  rw [this, zp_add, Rat.zpow_one]; grind

/-- A rung that lies nearest, held below infinity, with a sign. -/
theorem rnd_of_near (n : Bool) {v e : Rat} {g : Nat} (hv : 0 ≤ v) (up : ∀ h, v ≤ rv h → g ≤ h) (lo : ∀ h, rv h ≤ v → h ≤ g)
    (eu : rv g ≤ v + (v * e + u)) (el : v ≤ rv g + (v * e + u)) : Rnd e (pm n * v) (double.word n (min g INF)) := by
  have hsw := inf_lt_sw
  have hm : min g INF < SW := by omega
  have hnn := rv_nonneg
  refine ⟨word_wd hm, ?_, ?_, ?_, ?_⟩
  · unfold Num; rw [word_rg hm]; omega
  · intro c hc h
    rw [val_word hm, val_pm c]
    rw [val_pm c] at h
    have n1 := hnn (rg c)
    have n2 := hnn (min g INF)
    unfold pm at *
    unfold Num at hc
    cases n with
    | false =>
      cases hs : sg c with
      | false =>
        simp [hs] at h ⊢
        exact rv_le_iff.2 (by have := up _ h; omega)
      | true =>
        simp [hs] at h ⊢
        have : g ≤ 0 := up 0 (by rw [rv_zero]; grind)
        have e0 : min g INF = 0 := by omega
        have h3 : v = 0 ∧ rv (rg c) = 0 := by grind
        rw [e0, rv_zero]; grind
    | true =>
      cases hs : sg c with
      | false =>
        simp [hs] at h ⊢
        grind
      | true =>
        simp [hs] at h ⊢
        have h1 : rv (rg c) ≤ v := by grind
        have := rv_le_iff.2 (show rg c ≤ min g INF by have := lo _ h1; omega)
        grind
  · intro c hc h
    rw [val_word hm, val_pm c]
    rw [val_pm c] at h
    have n1 := hnn (rg c)
    have n2 := hnn (min g INF)
    unfold pm at *
    unfold Num at hc
    cases n with
    | false =>
      cases hs : sg c with
      | false =>
        simp [hs] at h ⊢
        exact rv_le_iff.2 (by have := lo _ h; omega)
      | true =>
        simp [hs] at h ⊢
        grind
    | true =>
      cases hs : sg c with
      | false =>
        simp [hs] at h ⊢
        have : g ≤ 0 := up 0 (by rw [rv_zero]; grind)
        have e0 : min g INF = 0 := by omega
        have h3 : v = 0 ∧ rv (rg c) = 0 := by grind
        rw [e0, rv_zero]; grind
      | true =>
        simp [hs] at h ⊢
        have h1 : v ≤ rv (rg c) := by grind
        have := rv_le_iff.2 (show min g INF ≤ rg c by have := up _ h1; omega)
        grind
  · intro hf
    unfold Fi at hf
    rw [word_rg hm] at hf
    have e0 : min g INF = g := by omega
    rw [val_word hm, pm_abs n hv, e0]
    unfold pm
    cases n
    · simp; exact ⟨eu, el⟩
    · simp; constructor <;> grind

theorem nearest_rnd (n : Bool) (mag : Nat) (place : Int) : Rnd e53 (pm n * ((mag : Rat) * (2 : Rat) ^ place)) (double.nearest n mag place) := by
  by_cases h : mag = 0
  · subst h
    have e1 : double.nearest n 0 place = double.word n (min 0 INF) := by
      unfold Format.nearest; simp
    rw [e1]
    have e2 : ((0 : Nat) : Rat) * (2 : Rat) ^ place = 0 := by simp
    rw [e2]
    refine rnd_of_near n (by decide) (fun h _ => Nat.zero_le _) (fun h hh => ?_) ?_ ?_
    · rw [← rv_zero] at hh; exact rv_le_iff.1 hh
    · rw [rv_zero]; have := u_pos; grind
    · rw [rv_zero]; have := u_pos; grind
  · rw [nearest_eq n mag place h]
    have hn := near_spec n mag place h
    have hv : (0 : Rat) ≤ (mag : Rat) * (2 : Rat) ^ place := Rat.mul_nonneg Rat.natCast_nonneg (Rat.le_of_lt (zp_pos _))
    have h5 := zp_pos (-1075)
    have h6 := u_twice
    refine rnd_of_near n hv hn.up hn.lo ?_ ?_
    · have := hn.errU
      unfold e53
      generalize (2 : Rat) ^ (-1075 : Int) = t at *
      generalize (mag : Rat) * (2 : Rat) ^ place = v at *
      generalize v * (2 : Rat) ^ (-53 : Int) = w at *
      grind
    · have := hn.errL
      unfold e53
      generalize (2 : Rat) ^ (-1075 : Int) = t at *
      generalize (mag : Rat) * (2 : Rat) ^ place = v at *
      generalize v * (2 : Rat) ^ (-53 : Int) = w at *
      grind

theorem nearest_sg (n : Bool) (mag : Nat) (place : Int) : sg (double.nearest n mag place) = n := by
  have hsw := inf_lt_sw
  by_cases h : mag = 0
  · subst h
    unfold Format.nearest; rw [if_pos rfl]; exact word_sg (by decide)
  · rw [nearest_eq n mag place h]; exact word_sg (by omega)

/-- Nothing overflows that lies below the greatest finite number. -/
def MAXF : Rat := rv (INF - 1)
theorem Rnd.fin {e v : Rat} {z : Nat} (h : Rnd e v z) (h1 : v ≤ MAXF) (h2 : -MAXF ≤ v) : Fi z := by
  have c1 : INF - 1 < SW := by decide
  have v1 : val (double.word false (INF - 1)) = MAXF := by rw [val_word c1]; unfold pm MAXF; simp
  have v2 : val (double.word true (INF - 1)) = -MAXF := by rw [val_word c1]; unfold pm MAXF; simp; grind
  have n1 : ∀ b, Num (double.word b (INF - 1)) := fun b => by unfold Num; rw [word_rg c1]; decide
  have a1 := h.up _ (n1 false) (by rw [v1]; exact h1)
  have a2 := h.lo _ (n1 true) (by rw [v2]; exact h2)
  rw [v1] at a1; rw [v2] at a2
  unfold MAXF at a1 a2
  rw [val_pm] at a1 a2
  have hn := rv_nonneg (rg z)
  have : rv (rg z) ≤ rv (INF - 1) := by
    unfold pm at a1 a2
    cases hs : sg z <;> simp [hs] at a1 a2 <;> grind
  have := rv_le_iff.1 this
  unfold Fi
  have : (0 : Nat) < INF := by decide
  omega

/-- '+'. -/
theorem add_rnd {x y : Nat} (hx : Fi x) (hy : Fi y) : ∃ z, double.add x y = some z ∧ Rnd e53 (val x + val y) z ∧ (val x + val y ≠ 0 → sg z = decide (val x + val y < 0)) ∧ (val x + val y = 0 → sg z = (sg x && sg y)) := by
  obtain ⟨m, p, e1, e2, _⟩ := read_fin hx
  obtain ⟨n, q, f1, f2, _⟩ := read_fin hy
  unfold Format.add
  rw [e1, f1]
  simp only [Datum.sum, Option.map_some, Format.write]
  obtain ⟨b, hb⟩ : ∃ b, b = min p q := ⟨_, rfl⟩
  rw [← hb]
  have s1 := scaled_val (base := b) (by omega) e2
  have s2 := scaled_val (base := b) (by omega) f2
  have hs := zp_pos b
  have tot : (((signed (sg x) m (p - b).toNat + signed (sg y) n (q - b).toNat : Int)) : Rat) * (2 : Rat) ^ b = val x + val y := by
    rw [Rat.intCast_add, Rat.add_mul, s1, s2]
  generalize signed (sg x) m (p - b).toNat + signed (sg y) n (q - b).toNat = t at *
  have tz : t = 0 ↔ val x + val y = 0 := by
    constructor
    · intro h; rw [← tot, h]; simp
    · intro h; rw [h] at tot
      rcases Rat.mul_eq_zero.1 tot with h1 | h1
      · exact Rat.intCast_eq_zero_iff.1 h1
      · grind
  have tn : t < 0 ↔ val x + val y < 0 := by
    rw [← tot, ← Rat.intCast_neg_iff]
    exact (Rat.mul_neg_iff_of_pos_right hs).symm
  refine ⟨_, rfl, ?_, ?_, ?_⟩
  · have hr := nearest_rnd (if t = 0 then (sg x && sg y) else decide (t < 0)) t.natAbs b
    have ev : pm (if t = 0 then (sg x && sg y) else decide (t < 0)) * ((t.natAbs : Rat) * (2 : Rat) ^ b) = val x + val y := by
      rw [← tot]
      by_cases h0 : t = 0
      · subst h0; simp
      · rw [if_neg h0]
        by_cases h1 : t < 0
        · have e : (t.natAbs : Rat) = -(t : Rat) := by
            rw [← Rat.intCast_natCast, ← Rat.intCast_neg]; congr 1; omega
          rw [e]; unfold pm; simp [h1]; grind
        · have e : (t.natAbs : Rat) = (t : Rat) := by
            rw [← Rat.intCast_natCast]; congr 1; omega
          rw [e]; unfold pm; simp [h1]
    rw [ev] at hr
    exact hr
  · intro h
    rw [nearest_sg, if_neg (fun h' => h (tz.1 h'))]
    simp [tn]
  · intro h
    rw [nearest_sg, if_pos (tz.2 h)]

/-- The other sign. -/
def negw (x : Nat) : Nat := if x < SW then x + SW else x - SW
theorem negw_wd {x : Nat} (h : Wd x) : Wd (negw x) := by unfold negw Wd SW at *; split <;> omega
theorem negw_sg {x : Nat} (h : Wd x) : sg (negw x) = !sg x := by
  unfold negw sg Wd SW at *
  by_cases h1 : x < 9223372036854775808
  · rw [if_pos h1]
    have : (x + 9223372036854775808) / 9223372036854775808 = 1 := by omega
    have h2 : x / 9223372036854775808 = 0 := by omega
    rw [this, h2]; rfl
  · rw [if_neg h1]
    have : (x - 9223372036854775808) / 9223372036854775808 = 0 := by omega
    have h2 : x / 9223372036854775808 = 1 := by omega
    rw [this, h2]; rfl
theorem negw_rg {x : Nat} (h : Wd x) : rg (negw x) = rg x := by
  unfold negw rg Wd SW at *
  split <;> omega
theorem negw_val {x : Nat} (h : Wd x) : val (negw x) = -(val x) := by
  rw [val_pm, val_pm, negw_sg h, negw_rg h]; unfold pm; cases sg x <;> simp <;> grind
theorem negw_negw {x : Nat} (h : Wd x) : negw (negw x) = x := by
  unfold negw Wd SW at *
  split <;> split <;> omega
theorem negw_fin {x : Nat} (h : Wd x) (hf : Fi x) : Fi (negw x) := by unfold Fi at *; rw [negw_rg h]; exact hf
theorem negw_num {x : Nat} (h : Wd x) (hf : Num x) : Num (negw x) := by unfold Num at *; rw [negw_rg h]; exact hf
theorem read_negw {x : Nat} (h : Wd x) : double.read (negw x) = (double.read x).opposite := by
  have hr : ∀ x, double.read x = (if rg x < B then .number (sg x) (rg x) (-1074) else if rg x < INF then .number (sg x) (B + rg x % B) (-1074 + ((rg x / B - 1 : Nat) : Int)) else if rg x = INF then .infinity (sg x) else .nan (sg x) (rg x - INF)) := by
    intro x; unfold Format.read rg sg; simp only [e_sw, e_b, e_inf, e_lp]
  rw [hr, hr, negw_sg h, negw_rg h]
  split
  · rfl
  · split
    · rfl
    · split <;> rfl

/-- '-' is '+' of the other sign. -/
theorem sub_eq_add {x y : Nat} (hy : Wd y) : double.sub x y = double.add x (negw y) := by
  unfold Format.sub Format.add; rw [read_negw hy]

/-- '*'. -/
theorem mul_rnd {x y : Nat} (hx : Fi x) (hy : Fi y) : ∃ z, double.mul x y = some z ∧ Rnd e53 (val x * val y) z ∧ sg z = (sg x ^^ sg y) := by
  obtain ⟨m, p, e1, e2, _⟩ := read_fin hx
  obtain ⟨n, q, f1, f2, _⟩ := read_fin hy
  unfold Format.mul
  rw [e1, f1]
  simp only [Datum.product, Option.map_some, Format.write]
  refine ⟨_, rfl, ?_, nearest_sg _ _ _⟩
  have hr := nearest_rnd (sg x ^^ sg y) (m * n) (p + q)
  have ev : pm (sg x ^^ sg y) * (((m * n : Nat) : Rat) * (2 : Rat) ^ (p + q)) = val x * val y := by
    rw [val_pm, val_pm, ← e2, ← f2, Rat.natCast_mul, zp_add]
    unfold pm
    cases sg x <;> cases sg y <;> simp <;> grind
  rw [ev] at hr
  exact hr

end Go.Proofs.Ytojjlkmeicdeeaa.F64

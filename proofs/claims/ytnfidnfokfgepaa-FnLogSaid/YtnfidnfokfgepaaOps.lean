/- The laws by which a walk takes an operation on floats that may give a NaN: the value and the world that come of it, whatever the operands; and the plain functions on words in whose terms the walks speak. -/
import Derived.Test.YtnfidnfokfgepaaFloatC
import Derived.WalkKit
import Derived.WalkLawsBesides
import Derived.Deep.Draws
import Derived.KernelRfl
set_option linter.unusedSimpArgs false
set_option linter.unusedVariables false
namespace Go.Proofs.Ytnfidnfokfgepaa
open Go.RowKit F64

/-- A fact laid behind 'Hid', so that a walk does not take it for a rule. -/
theorem hidd {p : Prop} (h : p) : Hid p := h

/-- The operations of the model on words. -/
def fadd (x y : Nat) : Option Nat := Ieee.double.add x y
def fsub (x y : Nat) : Option Nat := Ieee.double.sub x y
def fmul (x y : Nat) : Option Nat := Ieee.double.mul x y
def fdiv (x y : Nat) : Option Nat := Ieee.double.div x y
def fsqrt (x : Nat) : Option Nat := Ieee.double.sqrt x
def flt (x y : Nat) : Bool := Ieee.double.order x y == some .lt
def fgt (x y : Nat) : Bool := Ieee.double.order x y == some .gt
def feq (x y : Nat) : Bool := Ieee.double.order x y == some .eq

/-- The bits that the tape gives where the language fixes none. -/
def nanAt (x y : Nat) (w : World) : Nat := Question.cut (.nanBits .f64 x y) (w.tape w.drawn (.nanBits .f64 x y))
/-- The value of an operation and the number of draws. -/
def fv (o : Option Nat) (x y : Nat) (w : World) : Nat := o.getD (nanAt x y w)
def fd (o : Option Nat) : Nat := if o.isNone then 1 else 0
@[go_sem] theorem fv_some (z x y : Nat) (w : World) : fv (some z) x y w = z := rfl
@[go_sem] theorem fd_some (z : Nat) : fd (some z) = 0 := rfl
@[go_sem] theorem drewN0 (w : World) : w.drewN 0 = w := rfl

/-- What an operation may give: its word, or some NaN. -/
def FRes (o : Option Nat) (r : Nat) : Prop := match o with | some z => r = z | none => ¬ Num r ∧ Wd r
theorem nanAt_nan (x y : Nat) (w : World) : ¬ Num (nanAt x y w) ∧ Wd (nanAt x y w) := by
  unfold nanAt Num Wd rg SW INF
  simp only [Question.cut]
  generalize w.tape w.drawn (.nanBits .f64 x y) = t
  have h1 : t % 2 < 2 := Nat.mod_lt _ (by decide)
  have h2 : t / 2 % (2 ^ 52 - 1) < 2 ^ 52 - 1 := Nat.mod_lt _ (by decide)
  generalize t % 2 = a at *
  generalize t / 2 % (2 ^ 52 - 1) = b at *
  omega
theorem fv_res (o : Option Nat) (x y : Nat) (w : World) : FRes o (fv o x y w) := by
  unfold fv FRes
  cases o with
  | none => exact nanAt_nan x y w
  | some z => rfl

section
variable {P : Program} (w : World)
theorem run_choose_nan (x y : Nat) : (choose (.nanBits .f64 x y)).run P w = .ok (nanAt x y w) (w.drewN 1) := by
  simp [choose, Sem.run, Question.forced, nanAt, World.drewN]
theorem run_floatArith_any (op : BinOp) (o : Option Nat) (x y : Nat) (ho : floatBits op .f64 x y = o) (hop : op = .add ∨ op = .sub ∨ op = .mul ∨ op = .quo) :
    (Op.floatArith op .f64 x y).run P w = .ok (.float .f64 (fv o x y w)) (w.drewN (fd o)) := by
  cases o with
  | some z => rw [run_floatArith w ho]; rfl
  | none =>
    rcases hop with rfl | rfl | rfl | rfl <;> simp only [floatBits] at ho <;> simp [Op.floatArith, ho, Question.forced, nanAt, World.drew_is_drewN, fv, fd]
@[go_sem] theorem run_fadd (t : TypeId) (x y : Nat) : (binOp .add t (.float .f64 x) (.float .f64 y)).run P w = .ok (.float .f64 (fv (fadd x y) x y w)) (w.drewN (fd (fadd x y))) :=
  run_floatArith_any w .add _ x y rfl (by simp)
@[go_sem] theorem run_fsub (t : TypeId) (x y : Nat) : (binOp .sub t (.float .f64 x) (.float .f64 y)).run P w = .ok (.float .f64 (fv (fsub x y) x y w)) (w.drewN (fd (fsub x y))) :=
  run_floatArith_any w .sub _ x y rfl (by simp)
@[go_sem] theorem run_fmul (t : TypeId) (x y : Nat) : (binOp .mul t (.float .f64 x) (.float .f64 y)).run P w = .ok (.float .f64 (fv (fmul x y) x y w)) (w.drewN (fd (fmul x y))) :=
  run_floatArith_any w .mul _ x y rfl (by simp)
@[go_sem] theorem run_fquo (t : TypeId) (x y : Nat) : (binOp .quo t (.float .f64 x) (.float .f64 y)).run P w = .ok (.float .f64 (fv (fdiv x y) x y w)) (w.drewN (fd (fdiv x y))) :=
  run_floatArith_any w .quo _ x y rfl (by simp)
theorem sqrt_match {x : Nat} (f : Nat → Sem Value) (g : (a : Array Value) → Sem Value) : Extern.MathSqrt.sqrt.match_2 (fun _ => Sem Value) #[.float .f64 x] f g = f x := rfl
theorem run_sqrt_any (x : Nat) : (Extern.MathSqrt.sqrt #[.float .f64 x]).run P w = .ok (.float .f64 (fv (fsqrt x) x x w)) (w.drewN (fd (fsqrt x))) := by
  delta Extern.MathSqrt.sqrt
  rw [sqrt_match]
  unfold fsqrt
  cases h : Ieee.double.sqrt x with
  | some z =>
    have : FloatKind.f64.format.sqrt x = some z := h
    simp [this, fv, fd, drewN0]
  | none =>
    have : FloatKind.f64.format.sqrt x = none := h
    simp [this, Question.forced, nanAt, World.drew_is_drewN, fv, fd]
end

@[go_sem] theorem to_flt (x y : Nat) : (FloatKind.f64.format.order x y == some Ordering.lt) = flt x y := rfl
@[go_sem] theorem to_fgt (x y : Nat) : (FloatKind.f64.format.order x y == some Ordering.gt) = fgt x y := rfl
@[go_sem] theorem to_feq (x y : Nat) : (FloatKind.f64.format.order x y == some Ordering.eq) = feq x y := rfl
@[go_sem] theorem to_fne (x y : Nat) : (FloatKind.f64.format.order x y != some Ordering.eq) = !feq x y := rfl

def fge (x y : Nat) : Bool := fgt x y || feq x y
def fle (x y : Nat) : Bool := flt x y || feq x y
@[go_sem] theorem to_fge (x y : Nat) : (fgt x y || feq x y) = fge x y := rfl
@[go_sem] theorem to_fle (x y : Nat) : (flt x y || feq x y) = fle x y := rfl
theorem flt_val {x y : Nat} (hx : Num x) (hy : Num y) : flt x y = decide (val x < val y) := lt_iff hx hy
theorem fgt_val {x y : Nat} (hx : Num x) (hy : Num y) : fgt x y = decide (val y < val x) := gt_iff hx hy
theorem feq_val {x y : Nat} (hx : Num x) (hy : Num y) : feq x y = decide (val x = val y) := eq_iff hx hy
theorem fge_val {x y : Nat} (hx : Num x) (hy : Num y) : fge x y = decide (val y ≤ val x) := by
  unfold fge; rw [fgt_val hx hy, feq_val hx hy, Bool.eq_iff_iff]; simp only [Bool.or_eq_true, decide_eq_true_eq]; grind
theorem fle_val {x y : Nat} (hx : Num x) (hy : Num y) : fle x y = decide (val x ≤ val y) := by
  unfold fle; rw [flt_val hx hy, feq_val hx hy, Bool.eq_iff_iff]; simp only [Bool.or_eq_true, decide_eq_true_eq]; grind

theorem xor_sw {x : Nat} (h : Wd x) : x ^^^ 9223372036854775808 = negw x := by
  have e : (9223372036854775808 : Nat) = 2 ^ 63 := by decide
  have hd : (x ^^^ 2 ^ 63) / 2 ^ 63 = x / 2 ^ 63 ^^^ 1 := by
    rw [Nat.xor_div_two_pow, Nat.div_self (Nat.two_pow_pos 63)]
  have hm : (x ^^^ 2 ^ 63) % 2 ^ 63 = x % 2 ^ 63 := by
    rw [Nat.xor_mod_two_pow, Nat.mod_self, Nat.xor_zero]
  have h3 := Nat.div_add_mod (x ^^^ 2 ^ 63) (2 ^ 63)
  rw [hd, hm] at h3
  rw [e]
  unfold negw SW Wd at *
  have hc : x / 2 ^ 63 = 0 ∨ x / 2 ^ 63 = 1 := by omega
  rcases hc with hc | hc
  · rw [hc] at h3
    have : (0 ^^^ 1 : Nat) = 1 := by decide
    rw [this] at h3
    rw [if_pos (by omega)]; omega
  · rw [hc] at h3
    have : (1 ^^^ 1 : Nat) = 0 := by decide
    rw [this] at h3
    rw [if_neg (by omega)]; omega

/-- Go's '-x' on a word. -/
def fneg (x : Nat) : Nat := x ^^^ 9223372036854775808
@[go_sem] theorem to_fneg (x : Nat) : Op.negFloat .f64 x = fneg x := rfl
@[go_sem] theorem unary_fneg (x : Nat) : Op.unary .neg (.float .f64 x) = pure (.float .f64 (fneg x)) := rfl
@[go_sem] theorem unary_cneg (x y : Nat) : Op.unary .neg (.complex .f64 x y) = pure (.complex .f64 (fneg x) (fneg y)) := rfl
theorem fneg_eq {x : Nat} (h : Wd x) : fneg x = negw x := xor_sw h

/-- The plain functions in whose terms the contracts speak. -/
def isNan (x : Nat) : Bool := decide (INF < rg x)
def isInf (x : Nat) : Bool := decide (rg x = INF)
def isFin (x : Nat) : Bool := decide (rg x < INF)
def minus (x : Nat) : Bool := sg x && !isNan x
def sizeW (x : Nat) : Nat := if minus x then fneg x else x
def likeW (x s : Nat) : Nat := if minus s then fneg (sizeW x) else sizeW x
def same (x y : Nat) : Bool := (isNan x && isNan y) || x == y

theorem isNan_iff {x : Nat} : isNan x = true ↔ ¬ Num x := by unfold isNan Num; simp
theorem isNan_false {x : Nat} : isNan x = false ↔ Num x := by unfold isNan Num; simp
theorem feq_self (x : Nat) : (!feq x x) = isNan x := by
  unfold feq
  by_cases h : Num x
  · rw [eq_iff h h, isNan_false.2 h]; simp
  · rw [order_nanl h, isNan_iff.2 h]; rfl
theorem feq_self' (x : Nat) : feq x x = !isNan x := by rw [← feq_self, Bool.not_not]

theorem cI : (9218868437227405312 : Nat) = INF := rfl
theorem val_INF : val INF = rv INF := by
  have : INF = Ieee.double.word false INF := by decide
  rw [this, val_word inf_lt_sw]; unfold pm; simp; congr 1
theorem val_eq_iff {x y : Nat} (hx : Wd x) (hy : Wd y) : val x = val y ↔ x = y ∨ (rg x = 0 ∧ rg y = 0) := by
  constructor
  · intro h
    rw [val_pm, val_pm] at h
    have n1 := rv_nonneg (rg x)
    have n2 := rv_nonneg (rg y)
    unfold pm at h
    cases h1 : sg x <;> cases h2 : sg y <;> simp [h1, h2] at h
    · left; exact wd_ext hx hy (by rw [h1, h2]) (rv_inj h)
    · right
      have : rv (rg x) = 0 ∧ rv (rg y) = 0 := by grind
      rw [← rv_zero] at this
      exact ⟨rv_inj this.1, rv_inj this.2⟩
    · right
      have : rv (rg x) = 0 ∧ rv (rg y) = 0 := by grind
      rw [← rv_zero] at this
      exact ⟨rv_inj this.1, rv_inj this.2⟩
    · left; exact wd_ext hx hy (by rw [h1, h2]) (rv_inj (by grind))
  · rintro (rfl | ⟨h1, h2⟩)
    · rfl
    · rw [val_pm, val_pm, h1, h2, rv_zero]; simp

theorem isInf_eq {x : Nat} (hx : Wd x) : (feq x 9218868437227405312 || feq x (fneg 9218868437227405312)) = isInf x := by
  have e1 : fneg 9218868437227405312 = 18442240474082181120 := by decide
  rw [e1]
  unfold feq isInf
  by_cases h : Num x
  · rw [eq_iff h (by unfold Num; decide), eq_iff h (by unfold Num; decide)]
    have a1 := val_eq_iff (y := 9218868437227405312) hx (by unfold Wd; decide)
    have a2 := val_eq_iff (y := 18442240474082181120) hx (by unfold Wd; decide)
    have n1 : rg 9218868437227405312 = INF := by decide
    have n2 : rg 18442240474082181120 = INF := by decide
    have hI : INF ≠ 0 := by decide
    rw [Bool.eq_iff_iff]
    simp only [Bool.or_eq_true, decide_eq_true_eq, a1, a2, n1, n2, hI, and_false, or_false]
    constructor
    · rintro (rfl | rfl)
      · exact n1
      · exact n2
    · intro h3
      cases hs : sg x
      · left; exact wd_ext hx (by unfold Wd; decide) (by rw [hs]; decide) (by rw [h3, n1])
      · right; exact wd_ext hx (by unfold Wd; decide) (by rw [hs]; decide) (by rw [h3, n2])
  · rw [order_nanl h, order_nanl h]
    have : rg x ≠ INF := by unfold Num at h; omega
    simp [this]

theorem val_zero : val 0 = 0 := by decide +kernel
theorem num_zero : Num 0 := by unfold Num; decide
theorem feq_zero {x : Nat} : feq x 0 = decide (rg x = 0) := by
  unfold feq
  by_cases h : Num x
  · rw [eq_iff h num_zero, val_zero, val_pm]
    congr 1
    have n1 := rv_nonneg (rg x)
    apply propext
    constructor
    · intro h1
      have : rv (rg x) = 0 := by unfold pm at h1; cases h2 : sg x <;> simp [h2] at h1 <;> grind
      rw [← rv_zero] at this
      exact rv_inj this
    · intro h1; rw [h1, rv_zero]; simp
  · rw [order_nanl h]
    have : rg x ≠ 0 := by unfold Num at h; omega
    simp [this]
theorem flt_zero {x : Nat} : flt x 0 = (minus x && !decide (rg x = 0)) := by
  unfold flt minus
  by_cases h : Num x
  · rw [lt_iff h num_zero, val_zero, val_pm, isNan_false.2 h]
    have n1 := rv_nonneg (rg x)
    unfold pm
    cases h2 : sg x
    · have : ¬ rv (rg x) < 0 := by grind
      simp [this]
    · by_cases h3 : rg x = 0
      · rw [h3, rv_zero]; simp
      · have : 0 < rv (rg x) := rv_pos (by omega)
        have h4 : -1 * rv (rg x) < 0 := by grind
        simp [h3, h4]
  · rw [order_nanl h, isNan_iff.2 h]; simp
theorem fgt_zero {x : Nat} : fgt x 0 = (!sg x && !isNan x && !decide (rg x = 0)) := by
  unfold fgt
  by_cases h : Num x
  · rw [gt_iff h num_zero, val_zero, val_pm, isNan_false.2 h]
    have n1 := rv_nonneg (rg x)
    unfold pm
    cases h2 : sg x
    · by_cases h3 : rg x = 0
      · rw [h3, rv_zero]; simp
      · have : 0 < rv (rg x) := rv_pos (by omega)
        simp [h3, this]
    · have : ¬ 0 < -1 * rv (rg x) := by grind
      simp [this]
  · rw [order_nanl h, isNan_iff.2 h]; simp
/-- Only the zeros. -/
theorem zero_of {x : Nat} (hx : Wd x) (h : rg x = 0) : x = 0 ∨ x = SW := by
  cases hs : sg x
  · left; exact wd_ext hx (by unfold Wd; decide) (by rw [hs]; decide) (by rw [h]; decide)
  · right; exact wd_ext hx (by unfold Wd; decide) (by rw [hs]; decide) (by rw [h]; decide)
theorem minus_zero_div {x : Nat} (hx : Wd x) (h : feq x 0 = true) : ∃ z, fdiv 4607182418800017408 x = some z ∧ flt z 0 = minus x := by
  rw [feq_zero] at h
  rcases zero_of hx (by simpa using h) with rfl | rfl
  · exact ⟨INF, by unfold fdiv; decide +kernel, by decide +kernel⟩
  · exact ⟨INF + SW, by unfold fdiv; decide +kernel, by decide +kernel⟩

theorem isFin_sub {x : Nat} (hx : Wd x) (r : Nat) (h : FRes (fsub x x) r) : feq r 0 = isFin x := by
  rw [feq_zero]
  unfold fsub at h
  by_cases hf : Fi x
  · rw [sub_eq_add hx] at h
    obtain ⟨z, e, hr, _, _⟩ := add_rnd hf (negw_fin hx hf)
    rw [e] at h
    have : r = z := h
    subst this
    have v0 : val x + val (negw x) = 0 := by rw [negw_val hx]; grind
    rw [v0] at hr
    have h1 := hr.up 0 num_zero (by rw [val_zero]; exact Rat.le_refl)
    have h2 := hr.lo 0 num_zero (by rw [val_zero]; exact Rat.le_refl)
    rw [val_zero] at h1 h2
    have h3 : val r = val 0 := by rw [val_zero]; grind
    have := (val_eq_iff hr.wd (by unfold Wd; decide)).1 h3
    have hz : rg r = 0 := by
      rcases this with rfl | h
      · decide
      · exact h.1
    unfold isFin; unfold Fi at hf; simp [hz, hf]
  · have hn : Ieee.double.sub x x = none := by
      rw [sub_eq_add hx]
      unfold Ieee.Format.add
      rw [read_negw hx]
      by_cases hI : rg x = INF
      · rw [read_inf hI]; simp [Ieee.Datum.opposite, Ieee.Datum.sum]
      · rw [read_nan (by unfold Fi at hf; omega)]; simp [Ieee.Datum.opposite, Ieee.Datum.sum]
    rw [hn] at h
    have h1 : ¬ Num r := h.1
    have h2 : rg r ≠ 0 := by unfold Num at h1; omega
    unfold isFin; unfold Fi at hf; simp [h2, hf]

/-- What 'Same' reckons is sameness of words, or both none. -/
theorem same_eq {x y : Nat} (hx : Wd x) (hy : Wd y) (h1 : isNan x = false) (h2 : isNan y = false) : (feq x y && (minus x == minus y)) = same x y := by
  unfold same feq
  rw [h1, h2, eq_iff (isNan_false.1 h1) (isNan_false.1 h2)]
  unfold minus
  rw [h1, h2]
  simp only [Bool.not_false, Bool.and_true, Bool.false_or, Bool.false_and]
  rw [Bool.eq_iff_iff]
  simp only [Bool.and_eq_true, decide_eq_true_eq, beq_iff_eq, val_eq_iff hx hy]
  constructor
  · rintro ⟨h | ⟨h3, h4⟩, h5⟩
    · exact h
    · exact wd_ext hx hy h5 (by rw [h3, h4])
  · rintro rfl; exact ⟨Or.inl rfl, rfl⟩
theorem same_self (x : Nat) : same x x = true := by unfold same; simp
theorem same_of_eq {x y : Nat} (h : x = y) : same x y = true := by rw [h]; exact same_self y
theorem same_nan {x y : Nat} (h1 : ¬ Num x) (h2 : ¬ Num y) : same x y = true := by
  unfold same; rw [isNan_iff.2 h1, isNan_iff.2 h2]; rfl

theorem sizeW_wd {x : Nat} (h : Wd x) : Wd (sizeW x) := by
  unfold sizeW; split
  · rw [fneg_eq h]; exact negw_wd h
  · exact h
theorem fneg_wd {x : Nat} (h : Wd x) : Wd (fneg x) := by rw [fneg_eq h]; exact negw_wd h
theorem sizeW_num {x : Nat} (h : Wd x) (hn : Num x) : sizeW x = rg x := by
  unfold sizeW minus
  rw [isNan_false.2 hn]
  cases hs : sg x
  · simp
    have := word_self h
    rw [hs, word_eq] at this; simpa using this.symm
  · simp [fneg_eq h]
    refine wd_ext (negw_wd h) ?_ ?_ ?_
    · unfold rg Wd SW at *; omega
    · rw [negw_sg h, hs]; unfold sg rg SW; simp
    · rw [negw_rg h]; unfold rg SW; omega
theorem likeW_wd {x s : Nat} (h : Wd x) : Wd (likeW x s) := by
  unfold likeW; split
  · exact fneg_wd (sizeW_wd h)
  · exact sizeW_wd h


/-- Roots of special words. -/
theorem sqrt_nan {x : Nat} (h : ¬ Num x) : fsqrt x = none := by
  unfold fsqrt Ieee.Format.sqrt; rw [read_nan (by unfold Num at h; omega)]; rfl
theorem sqrt_neg {x : Nat} (h : flt x 0 = true) : fsqrt x = none := by
  rw [flt_zero] at h
  unfold minus at h
  simp at h
  obtain ⟨⟨hs, hn⟩, h0⟩ := h
  have hn := isNan_false.1 hn
  unfold fsqrt Ieee.Format.sqrt
  by_cases hI : rg x = INF
  · rw [read_inf hI, hs]; rfl
  · obtain ⟨m, p, e, _, _, _, ez⟩ := read_fin (x := x) (by unfold Fi Num at *; omega)
    rw [e, hs]
    simp only [Ieee.Datum.root]
    rw [if_neg (fun h => h0 (ez.1 h))]
    rfl
theorem sqrt_zero {x : Nat} (hx : Wd x) (h : rg x = 0) : fsqrt x = some x := by
  rcases zero_of hx h with rfl | rfl
  · unfold fsqrt; decide +kernel
  · unfold fsqrt; decide +kernel
theorem sqrt_inf : fsqrt 9218868437227405312 = some 9218868437227405312 := by unfold fsqrt; decide +kernel

/-- The bit operations of package math. -/
theorem and_low {x : Nat} (h : Wd x) : (bits .andNot .u64 (x : Int) 9223372036854775808).toNat = rg x := by
  have e := u64_andNot_nat x 9223372036854775808 h (by decide)
  rw [show ((9223372036854775808 : Nat) : Int) = 9223372036854775808 from rfl] at e
  rw [e, Int.toNat_natCast, show (18446744073709551615 - 9223372036854775808 : Nat) = 2 ^ 63 - 1 from by decide, Nat.and_two_pow_sub_one_eq_mod]
  rfl
theorem num_maxf : Num 9218868437227405311 := by unfold Num; decide
theorem rg_rg (x : Nat) : rg (rg x) = rg x := by unfold rg; simp
theorem sg_rg (x : Nat) : sg (rg x) = false := by unfold sg rg SW; simp
theorem rg_wd (x : Nat) : Wd (rg x) := by unfold Wd rg SW; omega
theorem val_rg (x : Nat) : val (rg x) = rv (rg x) := by rw [val_pm, sg_rg, rg_rg]; unfold pm; simp
theorem isInf_gt {x : Nat} : fgt (rg x) 9218868437227405311 = isInf x := by
  unfold fgt isInf
  by_cases h : Num x
  · have h' : Num (rg x) := by unfold Num at *; rw [rg_rg]; exact h
    rw [gt_iff h' num_maxf, val_rg, val_pm 9218868437227405311]
    have e1 : sg 9218868437227405311 = false := by decide
    have e2 : rg 9218868437227405311 = INF - 1 := by decide
    rw [e1, e2]
    unfold pm
    simp only [Bool.false_eq_true, if_false, Rat.one_mul, rv_lt_iff]
    congr 1
    have : 0 < INF := by decide
    unfold Num at h
    apply propext
    omega
  · have h' : ¬ Num (rg x) := by unfold Num at *; rw [rg_rg]; exact h
    rw [order_nanl h']
    have : rg x ≠ INF := by unfold Num at h; omega
    simp [this]
/-- '+Inf'. -/
def isPInf (x : Nat) : Bool := isInf x && !sg x
theorem isPInf_gt {x : Nat} : fgt x 9218868437227405311 = isPInf x := by
  unfold fgt isPInf isInf
  by_cases h : Num x
  · rw [gt_iff h num_maxf, val_pm x, val_pm 9218868437227405311]
    have e1 : sg 9218868437227405311 = false := by decide
    have e2 : rg 9218868437227405311 = INF - 1 := by decide
    have n1 := rv_nonneg (rg x)
    have n2 := rv_nonneg (INF - 1)
    rw [e1, e2]
    unfold pm
    cases hs : sg x
    · simp only [Bool.false_eq_true, if_false, Rat.one_mul, rv_lt_iff, Bool.not_false, Bool.and_true]
      congr 1
      have : 0 < INF := by decide
      unfold Num at h
      apply propext
      omega
    · have : ¬ 1 * rv (INF - 1) < -1 * rv (rg x) := by grind
      simp only [Bool.false_eq_true, if_false, if_true, Bool.not_true, Bool.and_false, this, decide_false]
  · rw [order_nanl h]
    have : rg x ≠ INF := by unfold Num at h; omega
    simp [this]
/-- Copysign on words. -/
def copyW (x s : Nat) : Nat := if sg s then rg x + 9223372036854775808 else rg x
theorem copy_bits {x s : Nat} (hx : Wd x) (hs : Wd s) :
    (bits .or .u64 (bits .andNot .u64 (x : Int) 9223372036854775808) (bits .and .u64 (s : Int) 9223372036854775808)).toNat = copyW x s := by
  have e1 := u64_andNot_nat x 9223372036854775808 hx (by decide)
  have e2 := u64_and_nat s 9223372036854775808 hs (by decide)
  rw [show ((9223372036854775808 : Nat) : Int) = 9223372036854775808 from rfl] at e1 e2
  have r1 : x &&& (18446744073709551615 - 9223372036854775808) = rg x := by
    rw [show (18446744073709551615 - 9223372036854775808 : Nat) = 2 ^ 63 - 1 from by decide, Nat.and_two_pow_sub_one_eq_mod]; rfl
  have r2 : s &&& 9223372036854775808 = if sg s then 9223372036854775808 else 0 := by
    have hd : (s &&& 2 ^ 63) / 2 ^ 63 = s / 2 ^ 63 &&& 1 := by
      rw [Nat.and_div_two_pow, Nat.div_self (Nat.two_pow_pos 63)]
    have hm : (s &&& 2 ^ 63) % 2 ^ 63 = 0 := by
      rw [Nat.and_mod_two_pow, Nat.mod_self, Nat.and_zero]
    have h3 := Nat.div_add_mod (s &&& 2 ^ 63) (2 ^ 63)
    rw [hd, hm] at h3
    rw [show (9223372036854775808 : Nat) = 2 ^ 63 from by decide, ← h3]
    unfold sg SW
    have hc : s / 2 ^ 63 = 0 ∨ s / 2 ^ 63 = 1 := by unfold Wd at hs; omega
    rw [show (9223372036854775808 : Nat) = 2 ^ 63 from by decide]
    rcases hc with hc | hc <;> rw [hc] <;> rfl
  have hrg : rg x < 2 ^ 63 := by unfold rg SW; omega
  rw [e1, e2, r1, r2]
  unfold copyW
  cases sg s
  · have e3 := u64_or_nat (rg x) 0 (by omega) (by decide)
    simp only [Bool.false_eq_true, if_false]
    rw [e3, Nat.or_zero, Int.toNat_natCast]
  · have e3 := u64_or_nat (rg x) 9223372036854775808 (by omega) (by decide)
    simp only [if_true]
    rw [e3, Int.toNat_natCast]
    have := Nat.two_pow_add_eq_or_of_lt hrg 1
    rw [Nat.mul_one] at this
    rw [show (9223372036854775808 : Nat) = 2 ^ 63 from by decide, Nat.or_comm, ← this, Nat.add_comm]
theorem copyW_wd (x s : Nat) : Wd (copyW x s) := by unfold copyW Wd rg SW; split <;> omega
theorem copyW_sg (x s : Nat) : sg (copyW x s) = sg s := by
  unfold copyW
  cases h : sg s
  · simp [sg_rg]
  · simp; unfold sg rg SW; simp
theorem copyW_rg (x s : Nat) : rg (copyW x s) = rg x := by
  unfold copyW
  cases h : sg s
  · simp [rg_rg]
  · simp; unfold rg SW; omega
theorem sg_iff {x : Nat} (h : Wd x) : sg x = decide (9223372036854775808 ≤ x) := by
  unfold sg SW Wd at *
  by_cases h1 : 9223372036854775808 ≤ x
  · have : x / 9223372036854775808 = 1 := by omega
    simp [this, h1]
  · have : x / 9223372036854775808 = 0 := by omega
    simp [this, h1]

end Go.Proofs.Ytnfidnfokfgepaa

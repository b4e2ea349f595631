/- What cmplx.Sqrt gives: a relation between the two words that come in and the two that go out, step by step, where each step is an operation of the model or some NaN. -/
import Derived.Test.YtnfidnfokfgepaaMid
set_option linter.unusedSimpArgs false
set_option linter.unusedVariables false
namespace Go.Proofs.Ytnfidnfokfgepaa
open Go.RowKit F64

theorem fres_wd {o : Option Nat} {r : Nat} (h : FRes o r) (ho : ∀ z, o = some z → Wd z) : Wd r := by
  unfold FRes at h
  cases o with
  | none => exact h.2
  | some z => rw [h]; exact ho z rfl
theorem wd_width {z : Nat} (h : z < 2 ^ Ieee.double.width) : Wd z := by
  unfold Wd
  have e : (2 : Nat) ^ Ieee.double.width = 18446744073709551616 := by decide
  omega
theorem fmul_wd {x y r : Nat} (h : FRes (fmul x y) r) : Wd r := fres_wd h fun _ hz => wd_width (Ieee.double.mul_lt hz)
theorem fadd_wd {x y r : Nat} (h : FRes (fadd x y) r) : Wd r := fres_wd h fun _ hz => wd_width (Ieee.double.add_lt hz)
theorem fsub_wd {x y r : Nat} (h : FRes (fsub x y) r) : Wd r := fres_wd h fun _ hz => wd_width (Ieee.double.sub_lt hz)
theorem fdiv_wd {x y r : Nat} (h : FRes (fdiv x y) r) : Wd r := fres_wd h fun _ hz => wd_width (Ieee.double.div_lt hz)
theorem fsqrt_wd {x r : Nat} (h : FRes (fsqrt x) r) : Wd r := fres_wd h fun _ hz => wd_width (Ieee.double.sqrt_lt hz)

section
variable {P : Program} {ops : Array Oper} {Q : Exit → Act → World → Prop} {a : Act} {w : World} {rest : List Oper} {d : Option Nat} {t t2 ty : TypeId} {x y : Operand} {ps : String} {af : Array Edge}
/-- A product, a sum, a difference, a quotient, met in a walk: some word, of which only the relation is kept. -/
theorem wpList_fmul {X Y : Nat} (hx : a.eval x = .float .f64 X) (hy : a.eval y = .float .f64 Y)
    (h : ∀ r n, FRes (fmul X Y) r → Wd r → wpList P ops Q rest (a.put d (.float .f64 r)) (w.drewN n)) : wpList P ops Q (⟨d, .binOp .mul t x y t2, ty, ps, af, none⟩ :: rest) a w := by
  refine wpList_plain rfl fun K hK => ?_
  have hr := fv_res (fmul X Y) X Y w
  have := hK _ _ (h _ (fd (fmul X Y)) hr (fmul_wd hr))
  unfold Oper.wp execOp
  simp only [hx, hy, eqGuard, Sem.run_bind, run_fmul, Result.andThen_ok, Sem.run_pure]
  exact this
theorem wpList_fadd {X Y : Nat} (hx : a.eval x = .float .f64 X) (hy : a.eval y = .float .f64 Y)
    (h : ∀ r n, FRes (fadd X Y) r → Wd r → wpList P ops Q rest (a.put d (.float .f64 r)) (w.drewN n)) : wpList P ops Q (⟨d, .binOp .add t x y t2, ty, ps, af, none⟩ :: rest) a w := by
  refine wpList_plain rfl fun K hK => ?_
  have hr := fv_res (fadd X Y) X Y w
  have := hK _ _ (h _ (fd (fadd X Y)) hr (fadd_wd hr))
  unfold Oper.wp execOp
  simp only [hx, hy, eqGuard, Sem.run_bind, run_fadd, Result.andThen_ok, Sem.run_pure]
  exact this
theorem wpList_fsub {X Y : Nat} (hx : a.eval x = .float .f64 X) (hy : a.eval y = .float .f64 Y)
    (h : ∀ r n, FRes (fsub X Y) r → Wd r → wpList P ops Q rest (a.put d (.float .f64 r)) (w.drewN n)) : wpList P ops Q (⟨d, .binOp .sub t x y t2, ty, ps, af, none⟩ :: rest) a w := by
  refine wpList_plain rfl fun K hK => ?_
  have hr := fv_res (fsub X Y) X Y w
  have := hK _ _ (h _ (fd (fsub X Y)) hr (fsub_wd hr))
  unfold Oper.wp execOp
  simp only [hx, hy, eqGuard, Sem.run_bind, run_fsub, Result.andThen_ok, Sem.run_pure]
  exact this
theorem wpList_fdiv {X Y : Nat} (hx : a.eval x = .float .f64 X) (hy : a.eval y = .float .f64 Y)
    (h : ∀ r n, FRes (fdiv X Y) r → Wd r → wpList P ops Q rest (a.put d (.float .f64 r)) (w.drewN n)) : wpList P ops Q (⟨d, .binOp .quo t x y t2, ty, ps, af, none⟩ :: rest) a w := by
  refine wpList_plain rfl fun K hK => ?_
  have hr := fv_res (fdiv X Y) X Y w
  have := hK _ _ (h _ (fd (fdiv X Y)) hr (fdiv_wd hr))
  unfold Oper.wp execOp
  simp only [hx, hy, eqGuard, Sem.run_bind, run_fquo, Result.andThen_ok, Sem.run_pure]
  exact this
end

/-- Behind the special cases: the first part, scaled by c, is above 0. -/
def SqrtPos (x y c sc a b : Nat) : Prop := ∃ x' y' p q s t m d r t', FRes (fmul x c) x' ∧ FRes (fmul y c) y' ∧ fgt x' 0 = true ∧
  FRes (fmul 4602678819172646912 (hypotW x' y')) p ∧ FRes (fmul 4602678819172646912 x') q ∧ FRes (fadd p q) s ∧ FRes (fsqrt s) t ∧
  FRes (fmul 4602678819172646912 y') m ∧ FRes (fdiv m t) d ∧ FRes (fmul sc (rg d)) r ∧ FRes (fmul t sc) t' ∧ a = t' ∧ b = (if flt y' 0 then fneg r else r)
/-- It is not. -/
def SqrtNeg (x y c sc a b : Nat) : Prop := ∃ x' y' p q s t m d r t', FRes (fmul x c) x' ∧ FRes (fmul y c) y' ∧ fgt x' 0 = false ∧
  FRes (fmul 4602678819172646912 (hypotW x' y')) p ∧ FRes (fmul 4602678819172646912 x') q ∧ FRes (fsub p q) s ∧ FRes (fsqrt s) t ∧
  FRes (fmul 4602678819172646912 y') m ∧ FRes (fdiv m t) d ∧ FRes (fmul sc (rg d)) r ∧ FRes (fmul t sc) t' ∧ a = r ∧ b = (if flt y' 0 then fneg t' else t')
def SqrtGen (x y c sc a b : Nat) : Prop := SqrtPos x y c sc a b ∨ SqrtNeg x y c sc a b
/-- Is a part greater than 4 in size? -/
def big4 (x y : Nat) : Bool := fgt (rg x) 4616189618054758400 || fgt (rg y) 4616189618054758400
def SqrtRel (x y a b : Nat) : Prop :=
  (feq y 0 = true ∧ feq x 0 = true ∧ a = 0 ∧ b = y) ∨
  (feq y 0 = true ∧ feq x 0 = false ∧ flt x 0 = true ∧ a = 0 ∧ ∃ r, FRes (fsqrt (fneg x)) r ∧ b = copyW r y) ∨
  (feq y 0 = true ∧ feq x 0 = false ∧ flt x 0 = false ∧ FRes (fsqrt x) a ∧ b = y) ∨
  (feq y 0 = false ∧ isInf y = true ∧ a = 9218868437227405312 ∧ b = y) ∨
  (feq y 0 = false ∧ isInf y = false ∧ feq x 0 = true ∧ flt y 0 = true ∧ ∃ m r, FRes (fmul 13826050856027422720 y) m ∧ FRes (fsqrt m) r ∧ a = r ∧ b = fneg r) ∨
  (feq y 0 = false ∧ isInf y = false ∧ feq x 0 = true ∧ flt y 0 = false ∧ ∃ m r, FRes (fmul 4602678819172646912 y) m ∧ FRes (fsqrt m) r ∧ a = r ∧ b = r) ∨
  (feq y 0 = false ∧ isInf y = false ∧ feq x 0 = false ∧ big4 x y = true ∧ SqrtGen x y 4598175219545276416 4611686018427387904 a b) ∨
  (feq y 0 = false ∧ isInf y = false ∧ feq x 0 = false ∧ big4 x y = false ∧ SqrtGen x y 4850376798678024192 4485585228861014016 a b)

theorem close_pp {x y c sc x' y' p q s t m d r t2 : Nat} (hx' : FRes (fmul x c) x') (hy' : FRes (fmul y c) y')
    (hp : FRes (fmul 4602678819172646912 (hypotW x' y')) p) (hq : FRes (fmul 4602678819172646912 x') q) (hs : FRes (fadd p q) s) (ht : FRes (fsqrt s) t)
    (hm : FRes (fmul 4602678819172646912 y') m) (hd : FRes (fdiv m t) d) (hr : FRes (fmul sc (rg d)) r) (ht2 : FRes (fmul t sc) t2) (hg : fgt x' 0 = true) (hl : flt y' 0 = true) : SqrtGen x y c sc t2 (fneg r) :=
  Or.inl ⟨x', y', p, q, s, t, m, d, r, t2, hx', hy', hg, hp, hq, hs, ht, hm, hd, hr, ht2, rfl, by rw [if_pos hl]⟩
theorem close_pn {x y c sc x' y' p q s t m d r t2 : Nat} (hx' : FRes (fmul x c) x') (hy' : FRes (fmul y c) y')
    (hp : FRes (fmul 4602678819172646912 (hypotW x' y')) p) (hq : FRes (fmul 4602678819172646912 x') q) (hs : FRes (fadd p q) s) (ht : FRes (fsqrt s) t)
    (hm : FRes (fmul 4602678819172646912 y') m) (hd : FRes (fdiv m t) d) (hr : FRes (fmul sc (rg d)) r) (ht2 : FRes (fmul t sc) t2) (hg : fgt x' 0 = true) (hl : flt y' 0 = false) : SqrtGen x y c sc t2 r :=
  Or.inl ⟨x', y', p, q, s, t, m, d, r, t2, hx', hy', hg, hp, hq, hs, ht, hm, hd, hr, ht2, rfl, by rw [hl]; rfl⟩
theorem close_np {x y c sc x' y' p q s t m d r t2 : Nat} (hx' : FRes (fmul x c) x') (hy' : FRes (fmul y c) y')
    (hp : FRes (fmul 4602678819172646912 (hypotW x' y')) p) (hq : FRes (fmul 4602678819172646912 x') q) (hs : FRes (fsub p q) s) (ht : FRes (fsqrt s) t)
    (hm : FRes (fmul 4602678819172646912 y') m) (hd : FRes (fdiv m t) d) (hr : FRes (fmul sc (rg d)) r) (ht2 : FRes (fmul t sc) t2) (hg : fgt x' 0 = false) (hl : flt y' 0 = true) : SqrtGen x y c sc r (fneg t2) :=
  Or.inr ⟨x', y', p, q, s, t, m, d, r, t2, hx', hy', hg, hp, hq, hs, ht, hm, hd, hr, ht2, rfl, by rw [if_pos hl]⟩
theorem close_nn {x y c sc x' y' p q s t m d r t2 : Nat} (hx' : FRes (fmul x c) x') (hy' : FRes (fmul y c) y')
    (hp : FRes (fmul 4602678819172646912 (hypotW x' y')) p) (hq : FRes (fmul 4602678819172646912 x') q) (hs : FRes (fsub p q) s) (ht : FRes (fsqrt s) t)
    (hm : FRes (fmul 4602678819172646912 y') m) (hd : FRes (fdiv m t) d) (hr : FRes (fmul sc (rg d)) r) (ht2 : FRes (fmul t sc) t2) (hg : fgt x' 0 = false) (hl : flt y' 0 = false) : SqrtGen x y c sc r t2 :=
  Or.inr ⟨x', y', p, q, s, t, m, d, r, t2, hx', hy', hg, hp, hq, hs, ht, hm, hd, hr, ht2, rfl, by rw [hl]; rfl⟩


end Go.Proofs.Ytnfidnfokfgepaa

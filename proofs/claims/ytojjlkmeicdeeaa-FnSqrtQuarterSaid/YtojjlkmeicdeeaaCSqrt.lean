/- What cmplx.Sqrt gives: a relation between the two words that come in and the two that go out, step by step, where each step is an operation of the model or some NaN. -/
import Derived.Test.YtojjlkmeicdeeaaMid
set_option linter.unusedSimpArgs false
set_option linter.unusedVariables false
namespace Go.Proofs.Ytojjlkmeicdeeaa
open Go.RowKit F64

theorem fres_wd {o : Option Nat} {r : Nat} (h : FRes o r) (ho : ∀ z, o = some z → Wd z) : Wd r := by
  unfold FRes at h
  cases o with
  | none => exact h.2
  | some z => rw [h]; exact ho z rfl
theorem wd_width {z : Nat} (h : z < 2 ^ Ieee.double.width) : Wd z := by
  unfold Wd
  have e : (2 : Nat) ^ Ieee.double.width = 18446744073709551616 := by decide
  omega
theorem fmul_wd {x y r : Nat} (h : FRes (fmul x y) r) : Wd r := fres_wd h fun _ hz => wd_width (Ieee.double.mul_lt hz)
theorem fadd_wd {x y r : Nat} (h : FRes (fadd x y) r) : Wd r := fres_wd h fun _ hz => wd_width (Ieee.double.add_lt hz)
theorem fsub_wd {x y r : Nat} (h : FRes (fsub x y) r) : Wd r := fres_wd h fun _ hz => wd_width (Ieee.double.sub_lt hz)
theorem fdiv_wd {x y r : Nat} (h : FRes (fdiv x y) r) : Wd r := fres_wd h fun _ hz => wd_width (Ieee.double.div_lt hz)
theorem fsqrt_wd {x r : Nat} (h : FRes (fsqrt x) r) : Wd r := fres_wd h fun _ hz => wd_width (Ieee.double.sqrt_lt hz)

section
variable {P : Program} {ops : Array Oper} {Q : Exit → Act → World → Prop} {a : Act} {w : World} {rest : List Oper} {d : Option Nat} {t t2 ty : TypeId} {x y : Operand} {ps : String} {af : Array Edge}
/-- A product, a sum, a difference, a quotient, met in a walk: some word, of which only the relation is kept. -/
theorem wpList_fmul {X Y : Nat} (hx : a.eval x = .float .f64 X) (hy : a.eval y = .float .f64 Y)
    (h : ∀ r n, FRes (fmul X Y) r → Wd r → wpList P ops Q rest (a.put d (.float .f64 r)) (w.drewN n)) : wpList P ops Q (⟨d, .binOp .mul t x y t2, ty, ps, af, none⟩ :: rest) a w := by
  refine wpList_plain rfl fun K hK => ?_
  have hr := fv_res (fmul X Y) X Y w
  have := hK _ _ (h _ (fd (fmul X Y)) hr (fmul_wd hr))
  unfold Oper.wp execOp
  simp only [hx, hy, eqGuard, Sem.run_bind, run_fmul, Result.andThen_ok, Sem.run_pure]
  exact this
theorem wpList_fadd {X Y : Nat} (hx : a.eval x = .float .f64 X) (hy : a.eval y = .float .f64 Y)
    (h : ∀ r n, FRes (fadd X Y) r → Wd r → wpList P ops Q rest (a.put d (.float .f64 r)) (w.drewN n)) : wpList P ops Q (⟨d, .binOp .add t x y t2, ty, ps, af, none⟩ :: rest) a w := by
  refine wpList_plain rfl fun K hK => ?_
  have hr := fv_res (fadd X Y) X Y w
  have := hK _ _ (h _ (fd (fadd X Y)) hr (fadd_wd hr))
  unfold Oper.wp execOp
  simp only [hx, hy, eqGuard, Sem.run_bind, run_fadd, Result.andThen_ok, Sem.run_pure]
  exact this
theorem wpList_fsub {X Y : Nat} (hx : a.eval x = .float .f64 X) (hy : a.eval y = .float .f64 Y)
    (h : ∀ r n, FRes (fsub X Y) r → Wd r → wpList P ops Q rest (a.put d (.float .f64 r)) (w.drewN n)) : wpList P ops Q (⟨d, .binOp .sub t x y t2, ty, ps, af, none⟩ :: rest) a w := by
  refine wpList_plain rfl fun K hK => ?_
  have hr := fv_res (fsub X Y) X Y w
  have := hK _ _ (h _ (fd (fsub X Y)) hr (fsub_wd hr))
  unfold Oper.wp execOp
  simp only [hx, hy, eqGuard, Sem.run_bind, run_fsub, Result.andThen_ok, Sem.run_pure]
  exact this
theorem wpList_fdiv {X Y : Nat} (hx : a.eval x = .float .f64 X) (hy : a.eval y = .float .f64 Y)
    (h : ∀ r n, FRes (fdiv X Y) r → Wd r → wpList P ops Q rest (a.put d (.float .f64 r)) (w.drewN n)) : wpList P ops Q (⟨d, .binOp .quo t x y t2, ty, ps, af, none⟩ :: rest) a w := by
  refine wpList_plain rfl fun K hK => ?_
  have hr := fv_res (fdiv X Y) X Y w
  have := hK _ _ (h _ (fd (fdiv X Y)) hr (fdiv_wd hr))
  unfold Oper.wp execOp
  simp only [hx, hy, eqGuard, Sem.run_bind, run_fquo, Result.andThen_ok, Sem.run_pure]
  exact this
end

/-- Behind the special cases: the first part, scaled by c, is above 0. -/
def SqrtPos (x y c sc a b : Nat) : Prop := ∃ x' y' p q s t m d r t', FRes (fmul x c) x' ∧ FRes (fmul y c) y' ∧ fgt x' 0 = true ∧
  FRes (fmul 4602678819172646912 (hypotW x' y')) p ∧ FRes (fmul 4602678819172646912 x') q ∧ FRes (fadd p q) s ∧ FRes (fsqrt s) t ∧
  FRes (fmul 4602678819172646912 y') m ∧ FRes (fdiv m t) d ∧ FRes (fmul sc (rg d)) r ∧ FRes (fmul t sc) t' ∧ a = t' ∧ b = (if flt y' 0 then fneg r else r)
/-- It is not. -/
def SqrtNeg (x y c sc a b : Nat) : Prop := ∃ x' y' p q s t m d r t', FRes (fmul x c) x' ∧ FRes (fmul y c) y' ∧ fgt x' 0 = false ∧
  FRes (fmul 4602678819172646912 (hypotW x' y')) p ∧ FRes (fmul 4602678819172646912 x') q ∧ FRes (fsub p q) s ∧ FRes (fsqrt s) t ∧
  FRes (fmul 4602678819172646912 y') m ∧ FRes (fdiv m t) d ∧ FRes (fmul sc (rg d)) r ∧ FRes (fmul t sc) t' ∧ a = r ∧ b = (if flt y' 0 then fneg t' else t')
def SqrtGen (x y c sc a b : Nat) : Prop := SqrtPos x y c sc a b ∨ SqrtNeg x y c sc a b
/-- Is a part greater than 4 in size? -/
def big4 (x y : Nat) : Bool := fgt (rg x) 4616189618054758400 || fgt (rg y) 4616189618054758400
def SqrtRel (x y a b : Nat) : Prop :=
  (feq y 0 = true ∧ feq x 0 = true ∧ a = 0 ∧ b = y) ∨
  (feq y 0 = true ∧ feq x 0 = false ∧ flt x 0 = true ∧ a = 0 ∧ ∃ r, FRes (fsqrt (fneg x)) r ∧ b = copyW r y) ∨
  (feq y 0 = true ∧ feq x 0 = false ∧ flt x 0 = false ∧ FRes (fsqrt x) a ∧ b = y) ∨
  (feq y 0 = false ∧ isInf y = true ∧ a = 9218868437227405312 ∧ b = y) ∨
  (feq y 0 = false ∧ isInf y = false ∧ feq x 0 = true ∧ flt y 0 = true ∧ ∃ m r, FRes (fmul 13826050856027422720 y) m ∧ FRes (fsqrt m) r ∧ a = r ∧ b = fneg r) ∨
  (feq y 0 = false ∧ isInf y = false ∧ feq x 0 = true ∧ flt y 0 = false ∧ ∃ m r, FRes (fmul 4602678819172646912 y) m ∧ FRes (fsqrt m) r ∧ a = r ∧ b = r) ∨
  (feq y 0 = false ∧ isInf y = false ∧ feq x 0 = false ∧ big4 x y = true ∧ SqrtGen x y 4598175219545276416 4611686018427387904 a b) ∨
  (feq y 0 = false ∧ isInf y = false ∧ feq x 0 = false ∧ big4 x y = false ∧ SqrtGen x y 4850376798678024192 4485585228861014016 a b)

theorem close_pp {x y c sc x' y' p q s t m d r t2 : Nat} (hx' : FRes (fmul x c) x') (hy' : FRes (fmul y c) y')
    (hp : FRes (fmul 4602678819172646912 (hypotW x' y')) p) (hq : FRes (fmul 4602678819172646912 x') q) (hs : FRes (fadd p q) s) (ht : FRes (fsqrt s) t)
    (hm : FRes (fmul 4602678819172646912 y') m) (hd : FRes (fdiv m t) d) (hr : FRes (fmul sc (rg d)) r) (ht2 : FRes (fmul t sc) t2) (hg : fgt x' 0 = true) (hl : flt y' 0 = true) : SqrtGen x y c sc t2 (fneg r) :=
  Or.inl ⟨x', y', p, q, s, t, m, d, r, t2, hx', hy', hg, hp, hq, hs, ht, hm, hd, hr, ht2, rfl, by rw [if_pos hl]⟩
theorem close_pn {x y c sc x' y' p q s t m d r t2 : Nat} (hx' : FRes (fmul x c) x') (hy' : FRes (fmul y c) y')
    (hp : FRes (fmul 4602678819172646912 (hypotW x' y')) p) (hq : FRes (fmul 4602678819172646912 x') q) (hs : FRes (fadd p q) s) (ht : FRes (fsqrt s) t)
    (hm : FRes (fmul 4602678819172646912 y') m) (hd : FRes (fdiv m t) d) (hr : FRes (fmul sc (rg d)) r) (ht2 : FRes (fmul t sc) t2) (hg : fgt x' 0 = true) (hl : flt y' 0 = false) : SqrtGen x y c sc t2 r :=
  Or.inl ⟨x', y', p, q, s, t, m, d, r, t2, hx', hy', hg, hp, hq, hs, ht, hm, hd, hr, ht2, rfl, by rw [hl]; rfl⟩
theorem close_np {x y c sc x' y' p q s t m d r t2 : Nat} (hx' : FRes (fmul x c) x') (hy' : FRes (fmul y c) y')
    (hp : FRes (fmul 4602678819172646912 (hypotW x' y')) p) (hq : FRes (fmul 4602678819172646912 x') q) (hs : FRes (fsub p q) s) (ht : FRes (fsqrt s) t)
    (hm : FRes (fmul 4602678819172646912 y') m) (hd : FRes (fdiv m t) d) (hr : FRes (fmul sc (rg d)) r) (ht2 : FRes (fmul t sc) t2) (hg : fgt x' 0 = false) (hl : flt y' 0 = true) : SqrtGen x y c sc r (fneg t2) :=
  Or.inr ⟨x', y', p, q, s, t, m, d, r, t2, hx', hy', hg, hp, hq, hs, ht, hm, hd, hr, ht2, rfl, by rw [if_pos hl]⟩
theorem close_nn {x y c sc x' y' p q s t m d r t2 : Nat} (hx' : FRes (fmul x c) x') (hy' : FRes (fmul y c) y')
    (hp : FRes (fmul 4602678819172646912 (hypotW x' y')) p) (hq : FRes (fmul 4602678819172646912 x') q) (hs : FRes (fsub p q) s) (ht : FRes (fsqrt s) t)
    (hm : FRes (fmul 4602678819172646912 y') m) (hd : FRes (fdiv m t) d) (hr : FRes (fmul sc (rg d)) r) (ht2 : FRes (fmul t sc) t2) (hg : fgt x' 0 = false) (hl : flt y' 0 = false) : SqrtGen x y c sc r t2 :=
  Or.inr ⟨x', y', p, q, s, t, m, d, r, t2, hx', hy', hg, hp, hq, hs, ht, hm, hd, hr, ht2, rfl, by rw [hl]; rfl⟩

/-- A root, as a relation. -/
def SqrtRes (x : Nat) (w : World) (e : Ending) (w' : World) : Prop := ∃ r n, FRes (fsqrt x) r ∧ Wd r ∧ e = .returned (.float .f64 r) ∧ w' = w.drewN n
theorem mSqrt_res (x : Nat) (w : World) : Calls Try.prog 45 #[.float .f64 x] w (SqrtRes x w) :=
  (mSqrt_any x w).mono fun _ _ ⟨r, hr, he, hw⟩ => ⟨r, _, hr, fsqrt_wd hr, he, hw⟩
def CSqrtRet (x y : Nat) (w : World) (e : Ending) (w' : World) : Prop := ∃ a b n, SqrtRel x y a b ∧ Wd a ∧ Wd b ∧ e = .returned (.complex .f64 a b) ∧ w' = w.drewN n

set_option maxRecDepth 100000 in
theorem csqrt_axis (x y : Nat) (w : World) (hx : Wd x) (hy : Wd y) (h1 : feq y 0 = true) : Calls Try.prog 43 #[.complex .f64 x y] w (CSqrtRet x y w) := by
  cases h2 : feq x 0
  · cases h3 : flt x 0
    · go_enter Try.func43, Try.ntmps43
      go_wp2_with (go_at_call 45; refine (mSqrt_res _ _).mono ?_; rintro e w' ⟨r, n, hr, hw, rfl, rfl⟩)
      go_ret
      exact ⟨_, _, _, Or.inr (Or.inr (Or.inl ⟨h1, h2, h3, hr, rfl⟩)), hw, hy, rfl, rfl⟩
    · go_enter Try.func43, Try.ntmps43
      go_wp2_with (first | (go_at_call 45; refine (mSqrt_res _ _).mono ?_; rintro e w' ⟨r, n, hr, hw, rfl, rfl⟩) | (go_at_call 52; refine (mCopysign_any _ _ _ (by assumption) (by assumption)).mono ?_; rintro e w' ⟨rfl, rfl⟩))
      go_ret
      exact ⟨_, _, _, Or.inr (Or.inl ⟨h1, h2, h3, rfl, _, hr, rfl⟩), by unfold Wd; decide, copyW_wd _ _, rfl, rfl⟩
  · go_enter Try.func43, Try.ntmps43
    go_wp2_with fail
    go_ret
    exact ⟨_, _, 0, Or.inl ⟨h1, h2, rfl, rfl⟩, by unfold Wd; decide, hy, rfl, rfl⟩
set_option maxRecDepth 100000 in
theorem csqrt_imag (x y : Nat) (w : World) (hx : Wd x) (hy : Wd y) (h1 : feq y 0 = false) (h : isInf y = true ∨ feq x 0 = true) : Calls Try.prog 43 #[.complex .f64 x y] w (CSqrtRet x y w) := by
  cases h2 : isInf y
  · have h3 : feq x 0 = true := by rw [h2] at h; simpa using h
    clear h
    cases h4 : flt y 0
    · go_enter Try.func43, Try.ntmps43
      go_wp2_with (first | (go_at_call 47; refine (mIsInf0_any _ _ hy).mono ?_; rintro e w' ⟨rfl, rfl⟩) | (with_reducible refine wpList_fmul rfl rfl ?_; intro m n1 hm hmw) | (go_at_call 45; refine (mSqrt_res _ _).mono ?_; rintro e w' ⟨r, n, hr, hw, rfl, rfl⟩))
      go_ret
      exact ⟨_, _, _, Or.inr (Or.inr (Or.inr (Or.inr (Or.inr (Or.inl ⟨h1, h2, h3, h4, _, _, hm, hr, rfl, rfl⟩))))), hw, hw, rfl, rfl⟩
    · go_enter Try.func43, Try.ntmps43
      go_wp2_with (first | (go_at_call 47; refine (mIsInf0_any _ _ hy).mono ?_; rintro e w' ⟨rfl, rfl⟩) | (with_reducible refine wpList_fmul rfl rfl ?_; intro m n1 hm hmw) | (go_at_call 45; refine (mSqrt_res _ _).mono ?_; rintro e w' ⟨r, n, hr, hw, rfl, rfl⟩))
      go_ret
      exact ⟨_, _, _, Or.inr (Or.inr (Or.inr (Or.inr (Or.inl ⟨h1, h2, h3, h4, _, _, hm, hr, rfl, rfl⟩)))), hw, fneg_wd hw, rfl, rfl⟩
  · clear h
    go_enter Try.func43, Try.ntmps43
    go_wp2_with (first | (go_at_call 47; refine (mIsInf0_any _ _ hy).mono ?_; rintro e w' ⟨rfl, rfl⟩) | (go_at_call 53; refine (mInf_any _).mono ?_; rintro e w' ⟨rfl, rfl⟩))
    go_ret
    exact ⟨_, _, 0, Or.inr (Or.inr (Or.inr (Or.inl ⟨h1, h2, rfl, rfl⟩))), by unfold Wd; decide, hy, rfl, rfl⟩
set_option maxRecDepth 100000 in
set_option maxHeartbeats 1000000 in
theorem csqrt_big (x y : Nat) (w : World) (hx : Wd x) (hy : Wd y) (h1 : feq y 0 = false) (h2 : isInf y = false) (h3 : feq x 0 = false) (h : big4 x y = true) :
    Calls Try.prog 43 #[.complex .f64 x y] w (CSqrtRet x y w) := by
  have H : Hid (True → big4 x y = true) := fun _ => h
  unfold big4 at h
  cases h4 : fgt (rg x) 4616189618054758400
  · have h5 : fgt (rg y) 4616189618054758400 = true := by rw [h4] at h; simpa using h
    clear h
    have tok1 : True := trivial
    have tok2 : True := trivial
    have tok3 : True := trivial
    have tok4 : True := trivial
    have tok5 : True := trivial
    have tok6 : True := trivial
    have tok7 : True := trivial
    go_enter Try.func43, Try.ntmps43
    go_wp2_with (first | (with_reducible refine wpList_fmul rfl rfl ?_; have _u := tok1; clear _u; clear tok1; intro x' n1 hx' wx') | (with_reducible refine wpList_fmul rfl rfl ?_; have _u := tok2; clear _u; clear tok2; intro y' n2 hy' wy') | (with_reducible refine wpList_fmul rfl rfl ?_; have _u := tok3; clear _u; clear tok3; intro p n3 hp wp) | (with_reducible refine wpList_fmul rfl rfl ?_; have _u := tok4; clear _u; clear tok4; intro q n4 hq wq) | (with_reducible refine wpList_fmul rfl rfl ?_; have _u := tok5; clear _u; clear tok5; intro m n5 hm wm) | (with_reducible refine wpList_fmul rfl rfl ?_; have _u := tok6; clear _u; clear tok6; intro r n6 hr wr) | (with_reducible refine wpList_fmul rfl rfl ?_; have _u := tok7; clear _u; clear tok7; intro t2 n7 ht2 wt2) | (with_reducible refine wpList_fadd rfl rfl ?_; intro s n8 hs ws) | (with_reducible refine wpList_fsub rfl rfl ?_; intro s n8 hs ws) | (with_reducible refine wpList_fdiv rfl rfl ?_; intro d n9 hd wd) | (go_at_call 47; refine (mIsInf0_any _ _ hy).mono ?_; rintro e w' ⟨rfl, rfl⟩) | (go_at_call 45; refine (mSqrt_res _ _).mono ?_; rintro e w' ⟨t, n10, ht, wt, rfl, rfl⟩) | (go_at_call 41; refine (mHypot_any _ _ _).mono ?_; rintro e w' ⟨rfl, rfl⟩) | (go_at_call 54; refine (mAbs_any _ _ (by assumption)).mono ?_; rintro e w' ⟨rfl, rfl⟩))
    all_goals (go_ret; refine ⟨_, _, _, Or.inr (Or.inr (Or.inr (Or.inr (Or.inr (Or.inr (Or.inl ⟨h1, h2, h3, H.out trivial, ?_⟩)))))), ?_, ?_, rfl, rfl⟩)
    all_goals first
      | (refine close_pp hx' hy' hp hq hs ht hm hd hr ht2 ?_ ?_ <;> assumption)
      | (refine close_pn hx' hy' hp hq hs ht hm hd hr ht2 ?_ ?_ <;> assumption)
      | (refine close_np hx' hy' hp hq hs ht hm hd hr ht2 ?_ ?_ <;> assumption)
      | (refine close_nn hx' hy' hp hq hs ht hm hd hr ht2 ?_ ?_ <;> assumption)
      | exact wr
      | exact wt2
      | exact fneg_wd wr
      | exact fneg_wd wt2
  · clear h
    have tok1 : True := trivial
    have tok2 : True := trivial
    have tok3 : True := trivial
    have tok4 : True := trivial
    have tok5 : True := trivial
    have tok6 : True := trivial
    have tok7 : True := trivial
    go_enter Try.func43, Try.ntmps43
    go_wp2_with (first | (with_reducible refine wpList_fmul rfl rfl ?_; have _u := tok1; clear _u; clear tok1; intro x' n1 hx' wx') | (with_reducible refine wpList_fmul rfl rfl ?_; have _u := tok2; clear _u; clear tok2; intro y' n2 hy' wy') | (with_reducible refine wpList_fmul rfl rfl ?_; have _u := tok3; clear _u; clear tok3; intro p n3 hp wp) | (with_reducible refine wpList_fmul rfl rfl ?_; have _u := tok4; clear _u; clear tok4; intro q n4 hq wq) | (with_reducible refine wpList_fmul rfl rfl ?_; have _u := tok5; clear _u; clear tok5; intro m n5 hm wm) | (with_reducible refine wpList_fmul rfl rfl ?_; have _u := tok6; clear _u; clear tok6; intro r n6 hr wr) | (with_reducible refine wpList_fmul rfl rfl ?_; have _u := tok7; clear _u; clear tok7; intro t2 n7 ht2 wt2) | (with_reducible refine wpList_fadd rfl rfl ?_; intro s n8 hs ws) | (with_reducible refine wpList_fsub rfl rfl ?_; intro s n8 hs ws) | (with_reducible refine wpList_fdiv rfl rfl ?_; intro d n9 hd wd) | (go_at_call 47; refine (mIsInf0_any _ _ hy).mono ?_; rintro e w' ⟨rfl, rfl⟩) | (go_at_call 45; refine (mSqrt_res _ _).mono ?_; rintro e w' ⟨t, n10, ht, wt, rfl, rfl⟩) | (go_at_call 41; refine (mHypot_any _ _ _).mono ?_; rintro e w' ⟨rfl, rfl⟩) | (go_at_call 54; refine (mAbs_any _ _ (by assumption)).mono ?_; rintro e w' ⟨rfl, rfl⟩))
    all_goals (go_ret; refine ⟨_, _, _, Or.inr (Or.inr (Or.inr (Or.inr (Or.inr (Or.inr (Or.inl ⟨h1, h2, h3, H.out trivial, ?_⟩)))))), ?_, ?_, rfl, rfl⟩)
    all_goals first
      | (refine close_pp hx' hy' hp hq hs ht hm hd hr ht2 ?_ ?_ <;> assumption)
      | (refine close_pn hx' hy' hp hq hs ht hm hd hr ht2 ?_ ?_ <;> assumption)
      | (refine close_np hx' hy' hp hq hs ht hm hd hr ht2 ?_ ?_ <;> assumption)
      | (refine close_nn hx' hy' hp hq hs ht hm hd hr ht2 ?_ ?_ <;> assumption)
      | exact wr
      | exact wt2
      | exact fneg_wd wr
      | exact fneg_wd wt2
set_option maxRecDepth 100000 in
set_option maxHeartbeats 1000000 in
theorem csqrt_small (x y : Nat) (w : World) (hx : Wd x) (hy : Wd y) (h1 : feq y 0 = false) (h2 : isInf y = false) (h3 : feq x 0 = false) (h : big4 x y = false) :
    Calls Try.prog 43 #[.complex .f64 x y] w (CSqrtRet x y w) := by
  have H : Hid (True → big4 x y = false) := fun _ => h
  unfold big4 at h
  have h4 : fgt (rg x) 4616189618054758400 = false := by revert h; cases fgt (rg x) 4616189618054758400 <;> simp
  have h5 : fgt (rg y) 4616189618054758400 = false := by revert h; cases fgt (rg y) 4616189618054758400 <;> simp
  clear h
  have tok1 : True := trivial
  have tok2 : True := trivial
  have tok3 : True := trivial
  have tok4 : True := trivial
  have tok5 : True := trivial
  have tok6 : True := trivial
  have tok7 : True := trivial
  go_enter Try.func43, Try.ntmps43
  go_wp2_with (first | (with_reducible refine wpList_fmul rfl rfl ?_; have _u := tok1; clear _u; clear tok1; intro x' n1 hx' wx') | (with_reducible refine wpList_fmul rfl rfl ?_; have _u := tok2; clear _u; clear tok2; intro y' n2 hy' wy') | (with_reducible refine wpList_fmul rfl rfl ?_; have _u := tok3; clear _u; clear tok3; intro p n3 hp wp) | (with_reducible refine wpList_fmul rfl rfl ?_; have _u := tok4; clear _u; clear tok4; intro q n4 hq wq) | (with_reducible refine wpList_fmul rfl rfl ?_; have _u := tok5; clear _u; clear tok5; intro m n5 hm wm) | (with_reducible refine wpList_fmul rfl rfl ?_; have _u := tok6; clear _u; clear tok6; intro r n6 hr wr) | (with_reducible refine wpList_fmul rfl rfl ?_; have _u := tok7; clear _u; clear tok7; intro t2 n7 ht2 wt2) | (with_reducible refine wpList_fadd rfl rfl ?_; intro s n8 hs ws) | (with_reducible refine wpList_fsub rfl rfl ?_; intro s n8 hs ws) | (with_reducible refine wpList_fdiv rfl rfl ?_; intro d n9 hd wd) | (go_at_call 47; refine (mIsInf0_any _ _ hy).mono ?_; rintro e w' ⟨rfl, rfl⟩) | (go_at_call 45; refine (mSqrt_res _ _).mono ?_; rintro e w' ⟨t, n10, ht, wt, rfl, rfl⟩) | (go_at_call 41; refine (mHypot_any _ _ _).mono ?_; rintro e w' ⟨rfl, rfl⟩) | (go_at_call 54; refine (mAbs_any _ _ (by assumption)).mono ?_; rintro e w' ⟨rfl, rfl⟩))
  all_goals (go_ret; refine ⟨_, _, _, Or.inr (Or.inr (Or.inr (Or.inr (Or.inr (Or.inr (Or.inr ⟨h1, h2, h3, H.out trivial, ?_⟩)))))), ?_, ?_, rfl, rfl⟩)
  all_goals first
    | (refine close_pp hx' hy' hp hq hs ht hm hd hr ht2 ?_ ?_ <;> assumption)
    | (refine close_pn hx' hy' hp hq hs ht hm hd hr ht2 ?_ ?_ <;> assumption)
    | (refine close_np hx' hy' hp hq hs ht hm hd hr ht2 ?_ ?_ <;> assumption)
    | (refine close_nn hx' hy' hp hq hs ht hm hd hr ht2 ?_ ?_ <;> assumption)
    | exact wr
    | exact wt2
    | exact fneg_wd wr
    | exact fneg_wd wt2
theorem csqrt_any (x y : Nat) (w : World) (hx : Wd x) (hy : Wd y) : Calls Try.prog 43 #[.complex .f64 x y] w (CSqrtRet x y w) := by
  cases h1 : feq y 0
  · by_cases h : isInf y = true ∨ feq x 0 = true
    · exact csqrt_imag x y w hx hy h1 h
    · have h2 : isInf y = false := by simpa using fun h' => h (Or.inl h')
      have h3 : feq x 0 = false := by simpa using fun h' => h (Or.inr h')
      cases h4 : big4 x y
      · exact csqrt_small x y w hx hy h1 h2 h3 h4
      · exact csqrt_big x y w hx hy h1 h2 h3 h4
  · exact csqrt_axis x y w hx hy h1
/-- What impl.Sqrt returns. -/
def Sqrt2Ret (x y : Nat) (w : World) (e : Ending) (w' : World) : Prop := ∃ a b n, SqrtRel x y a b ∧ Wd a ∧ Wd b ∧ e = .returned (.tuple #[.float .f64 a, .float .f64 b]) ∧ w' = w.drewN n
theorem sqrt2_any (x y : Nat) (w : World) (hx : Wd x) (hy : Wd y) : Calls Try.prog 29 #[.float .f64 x, .float .f64 y] w (Sqrt2Ret x y w) := by
  go_enter Try.func29, Try.ntmps29
  go_wp2_with (first | (go_at_call 43; refine (csqrt_any _ _ _ hx hy).mono ?_; rintro e w' ⟨a, b, n, hr, wa, wb, rfl, rfl⟩) | (go_at_call 39; refine (split_any _ _ _).mono ?_; rintro e w' ⟨rfl, rfl⟩))
  go_ret2
  exact ⟨_, _, _, hr, wa, wb, rfl, rfl⟩

end Go.Proofs.Ytojjlkmeicdeeaa

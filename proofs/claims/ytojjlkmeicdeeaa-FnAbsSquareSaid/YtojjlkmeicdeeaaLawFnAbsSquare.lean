/- Proved: for every two 32-bit integers: the square of the absolute value of x + yi, with x and y whole numbers up to 2^20, is near x*x + y*y, by a part of 2^-49. No condition. -/
import Derived.Test.YtojjlkmeicdeeaaRows
import Derived.Test.YtojjlkmeicdeeaaNear
import Derived.Test.YtojjlkmeicdeeaaFrame
set_option linter.unusedSimpArgs false
set_option linter.unusedVariables false
namespace Go.Proofs.Ytojjlkmeicdeeaa.fnAbsSquare
open Go.ChangeShapes Go.WideShapes Go.ChangeAt Go.RowKit F64

theorem whole_range {n : Int} (h : n.natAbs ≤ 1048576) (h0 : n ≠ 0) : (1 : Rat) ≤ (n.natAbs : Rat) ∧ (n.natAbs : Rat) ≤ 1048576 := by
  have a : ((1 : Nat) : Rat) ≤ (n.natAbs : Rat) := Rat.natCast_le_natCast.2 (by omega)
  have b : (n.natAbs : Rat) ≤ ((1048576 : Nat) : Rat) := Rat.natCast_le_natCast.2 h
  exact ⟨a, b⟩
theorem plain {x y : Nat} {n m : Int} (wx : Wd x) (wy : Wd y) (fx : Fi x) (fy : Fi y) (vx : val x = (n : Rat)) (vy : val y = (m : Rat)) (hn : n.natAbs ≤ 1048576) (hm : m.natAbs ≤ 1048576) :
    ∃ rr xx yy N d t, fmul (hypotW x y) (hypotW x y) = some rr ∧ Wd rr ∧ fmul x x = some xx ∧ fmul y y = some yy ∧ fadd xx yy = some N ∧ Wd N ∧ fsub rr N = some d ∧ Wd d ∧ fmul (sizeW N) (powW (-49)) = some t ∧ fle (sizeW d) t = true := by
  have hBv : B = 4503599627370496 := rfl
  have n2 : n.natAbs * n.natAbs ≤ 1099511627776 := by have := Nat.mul_le_mul hn hn; omega
  have m2 : m.natAbs * m.natAbs ≤ 1099511627776 := by have := Nat.mul_le_mul hm hm; omega
  obtain ⟨xx, e1, q1⟩ := sq_word fx vx (by omega)
  obtain ⟨yy, e2, q2⟩ := sq_word fy vy (by omega)
  obtain ⟨N, e3, q3⟩ := q1.add q2 (by omega)
  obtain ⟨t, e4, wt, ft, st, vt⟩ := q3.part (k := -49) (by omega) (by omega) (by omega)
  have sN : sizeW N = N := by
    rw [sizeW_num q3.wd q3.fi.num]
    have := word_self q3.wd
    rw [q3.sgn, word_eq] at this; simpa using this
  have rx := rv_abs vx
  have ry := rv_abs vy
  have fh : Fi (hypotW x y) ∧ Rel (rv (rg x) * rv (rg x) + rv (rg y) * rv (rg y)) (val (hypotW x y) * val (hypotW x y)) (10 / 9007199254740992) := by
    by_cases h0 : rg x = 0 ∧ rg y = 0
    · rw [hypotW_zero h0.1 h0.2, h0.1, h0.2, rv_zero, val_zero]
      exact ⟨by unfold Fi; decide, by constructor <;> decide +kernel⟩
    · have bx : rv (rg x) = 0 ∨ (1 ≤ rv (rg x) ∧ rv (rg x) ≤ 1048576) := by
        by_cases hz : n = 0
        · left; rw [rx, hz]; rfl
        · right; rw [rx]; exact whole_range hn hz
      have b_y : rv (rg y) = 0 ∨ (1 ≤ rv (rg y) ∧ rv (rg y) ≤ 1048576) := by
        by_cases hz : m = 0
        · left; rw [ry, hz]; rfl
        · right; rw [ry]; exact whole_range hm hz
      have k0 : (1048576 : Rat) ≤ (2 : Rat) ^ (200 : Int) := by decide +kernel
      have k1 : (2 : Rat) ^ (-900 : Int) ≤ 1 := by decide +kernel
      have kp : (0 : Rat) < (2 : Rat) ^ (200 : Int) := zp_pos _
      have fh : Fi (hypotW x y) := by
        obtain ⟨big, small, r, s, tt, q, hb, fb, fs, sb, ss, hb0, hle, H⟩ := hypotW_gen fx fy h0
        have hb2 : val big ≤ 1048576 := by
          rcases hb with ⟨e1, e2⟩ | ⟨e1, e2⟩ <;> rw [e1, val_rg] <;> grind
        have hb1 := val_nonneg sb
        have k := mul_le_mul' H.bq2 hb2 (val_nonneg H.sq) (by decide +kernel)
        have k2 := Rat.mul_nonneg (val_nonneg H.sq) hb1
        have kM := big_le_MAXF
        exact H.r5.fin (by grind) (by grind)
      refine ⟨fh, hypotW_rel fx fy h0 fh ?_ ?_ ?_ ?_⟩
      · rcases bx with h | ⟨h, _⟩
        · left; exact h
        · right
          have := Rat.mul_le_mul_of_nonneg_right h (Rat.le_of_lt kp)
          grind
      · rcases b_y with h | ⟨h, _⟩
        · left; exact h
        · right
          have := Rat.mul_le_mul_of_nonneg_right h (Rat.le_of_lt kp)
          grind
      · rcases bx with h | ⟨h, _⟩
        · left; exact h
        · right; exact Rat.le_trans k1 h
      · rcases b_y with h | ⟨h, _⟩
        · left; exact h
        · right; exact Rat.le_trans k1 h
  obtain ⟨fh, hr⟩ := fh
  have eN : rv (rg x) * rv (rg x) + rv (rg y) * rv (rg y) = val N := by rw [q3.v, rx, ry, Rat.natCast_add, Rat.natCast_mul, Rat.natCast_mul]
  rw [eN] at hr
  have N0 : 0 ≤ val N := val_nonneg q3.sgn
  have NB : val N ≤ 2199023255552 := by
    rw [q3.v]
    have : ((n.natAbs * n.natAbs + m.natAbs * m.natAbs : Nat) : Rat) ≤ ((2199023255552 : Nat) : Rat) := Rat.natCast_le_natCast.2 (by omega)
    exact this
  obtain ⟨rr, e5, R5, s5⟩ := mul_rnd fh fh
  have frr : Fi rr := by
    have kM := big_le_MAXF
    have := hr.2
    have := hr.nonneg N0 (by decide +kernel)
    exact R5.fin (by grind) (by grind)
  have low : val (hypotW x y) * val (hypotW x y) = 0 ∨ LOW ≤ val (hypotW x y) * val (hypotW x y) := by
    by_cases hz : n.natAbs * n.natAbs + m.natAbs * m.natAbs = 0
    · left
      have hv := q3.v
      rw [hz] at hv
      have h1 := hr.1; have h2 := hr.2
      rw [hv] at h1 h2
      have z : ((0 : Nat) : Rat) = 0 := rfl
      rw [z] at h1 h2
      grind
    · right
      have hv : (1 : Rat) ≤ val N := by
        rw [q3.v]
        have : ((1 : Nat) : Rat) ≤ ((n.natAbs * n.natAbs + m.natAbs * m.natAbs : Nat) : Rat) := Rat.natCast_le_natCast.2 (by omega)
        exact this
      have h1 := hr.1
      have k := Rat.mul_le_mul_of_nonneg_right hv (show (0 : Rat) ≤ 1 - 10 / 9007199254740992 by decide +kernel)
      have k2 : LOW ≤ 1 * (1 - 10 / 9007199254740992) := by unfold LOW; decide +kernel
      exact Rat.le_trans k2 (Rat.le_trans k h1)
  have hr2 : Rel (val N) (val rr) (16 / 9007199254740992) := hr.trans (Rnd_rel1 R5 frr low) N0 (by decide +kernel) (by decide +kernel) (by decide +kernel) (by decide +kernel) (by decide +kernel)
  rw [← q3.v, show (2 : Rat) ^ (-49 : Int) = 16 / 9007199254740992 from by decide +kernel] at vt
  obtain ⟨d, e6, wd, nd, hd⟩ := sub_size frr q3.fi q3.wd ft.num wt st (by have := hr2.2; rw [vt]; grind) (by have := hr2.1; rw [vt]; grind)
  exact ⟨rr, xx, yy, N, d, t, e5, R5.wd, e1, e2, e3, q3.wd, e6, wd, by rw [sN]; exact e4, hd⟩

set_option maxRecDepth 100000 in
theorem walk_core (n m : Int) (x y rr xx yy N d t : Nat) (w : World) (n1 : -2147483648 ≤ n) (n2 : n ≤ 2147483647) (m1 : -2147483648 ≤ m) (m2 : m ≤ 2147483647) (gx : wholeW n 1048576 = x) (gy : wholeW m 1048576 = y)
    (e1 : fmul (hypotW x y) (hypotW x y) = some rr) (wr : Wd rr) (e2 : fmul x x = some xx) (e3 : fmul y y = some yy) (e4 : fadd xx yy = some N) (wN : Wd N)
    (e5 : fsub rr N = some d) (wd : Wd d) (e6 : fmul (sizeW N) (powW (-49)) = some t) (e7 : fle (sizeW d) t = true) :
    Calls Try.prog 6 #[.int .i32 n, .int .i32 m] w fun e w' => e = .returned (.bool true) ∧ Grown w w' := by
  go_enter Try.func6, Try.ntmps6
  go_wp2_with (first | (go_at_call 23; refine (whole_any _ _ _ (by assumption) (by assumption) (by omega) (by omega)).mono ?_; rintro e w' ⟨rfl, rfl⟩) | (go_at_call 24; refine (bound_any _ _ (by omega) (by omega)).mono ?_; rintro e w' ⟨rfl, rfl⟩) | (go_at_call 25; refine (near_ok _ wr wN e5 wd e6 e7).mono ?_; rintro e w' ⟨rfl, rfl⟩) | first | (go_at_call 19; refine (isNan_any _ _).mono ?_; rintro e w' ⟨rfl, rfl⟩) | (go_at_call 20; refine (infinity_any _).mono ?_; rintro e w' ⟨rfl, rfl⟩) | (go_at_call 35; refine (isInf_any _ _ (by assumption)).mono ?_; rintro e w' ⟨rfl, rfl⟩) | (go_at_call 17; refine (isFinite_any _ _ (by assumption)).mono ?_; rintro e w' ⟨rfl, rfl⟩) | (go_at_call 31; refine (minus_any _ _ (by assumption)).mono ?_; rintro e w' ⟨rfl, rfl⟩) | (go_at_call 26; refine (size_any _ _ (by assumption)).mono ?_; rintro e w' ⟨rfl, rfl⟩) | (go_at_call 32; refine (like_any _ _ _ (by assumption) (by assumption)).mono ?_; rintro e w' ⟨rfl, rfl⟩) | (go_at_call 22; refine (same_any _ _ _ (by assumption) (by assumption)).mono ?_; rintro e w' ⟨rfl, rfl⟩) | (go_at_call 21; refine (conj_any _ _ _).mono ?_; rintro e w' ⟨rfl, rfl⟩) | (go_at_call 15; refine (isInf2_any _ _ _ (by assumption) (by assumption)).mono ?_; rintro e w' ⟨rfl, rfl⟩) | (go_at_call 16; refine (isNaN2_any _ _ _ (by assumption) (by assumption)).mono ?_; rintro e w' ⟨rfl, rfl⟩) | (go_at_call 18; refine (abs_any _ _ _).mono ?_; rintro e w' ⟨rfl, rfl⟩) | (go_at_call 27; refine (realHypot_any _ _ _).mono ?_; rintro e w' ⟨rfl, rfl⟩) | (go_at_call 54; refine (mAbs_any _ _ (by assumption)).mono ?_; rintro e w' ⟨rfl, rfl⟩))
  go_ret
  exact ⟨rfl, Grown.refl _⟩
theorem walk (n m : Int) (wn : (Lit.int .i32 n).wf = true) (wm : (Lit.int .i32 m).wf = true) (w : World) :
    Calls Try.prog 6 #[.int .i32 n, .int .i32 m] w fun e w' => e = .returned (.bool true) ∧ Grown w w' := by
  obtain ⟨n1, n2⟩ := i32_of_wf wn
  obtain ⟨m1, m2⟩ := i32_of_wf wm
  have hBv : B = 4503599627370496 := rfl
  have b1 := tmod_bound n 1048577 (by omega)
  have b2 := tmod_bound m 1048577 (by omega)
  obtain ⟨p1, p2, p3, _⟩ := ofInt_spec (n := n.tmod 1048577) (by omega)
  obtain ⟨q1, q2, q3, _⟩ := ofInt_spec (n := m.tmod 1048577) (by omega)
  obtain ⟨rr, xx, yy, N, d, t, f1, f2, f3, f4, f5, f6, f7, f8, f9, f10⟩ := plain p1 q1 p2 q2 p3 q3 (by omega) (by omega)
  exact walk_core n m _ _ rr xx yy N d t w n1 n2 m1 m2 rfl rfl f1 f2 f3 f4 f5 f6 f7 f8 f9 f10

theorem own : ownKnob Try.prog.godebug = none := by kernel_rfl
set_option maxRecDepth 100000 in
theorem lifted (os : Os) (started : os.Started) (H : Type) (enc : TypeId × Value → H) :
    ReturnsInHanded {} Try.checked os 6 .any (Rows.fnAbsSquareSpec.pre6 enc Try.prog Try.f6 Rows.fnAbsSquareRow.domain false) (Rows.fnAbsSquareSpec.post enc Try.prog Try.f6 false true false false) := by
  refine returnsInHanded_of_change (C := Try.checked) own started (by kernel_rfl) Try.func6
    (ChangeSpec.witness6 (enc := enc) (C := Try.checked) false ⟨#[], #[.int .i32 0, .int .i32 0], []⟩ 8 (by kernel_rfl) (by kernel_rfl) (by kernel_rfl) (by kernel_rfl)) ?_
  intro W base args ds gs before hval0 hW hcnd _
  have hval : ∀ (j : Nat) t v, Try.f6.params[j]? = some t → args[j]? = some v → Value.okWide Try.prog W .any base t v := hval0
  have hW' := hW
  obtain ⟨p, q, hA0, hV, rfl, hfz, hnd⟩ := hW
  have hA : DataW.TrodAll enc Try.prog W 0 (fun _ => true) true Try.f6.params.toList args.toList ds p := hA0
  rw [Try.params6] at hA hval
  obtain ⟨v0, vs0, d0, ds0, p0, q0, hargs, rfl, rfl, h0, r0⟩ := trodAll_cons hA
  obtain ⟨v1, vs1, d1, ds1, p1, q1, rfl, rfl, rfl, h1, r1⟩ := trodAll_cons r0
  obtain ⟨rfl, rfl, rfl⟩ := trodAll_nil r1
  obtain rfl : args = #[v0, v1] := by cases args; simp_all
  obtain ⟨rfl, rfl⟩ := trodVars_none hV
  obtain ⟨a0, rfl, rfl, rfl, w0⟩ := open_int Try.underlying21 (hval 0 21 v0 rfl rfl) h0
  obtain ⟨a1, rfl, rfl, rfl, w1⟩ := open_int Try.underlying21 (hval 1 21 v1 rfl rfl) h1
  clear hA0 hval0
  simp only [List.append_nil] at hW'
  refine (walk a0 a1 w0 w1 W).mono fun e W' ⟨he, hg⟩ => ?_
  subst he
  exact ⟨_, rfl, post_of_same (pa := []) (pv := []) hW' (fun _ _ _ => (trodAll_cons_mk (shut_bool Try.underlying4 _) trodAll_mk0)) (fun sp _ => (trodAll_cons_mk (shut_int Try.underlying21 w0) (trodAll_cons_mk (shut_int Try.underlying21 w1) trodAll_mk0))) (fun _ _ => rfl) rfl
    (hg.frame _) hg.2.1 (ok_one (by kernel_rfl) rfl (okWide_bool_mk Try.underlying4 _))⟩
theorem over : Rows.fnAbsSquareRow.holds Try.pinned (OpenSpec.ofChange Rows.fnAbsSquareSpec) :=
  OpenClaim.holds_of_wide 6 Try.f6 rfl rfl rfl rfl rfl rfl rfl ⟨rfl, rfl, rfl, rfl, rfl⟩ rfl rfl rfl rfl rfl (by kernel_rfl) Try.func6 (by kernel_rfl)
    (of_decide_eq_true (by kernel_rfl)) (by unfold Func.isWrapper; first | (rw [if_pos (by decide +kernel)]; kernel_rfl) | (rw [if_neg (by decide +kernel)]; exact ⟨rfl, rfl⟩))
    (fun os started H enc _ => lifted os started H enc)
/-- The given statement. -/
theorem proved : Rows.FnAbsSquareSaid := over
end Go.Proofs.Ytojjlkmeicdeeaa.fnAbsSquare

/- Proved: for every two 32-bit integers: the root of the square of a + bi, with whole parts up to 2^12 and a above 0, is near a + bi, each part by a part 2^-40 of the sum of the sizes. No condition. -/
import Derived.Test.YtojjlkmeicdeeaaRows
import Derived.Test.YtojjlkmeicdeeaaSqrtMore
import Derived.Test.YtojjlkmeicdeeaaFrame
set_option linter.unusedSimpArgs false
set_option linter.unusedVariables false
namespace Go.Proofs.Ytojjlkmeicdeeaa.fnSqrtSquare
open Go.ChangeShapes Go.WideShapes Go.ChangeAt Go.RowKit F64

/-- The values: from the parts to the words of the test. -/
theorem close {a b c d M x y : Nat} {P Q h A D : Rat} (fa : Fi a) (wa : Wd a) (fb : Fi b) (wb : Wd b) (fc : Fi c) (fd : Fi d) (fM : Fi M) (wM : Wd M) (sM : sg M = false)
    (P0 : 1 ≤ P) (Q0 : 0 ≤ Q) (va : val a = P) (vb : val b = pm (sg b) * Q) (vx : val x = P * P - Q * Q) (vy : val (rg y) = 2 * P * Q) (sy : sg y = sg b) (vM : val M = (P + Q) * (1 / 1099511627776))
    (K : Core (val (rg x)) (val (rg y)) h A D) (k1 : sg x = false → val c = A ∧ val d = pm (sg y) * D) (k2 : sg x = true → val c = D ∧ val d = pm (sg y) * A) :
    ∃ e1 e2, fsub c a = some e1 ∧ fsub d b = some e2 ∧ Wd e1 ∧ Wd e2 ∧ fle (sizeW e1) M = true ∧ fle (sizeW e2) M = true := by
  have x0 := rv_nonneg (rg x)
  rw [← val_rg] at x0
  have all : (Rel P (val c) (13 / 9007199254740992)) ∧ ∃ z, val d = pm (sg b) * z ∧ Rel Q z (13 / 9007199254740992) := by
    rw [val_size x] at vx
    cases hs : sg x
    · obtain ⟨e1, e2⟩ := k1 hs
      rw [hs] at vx
      have ex : val (rg x) = P * P - Q * Q := by rw [← vx]; unfold pm; simp
      have hle : Q ≤ P := le_of_mul_self (by grind) (by grind)
      obtain ⟨r1, r2⟩ := K.square (by grind) Q0 hle ex vy
      rw [e1, e2, sy]
      exact ⟨r1.mono (by grind) (by decide +kernel), D, rfl, r2⟩
    · obtain ⟨e1, e2⟩ := k2 hs
      rw [hs] at vx
      have ex : val (rg x) = Q * Q - P * P := by unfold pm at vx; simp at vx; grind
      have hle : P ≤ Q := le_of_mul_self (by grind) (by grind)
      obtain ⟨r1, r2⟩ := K.square (P := Q) (Q := P) (by grind) (by grind) hle ex (by rw [vy]; grind)
      rw [e1, e2, sy]
      exact ⟨r2, A, rfl, r1.mono (by grind) (by decide +kernel)⟩
  obtain ⟨⟨c1, c2⟩, z, vd, d1, d2⟩ := all
  obtain ⟨e1, f1, w1, _, g1⟩ := sub_size fc fa wa fM.num wM sM (by rw [vM, va]; grind) (by rw [vM, va]; grind)
  obtain ⟨e2, f2, w2, _, g2⟩ := sub_size fd fb wb fM.num wM sM (by rw [vM, vd, vb]; unfold pm; cases sg b <;> simp <;> grind) (by rw [vM, vd, vb]; unfold pm; cases sg b <;> simp <;> grind)
  exact ⟨e1, e2, f1, f2, w1, w2, g1, g2⟩

def Good (a b c d M : Nat) : Prop := ∃ e1 e2, fsub c a = some e1 ∧ fsub d b = some e2 ∧ Wd e1 ∧ Wd e2 ∧ fle (sizeW e1) M = true ∧ fle (sizeW e2) M = true
theorem words {a b p : Nat} {q : Int} (ia : IsNW a p) (p1 : 1 ≤ p) (p2 : p ≤ 4097) (wb : Wd b) (fb : Fi b) (vb : val b = (q : Rat)) (q2 : q.natAbs ≤ 4096) :
    ∃ aa bb x a2 y S M, fmul a a = some aa ∧ fmul b b = some bb ∧ fsub aa bb = some x ∧ fmul 4611686018427387904 a = some a2 ∧ fmul a2 b = some y ∧ fadd a (sizeW b) = some S ∧ fmul S (powW (-40)) = some M ∧ Wd x ∧ Wd y ∧
      ∀ c d, SqrtRel x y c d → Good a b c d M := by
  have hBv : B = 4503599627370496 := rfl
  have pp : p * p ≤ 16785409 := Nat.mul_le_mul p2 p2
  have qq : q.natAbs * q.natAbs ≤ 16777216 := Nat.mul_le_mul q2 q2
  have pq : p * q.natAbs ≤ 16781312 := Nat.mul_le_mul p2 q2
  obtain ⟨aa, e1, i1⟩ := sq_word (x := a) (n := (p : Int)) ia.fi (by rw [ia.v, Rat.intCast_natCast]) (by rw [Int.natAbs_natCast]; omega)
  rw [Int.natAbs_natCast] at i1
  obtain ⟨bb, e2, i2⟩ := sq_word (x := b) (n := q) fb vb (by omega)
  obtain ⟨x, e3, Rx⟩ := fsub_rnd i1.fi i2.fi i2.wd
  have ex : val aa - val bb = (((p * p : Nat) : Int) - ((q.natAbs * q.natAbs : Nat) : Int) : Int) := by
    rw [i1.v, i2.v, Rat.intCast_sub, Rat.intCast_natCast, Rat.intCast_natCast]
  rw [ex] at Rx
  obtain ⟨vx, fx⟩ := Rx.int (by omega)
  obtain ⟨a2, e4, R4, s4⟩ := mul_rnd fin_TWO ia.fi
  rw [val_TWO, ia.v, show (2 : Rat) * (p : Rat) = ((2 * p : Nat) : Rat) from by rw [Rat.natCast_mul]; rfl] at R4
  rw [show sg 4611686018427387904 = false from by decide, ia.sgn] at s4
  obtain ⟨v4, f4⟩ := R4.nat (by omega)
  obtain ⟨y, e5, R5, s5⟩ := mul_rnd f4 fb
  have s5 : sg y = sg b := by rw [s5, s4]; cases sg b <;> rfl
  have ey : val a2 * val b = ((2 * (p : Int) * q : Int) : Rat) := by
    rw [v4, vb, ← Rat.intCast_natCast, ← Rat.intCast_mul]; rfl
  rw [ey] at R5
  have ny : (2 * (p : Int) * q).natAbs = 2 * (p * q.natAbs) := by
    rw [Int.natAbs_mul, Int.natAbs_mul, Int.natAbs_natCast, Nat.mul_assoc]; rfl
  obtain ⟨vy, f5⟩ := R5.int (by rw [ny]; omega)
  obtain ⟨S, e6, i6⟩ := ia.add (IsNW.size wb fb vb) (by omega)
  obtain ⟨M, e7, wM, fM, sM, vM⟩ := i6.part (k := -40) (by omega) (by omega) (by omega)
  refine ⟨aa, bb, x, a2, y, S, M, e1, e2, e3, e4, e5, e6, e7, Rx.wd, R5.wd, fun c d hr => ?_⟩
  have rx := rv_abs vx
  have ry := rv_abs vy
  rw [ny] at ry
  rw [← val_rg] at rx ry
  have rb := rv_abs vb
  obtain ⟨fc, fd, wc, wd, h, A, D, K, k1, k2⟩ := sqrt_whole (k := 0) Rx.wd R5.wd fx f5 hr (by rw [rx, Rat.zpow_zero, Rat.mul_one]) (by rw [ry, Rat.zpow_zero, Rat.mul_one]) (by omega) (by omega) (by omega) (by
    rintro ⟨h1, h2⟩
    have h3 : p * q.natAbs = 0 := by omega
    rcases Nat.mul_eq_zero.1 h3 with h4 | h4
    · omega
    · rw [h4] at h1
      have : 1 ≤ p * p := Nat.mul_le_mul p1 p1
      omega)
  rw [show (2 : Rat) ^ (-40 : Int) = 1 / 1099511627776 from by decide +kernel, Rat.natCast_add] at vM
  have P0 : (1 : Rat) ≤ (p : Rat) := by
    have : ((1 : Nat) : Rat) ≤ (p : Rat) := Rat.natCast_le_natCast.2 p1
    exact this
  refine close (P := (p : Rat)) (Q := (q.natAbs : Rat)) ia.fi ia.wd fb wb fc fd fM wM sM P0 Rat.natCast_nonneg ia.v (by rw [val_pm, rb]) ?_ ?_ s5 vM K k1 k2
  · rw [vx, Rat.intCast_sub, Rat.intCast_natCast, Rat.intCast_natCast, Rat.natCast_mul, Rat.natCast_mul]
  · rw [ry, Rat.natCast_mul, Rat.natCast_mul, ← Rat.mul_assoc]; rfl

set_option maxRecDepth 100000 in
theorem walk_core (n m : Int) (a0 s0 a b aa bb x a2 y S M : Nat) (w : World) (n1 : -2147483648 ≤ n) (n2 : n ≤ 2147483647) (m1 : -2147483648 ≤ m) (m2 : m ≤ 2147483647) (ga : wholeW n 4096 = a0) (gb : wholeW m 4096 = b) (w0 : Wd a0) (wb : Wd b)
    (g0 : sizeW a0 = s0) (g1 : fadd 4607182418800017408 s0 = some a) (wa : Wd a)
    (e1 : fmul a a = some aa) (e2 : fmul b b = some bb) (e3 : fsub aa bb = some x) (e4 : fmul 4611686018427387904 a = some a2) (e5 : fmul a2 b = some y) (e6 : fadd a (sizeW b) = some S) (e7 : fmul S (powW (-40)) = some M) (wx : Wd x) (wy : Wd y)
    (H : Hid (∀ c d, SqrtRel x y c d → Good a b c d M)) :
    Calls Try.prog 12 #[.int .i32 n, .int .i32 m] w fun e w' => e = .returned (.bool true) ∧ Grown w w' := by
  go_enter Try.func12, Try.ntmps12
  go_wp2_with (first | (go_at_call 23; refine (whole_any _ _ _ (by assumption) (by assumption) (by omega) (by omega)).mono ?_; rintro e w' ⟨rfl, rfl⟩) | first | (go_at_call 19; refine (isNan_any _ _).mono ?_; rintro e w' ⟨rfl, rfl⟩) | (go_at_call 20; refine (infinity_any _).mono ?_; rintro e w' ⟨rfl, rfl⟩) | (go_at_call 35; refine (isInf_any _ _ (by assumption)).mono ?_; rintro e w' ⟨rfl, rfl⟩) | (go_at_call 17; refine (isFinite_any _ _ (by assumption)).mono ?_; rintro e w' ⟨rfl, rfl⟩) | (go_at_call 31; refine (minus_any _ _ (by assumption)).mono ?_; rintro e w' ⟨rfl, rfl⟩) | (go_at_call 26; refine (size_any _ _ (by assumption)).mono ?_; rintro e w' ⟨rfl, rfl⟩) | (go_at_call 32; refine (like_any _ _ _ (by assumption) (by assumption)).mono ?_; rintro e w' ⟨rfl, rfl⟩) | (go_at_call 22; refine (same_any _ _ _ (by assumption) (by assumption)).mono ?_; rintro e w' ⟨rfl, rfl⟩) | (go_at_call 21; refine (conj_any _ _ _).mono ?_; rintro e w' ⟨rfl, rfl⟩) | (go_at_call 15; refine (isInf2_any _ _ _ (by assumption) (by assumption)).mono ?_; rintro e w' ⟨rfl, rfl⟩) | (go_at_call 16; refine (isNaN2_any _ _ _ (by assumption) (by assumption)).mono ?_; rintro e w' ⟨rfl, rfl⟩) | (go_at_call 18; refine (abs_any _ _ _).mono ?_; rintro e w' ⟨rfl, rfl⟩) | (go_at_call 27; refine (realHypot_any _ _ _).mono ?_; rintro e w' ⟨rfl, rfl⟩) | (go_at_call 54; refine (mAbs_any _ _ (by assumption)).mono ?_; rintro e w' ⟨rfl, rfl⟩))
  refine (sqrt2_any _ _ _ wx wy).mono ?_
  rintro e w' ⟨c, d, nn, hr, wc, wd, rfl, rfl⟩
  obtain ⟨f1, f2, h1, h2, h3, h4, h5, h6⟩ := H.out c d hr
  clear hr H
  go_wp2_with (first | (go_at_call 24; refine (bound_any _ _ (by omega) (by omega)).mono ?_; rintro e w' ⟨rfl, rfl⟩) | first | (go_at_call 19; refine (isNan_any _ _).mono ?_; rintro e w' ⟨rfl, rfl⟩) | (go_at_call 20; refine (infinity_any _).mono ?_; rintro e w' ⟨rfl, rfl⟩) | (go_at_call 35; refine (isInf_any _ _ (by assumption)).mono ?_; rintro e w' ⟨rfl, rfl⟩) | (go_at_call 17; refine (isFinite_any _ _ (by assumption)).mono ?_; rintro e w' ⟨rfl, rfl⟩) | (go_at_call 31; refine (minus_any _ _ (by assumption)).mono ?_; rintro e w' ⟨rfl, rfl⟩) | (go_at_call 26; refine (size_any _ _ (by assumption)).mono ?_; rintro e w' ⟨rfl, rfl⟩) | (go_at_call 32; refine (like_any _ _ _ (by assumption) (by assumption)).mono ?_; rintro e w' ⟨rfl, rfl⟩) | (go_at_call 22; refine (same_any _ _ _ (by assumption) (by assumption)).mono ?_; rintro e w' ⟨rfl, rfl⟩) | (go_at_call 21; refine (conj_any _ _ _).mono ?_; rintro e w' ⟨rfl, rfl⟩) | (go_at_call 15; refine (isInf2_any _ _ _ (by assumption) (by assumption)).mono ?_; rintro e w' ⟨rfl, rfl⟩) | (go_at_call 16; refine (isNaN2_any _ _ _ (by assumption) (by assumption)).mono ?_; rintro e w' ⟨rfl, rfl⟩) | (go_at_call 18; refine (abs_any _ _ _).mono ?_; rintro e w' ⟨rfl, rfl⟩) | (go_at_call 27; refine (realHypot_any _ _ _).mono ?_; rintro e w' ⟨rfl, rfl⟩) | (go_at_call 54; refine (mAbs_any _ _ (by assumption)).mono ?_; rintro e w' ⟨rfl, rfl⟩))
  go_ret
  exact ⟨rfl, grown_drewN _ _⟩
theorem walk (n m : Int) (wn : (Lit.int .i32 n).wf = true) (wm : (Lit.int .i32 m).wf = true) (w : World) :
    Calls Try.prog 12 #[.int .i32 n, .int .i32 m] w fun e w' => e = .returned (.bool true) ∧ Grown w w' := by
  obtain ⟨n1, n2⟩ := i32_of_wf wn
  obtain ⟨m1, m2⟩ := i32_of_wf wm
  have hBv : B = 4503599627370496 := rfl
  have b1 := tmod_bound n 4097 (by omega)
  have b2 := tmod_bound m 4097 (by omega)
  obtain ⟨p1, p2, p3, _⟩ := ofInt_spec (n := n.tmod 4097) (by omega)
  obtain ⟨q1, q2, q3, _⟩ := ofInt_spec (n := m.tmod 4097) (by omega)
  have iOne : IsNW 4607182418800017408 1 := ⟨by unfold Wd; decide, by unfold Fi; decide, by decide, by decide +kernel⟩
  obtain ⟨a, ea, ia⟩ := iOne.add (IsNW.size p1 p2 p3) (by omega)
  obtain ⟨aa, bb, x, a2, y, S, M, e1, e2, e3, e4, e5, e6, e7, wx, wy, H⟩ := words ia (by omega) (by omega) q1 q2 q3 (by omega)
  exact walk_core n m _ _ a _ aa bb x a2 y S M w n1 n2 m1 m2 rfl rfl p1 q1 rfl ea ia.wd e1 e2 e3 e4 e5 e6 e7 wx wy H

theorem own : ownKnob Try.prog.godebug = none := by kernel_rfl
set_option maxRecDepth 100000 in
theorem lifted (os : Os) (started : os.Started) (H : Type) (enc : TypeId × Value → H) :
    ReturnsInHanded {} Try.checked os 12 .any (Rows.fnSqrtSquareSpec.pre6 enc Try.prog Try.f12 Rows.fnSqrtSquareRow.domain false) (Rows.fnSqrtSquareSpec.post enc Try.prog Try.f12 false true false false) := by
  refine returnsInHanded_of_change (C := Try.checked) own started (by kernel_rfl) Try.func12
    (ChangeSpec.witness6 (enc := enc) (C := Try.checked) false ⟨#[], #[.int .i32 0, .int .i32 0], []⟩ 8 (by kernel_rfl) (by kernel_rfl) (by kernel_rfl) (by kernel_rfl)) ?_
  intro W base args ds gs before hval0 hW hcnd _
  have hval : ∀ (j : Nat) t v, Try.f12.params[j]? = some t → args[j]? = some v → Value.okWide Try.prog W .any base t v := hval0
  have hW' := hW
  obtain ⟨p, q, hA0, hV, rfl, hfz, hnd⟩ := hW
  have hA : DataW.TrodAll enc Try.prog W 0 (fun _ => true) true Try.f12.params.toList args.toList ds p := hA0
  rw [Try.params12] at hA hval
  obtain ⟨v0, vs0, d0, ds0, p0, q0, hargs, rfl, rfl, h0, r0⟩ := trodAll_cons hA
  obtain ⟨v1, vs1, d1, ds1, p1, q1, rfl, rfl, rfl, h1, r1⟩ := trodAll_cons r0
  obtain ⟨rfl, rfl, rfl⟩ := trodAll_nil r1
  obtain rfl : args = #[v0, v1] := by cases args; simp_all
  obtain ⟨rfl, rfl⟩ := trodVars_none hV
  obtain ⟨a0, rfl, rfl, rfl, w0⟩ := open_int Try.underlying21 (hval 0 21 v0 rfl rfl) h0
  obtain ⟨a1, rfl, rfl, rfl, w1⟩ := open_int Try.underlying21 (hval 1 21 v1 rfl rfl) h1
  clear hA0 hval0
  simp only [List.append_nil] at hW'
  refine (walk a0 a1 w0 w1 W).mono fun e W' ⟨he, hg⟩ => ?_
  subst he
  exact ⟨_, rfl, post_of_same (pa := []) (pv := []) hW' (fun _ _ _ => (trodAll_cons_mk (shut_bool Try.underlying4 _) trodAll_mk0)) (fun sp _ => (trodAll_cons_mk (shut_int Try.underlying21 w0) (trodAll_cons_mk (shut_int Try.underlying21 w1) trodAll_mk0))) (fun _ _ => rfl) rfl
    (hg.frame _) hg.2.1 (ok_one (by kernel_rfl) rfl (okWide_bool_mk Try.underlying4 _))⟩
theorem over : Rows.fnSqrtSquareRow.holds Try.pinned (OpenSpec.ofChange Rows.fnSqrtSquareSpec) :=
  OpenClaim.holds_of_wide 12 Try.f12 rfl rfl rfl rfl rfl rfl rfl ⟨rfl, rfl, rfl, rfl, rfl⟩ rfl rfl rfl rfl rfl (by kernel_rfl) Try.func12 (by kernel_rfl)
    (of_decide_eq_true (by kernel_rfl)) (by unfold Func.isWrapper; first | (rw [if_pos (by decide +kernel)]; kernel_rfl) | (rw [if_neg (by decide +kernel)]; exact ⟨rfl, rfl⟩))
    (fun os started H enc _ => lifted os started H enc)
/-- The given statement. -/
theorem proved : Rows.FnSqrtSquareSaid := over
end Go.Proofs.Ytojjlkmeicdeeaa.fnSqrtSquare

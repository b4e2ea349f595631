/- Proved: for every two 32-bit integers: the square of the root of x + yi, with x and y whole numbers up to 2^20, is near x + yi, each part by a part 2^-40 of the sum of the sizes. No condition. -/
import Derived.Test.YtojjlkmeicdeeaaRows
import Derived.Test.YtojjlkmeicdeeaaSqrtAll
import Derived.Test.YtojjlkmeicdeeaaFrame
set_option linter.unusedSimpArgs false
set_option linter.unusedVariables false
namespace Go.Proofs.Ytojjlkmeicdeeaa.fnSqrtBack
open Go.ChangeShapes Go.WideShapes Go.ChangeAt Go.RowKit F64

/-- The steps of the test. -/
def Good (x y a b : Nat) : Prop := ∃ S M aa bb dd ee a2 ab ff, fadd (sizeW x) (sizeW y) = some S ∧ fmul S (powW (-40)) = some M ∧ fmul a a = some aa ∧ fmul b b = some bb ∧ fsub aa bb = some dd ∧ fsub dd x = some ee ∧ Wd ee ∧ fle (sizeW ee) M = true ∧
      fmul 4611686018427387904 a = some a2 ∧ fmul a2 b = some ab ∧ fsub ab y = some ff ∧ Wd ff ∧ fle (sizeW ff) M = true
theorem plain {n m : Int} (hn : n.natAbs ≤ 1048576) (hm : m.natAbs ≤ 1048576) {a b : Nat} (hr : SqrtRel (floatOfInt .f64 n) (floatOfInt .f64 m) a b) : Good (floatOfInt .f64 n) (floatOfInt .f64 m) a b := by
  have hBv : B = 4503599627370496 := rfl
  by_cases h0 : n = 0 ∧ m = 0
  · obtain ⟨rfl, rfl⟩ := h0
    have e : floatOfInt .f64 0 = 0 := by decide +kernel
    rw [e] at hr ⊢
    unfold SqrtRel at hr
    have c : feq 0 0 = true := by decide +kernel
    simp only [c, Bool.false_eq_true, false_and, false_or, true_and, Bool.true_eq_false, or_false] at hr
    obtain ⟨rfl, rfl⟩ := hr
    exact ⟨0, 0, 0, 0, 0, 0, 0, 0, 0, by decide +kernel, by decide +kernel, by decide +kernel, by decide +kernel, by decide +kernel, by decide +kernel, by unfold Wd; decide, by decide +kernel, by decide +kernel, by decide +kernel, by decide +kernel, by unfold Wd; decide, by decide +kernel⟩
  · obtain ⟨wx, fx, vx, _⟩ := ofInt_spec (n := n) (by omega)
    obtain ⟨wy, fy, vy, _⟩ := ofInt_spec (n := m) (by omega)
    obtain ⟨sx1, sx2, sx3, sx4⟩ := sizeInt_spec (n := n) (by omega)
    obtain ⟨sy1, sy2, sy3, sy4⟩ := sizeInt_spec (n := m) (by omega)
    have rx := rv_abs vx
    have ry := rv_abs vy
    generalize floatOfInt .f64 n = x at *
    generalize floatOfInt .f64 m = y at *
    have ix : IsNW (sizeW x) n.natAbs := ⟨sx1, sx2, sx3, sx4⟩
    have iy : IsNW (sizeW y) m.natAbs := ⟨sy1, sy2, sy3, sy4⟩
    obtain ⟨S, eS, iS⟩ := ix.add iy (by omega)
    obtain ⟨M, eM, wM, fM, sM, vM⟩ := iS.part (k := -40) (by omega) (by omega) (by omega)
    rw [← val_rg] at rx ry
    obtain ⟨fa, fb, wa, wb, h, A, D, K, k1, k2⟩ := sqrt_whole (n := n.natAbs) (m := m.natAbs) (k := 0) wx wy fx fy hr (by rw [rx]; simp) (by rw [ry]; simp) (by omega) (by omega) (by omega) (by omega)
    have hS : val S = val (rg x) + val (rg y) := by rw [iS.v, rx, ry, Rat.natCast_add]
    have S1 : 1 ≤ val S := by
      rw [iS.v]
      have : ((1 : Nat) : Rat) ≤ ((n.natAbs + m.natAbs : Nat) : Rat) := Rat.natCast_le_natCast.2 (by omega)
      exact this
    have S2 : val S ≤ 4194304 := by
      rw [iS.v]
      have : ((n.natAbs + m.natAbs : Nat) : Rat) ≤ ((4194304 : Nat) : Rat) := Rat.natCast_le_natCast.2 (by omega)
      exact this
    obtain ⟨p1, p2, q1, q2, ba, bb⟩ := back_core K k1 k2 hS (by grind)
    rw [← iS.v, show (2 : Rat) ^ (-40 : Int) = 1 / 1099511627776 from by decide +kernel] at vM
    obtain ⟨aa, bb', dd, ee, a2, ab, ff, r⟩ := back_words wx wy wa wb fx fy fa fb wM fM.num sM vM S1 S2 p1 p2 q1 q2 ba bb
    exact ⟨S, M, aa, bb', dd, ee, a2, ab, ff, eS, eM, r⟩

set_option maxRecDepth 100000 in
theorem walk_core (n m : Int) (x y : Nat) (w : World) (n1 : -2147483648 ≤ n) (n2 : n ≤ 2147483647) (m1 : -2147483648 ≤ m) (m2 : m ≤ 2147483647) (gx : wholeW n 1048576 = x) (gy : wholeW m 1048576 = y) (wx : Wd x) (wy : Wd y)
    (H : Hid (∀ a b, SqrtRel x y a b → Good x y a b)) :
    Calls Try.prog 9 #[.int .i32 n, .int .i32 m] w fun e w' => e = .returned (.bool true) ∧ Grown w w' := by
  go_enter Try.func9, Try.ntmps9
  go_wp2_with (first | (go_at_call 23; refine (whole_any _ _ _ (by assumption) (by assumption) (by omega) (by omega)).mono ?_; rintro e w' ⟨rfl, rfl⟩))
  refine (sqrt2_any _ _ _ wx wy).mono ?_
  rintro e w' ⟨a, b, nn, hr, wa, wb, rfl, rfl⟩
  obtain ⟨S, M, aa, bb, dd, ee, a2, ab, ff, e1, e2, e3, e4, e5, e6, e7, e8, e9, e10, e11, e12, e13⟩ := H.out a b hr
  clear hr H
  go_wp2_with (first | (go_at_call 24; refine (bound_any _ _ (by omega) (by omega)).mono ?_; rintro e w' ⟨rfl, rfl⟩) | first | (go_at_call 19; refine (isNan_any _ _).mono ?_; rintro e w' ⟨rfl, rfl⟩) | (go_at_call 20; refine (infinity_any _).mono ?_; rintro e w' ⟨rfl, rfl⟩) | (go_at_call 35; refine (isInf_any _ _ (by assumption)).mono ?_; rintro e w' ⟨rfl, rfl⟩) | (go_at_call 17; refine (isFinite_any _ _ (by assumption)).mono ?_; rintro e w' ⟨rfl, rfl⟩) | (go_at_call 31; refine (minus_any _ _ (by assumption)).mono ?_; rintro e w' ⟨rfl, rfl⟩) | (go_at_call 26; refine (size_any _ _ (by assumption)).mono ?_; rintro e w' ⟨rfl, rfl⟩) | (go_at_call 32; refine (like_any _ _ _ (by assumption) (by assumption)).mono ?_; rintro e w' ⟨rfl, rfl⟩) | (go_at_call 22; refine (same_any _ _ _ (by assumption) (by assumption)).mono ?_; rintro e w' ⟨rfl, rfl⟩) | (go_at_call 21; refine (conj_any _ _ _).mono ?_; rintro e w' ⟨rfl, rfl⟩) | (go_at_call 15; refine (isInf2_any _ _ _ (by assumption) (by assumption)).mono ?_; rintro e w' ⟨rfl, rfl⟩) | (go_at_call 16; refine (isNaN2_any _ _ _ (by assumption) (by assumption)).mono ?_; rintro e w' ⟨rfl, rfl⟩) | (go_at_call 18; refine (abs_any _ _ _).mono ?_; rintro e w' ⟨rfl, rfl⟩) | (go_at_call 27; refine (realHypot_any _ _ _).mono ?_; rintro e w' ⟨rfl, rfl⟩) | (go_at_call 54; refine (mAbs_any _ _ (by assumption)).mono ?_; rintro e w' ⟨rfl, rfl⟩))
  go_ret
  exact ⟨rfl, grown_drewN _ _⟩
theorem walk (n m : Int) (wn : (Lit.int .i32 n).wf = true) (wm : (Lit.int .i32 m).wf = true) (w : World) :
    Calls Try.prog 9 #[.int .i32 n, .int .i32 m] w fun e w' => e = .returned (.bool true) ∧ Grown w w' := by
  obtain ⟨n1, n2⟩ := i32_of_wf wn
  obtain ⟨m1, m2⟩ := i32_of_wf wm
  have hBv : B = 4503599627370496 := rfl
  have b1 := tmod_bound n 1048577 (by omega)
  have b2 := tmod_bound m 1048577 (by omega)
  obtain ⟨p1, p2, p3, _⟩ := ofInt_spec (n := n.tmod 1048577) (by omega)
  obtain ⟨q1, q2, q3, _⟩ := ofInt_spec (n := m.tmod 1048577) (by omega)
  exact walk_core n m _ _ w n1 n2 m1 m2 rfl rfl p1 q1 (fun a b hr => plain (n := n.tmod 1048577) (m := m.tmod 1048577) (by omega) (by omega) hr)

theorem own : ownKnob Try.prog.godebug = none := by kernel_rfl
set_option maxRecDepth 100000 in
theorem lifted (os : Os) (started : os.Started) (H : Type) (enc : TypeId × Value → H) :
    ReturnsInHanded {} Try.checked os 9 .any (Rows.fnSqrtBackSpec.pre6 enc Try.prog Try.f9 Rows.fnSqrtBackRow.domain false) (Rows.fnSqrtBackSpec.post enc Try.prog Try.f9 false true false false) := by
  refine returnsInHanded_of_change (C := Try.checked) own started (by kernel_rfl) Try.func9
    (ChangeSpec.witness6 (enc := enc) (C := Try.checked) false ⟨#[], #[.int .i32 0, .int .i32 0], []⟩ 8 (by kernel_rfl) (by kernel_rfl) (by kernel_rfl) (by kernel_rfl)) ?_
  intro W base args ds gs before hval0 hW hcnd _
  have hval : ∀ (j : Nat) t v, Try.f9.params[j]? = some t → args[j]? = some v → Value.okWide Try.prog W .any base t v := hval0
  have hW' := hW
  obtain ⟨p, q, hA0, hV, rfl, hfz, hnd⟩ := hW
  have hA : DataW.TrodAll enc Try.prog W 0 (fun _ => true) true Try.f9.params.toList args.toList ds p := hA0
  rw [Try.params9] at hA hval
  obtain ⟨v0, vs0, d0, ds0, p0, q0, hargs, rfl, rfl, h0, r0⟩ := trodAll_cons hA
  obtain ⟨v1, vs1, d1, ds1, p1, q1, rfl, rfl, rfl, h1, r1⟩ := trodAll_cons r0
  obtain ⟨rfl, rfl, rfl⟩ := trodAll_nil r1
  obtain rfl : args = #[v0, v1] := by cases args; simp_all
  obtain ⟨rfl, rfl⟩ := trodVars_none hV
  obtain ⟨a0, rfl, rfl, rfl, w0⟩ := open_int Try.underlying21 (hval 0 21 v0 rfl rfl) h0
  obtain ⟨a1, rfl, rfl, rfl, w1⟩ := open_int Try.underlying21 (hval 1 21 v1 rfl rfl) h1
  clear hA0 hval0
  simp only [List.append_nil] at hW'
  refine (walk a0 a1 w0 w1 W).mono fun e W' ⟨he, hg⟩ => ?_
  subst he
  exact ⟨_, rfl, post_of_same (pa := []) (pv := []) hW' (fun _ _ _ => (trodAll_cons_mk (shut_bool Try.underlying4 _) trodAll_mk0)) (fun sp _ => (trodAll_cons_mk (shut_int Try.underlying21 w0) (trodAll_cons_mk (shut_int Try.underlying21 w1) trodAll_mk0))) (fun _ _ => rfl) rfl
    (hg.frame _) hg.2.1 (ok_one (by kernel_rfl) rfl (okWide_bool_mk Try.underlying4 _))⟩
theorem over : Rows.fnSqrtBackRow.holds Try.pinned (OpenSpec.ofChange Rows.fnSqrtBackSpec) :=
  OpenClaim.holds_of_wide 9 Try.f9 rfl rfl rfl rfl rfl rfl rfl ⟨rfl, rfl, rfl, rfl, rfl⟩ rfl rfl rfl rfl rfl (by kernel_rfl) Try.func9 (by kernel_rfl)
    (of_decide_eq_true (by kernel_rfl)) (by unfold Func.isWrapper; first | (rw [if_pos (by decide +kernel)]; kernel_rfl) | (rw [if_neg (by decide +kernel)]; exact ⟨rfl, rfl⟩))
    (fun os started H enc _ => lifted os started H enc)
/-- The given statement. -/
theorem proved : Rows.FnSqrtBackSaid := over
end Go.Proofs.Ytojjlkmeicdeeaa.fnSqrtBack

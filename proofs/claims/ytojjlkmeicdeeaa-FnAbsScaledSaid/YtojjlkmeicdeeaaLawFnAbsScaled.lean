/- Proved: for every two 32-bit integers and every power of 2 from -900 to 900: the absolute value of a number with whole parts up to 2^30, times the power, is that of the number times the power; and it is above 0 if a part is not 0. No condition. -/
import Derived.Test.YtojjlkmeicdeeaaRows
import Derived.Test.YtojjlkmeicdeeaaScaleInt
import Derived.Test.YtojjlkmeicdeeaaFrame
set_option linter.unusedSimpArgs false
set_option linter.unusedVariables false
namespace Go.Proofs.Ytojjlkmeicdeeaa.fnAbsScaled
open Go.ChangeShapes Go.WideShapes Go.ChangeAt Go.RowKit F64

theorem plain {x y : Nat} {n m k : Int} (wx : Wd x) (wy : Wd y) (fx : Fi x) (fy : Fi y) (vx : val x = (n : Rat)) (vy : val y = (m : Rat)) (hn : n.natAbs ≤ 1073741824) (hm : m.natAbs ≤ 1073741824) (h1 : -900 ≤ k) (h2 : k ≤ 900) :
    ∃ x' y' z, fmul x (powW k) = some x' ∧ fmul y (powW k) = some y' ∧ fmul (hypotW x y) (powW k) = some z ∧ feq (hypotW x' y') z = true ∧
      ((feq x 0 = true ∧ feq y 0 = true) ∨ (feq x 0 = false ∧ fgt (hypotW x y) 0 = true) ∨ (feq x 0 = true ∧ feq y 0 = false ∧ fgt (hypotW x y) 0 = true)) := by
  obtain ⟨x', ex, wx', fx', _, rx, rx'⟩ := scaled_int fx vx hn h1 h2
  obtain ⟨y', ey, wy', fy', _, ry, ry'⟩ := scaled_int fy vy hm h1 h2
  have e0 : ∀ N : Nat, (N : Rat) = (N : Rat) * (2 : Rat) ^ (0 : Int) := fun N => by rw [Rat.zpow_zero, Rat.mul_one]
  have mx : rv (rg x) ≤ P1022 := by rw [rx, e0]; exact (pow_bounds (by omega) (by omega) _ hn).1
  have my : rv (rg y) ≤ P1022 := by rw [ry, e0]; exact (pow_bounds (by omega) (by omega) _ hm).1
  have mx' : rv (rg x') ≤ P1022 := by rw [rx']; exact (pow_bounds h1 h2 _ hn).1
  have my' : rv (rg y') ≤ P1022 := by rw [ry']; exact (pow_bounds h1 h2 _ hm).1
  have hs := hypotW_scaled (k := k) fx fy fx' fy' (by rw [rx, rx']) (by rw [ry, ry'])
    (whole_rung (N := n.natAbs) (k := 0) (by omega) (by rw [rx, ← e0])) (whole_rung (N := m.natAbs) (k := 0) (by omega) (by rw [ry, ← e0])) (whole_rung h1 rx') (whole_rung h1 ry') mx my mx' my'
  have fh := hypotW_fi fx fy mx my
  have fh' := hypotW_fi fx' fy' mx' my'
  obtain ⟨p1, p2, p3, p4, p5⟩ := powW_spec (k := k) (by omega) (by omega)
  obtain ⟨z, ez, Rz, _⟩ := mul_rnd fh p2
  have vz := Rz.exact fh'.num (by rw [hs, p5])
  refine ⟨x', y', z, ex, ey, ez, ?_, ?_⟩
  · rw [feq_val fh'.num Rz.num, vz, hs, p5]; simp
  · rw [feq_zero, feq_zero]
    by_cases a1 : rg x = 0 <;> by_cases a2 : rg y = 0
    · left; simp [a1, a2]
    · right; right
      refine ⟨by simp [a1], by simp [a2], ?_⟩
      rw [fgt_val fh.num num_zero, val_zero]
      simpa using hypotW_pos fx fy (fun h => a2 h.2)
    · right; left
      refine ⟨by simp [a1], ?_⟩
      rw [fgt_val fh.num num_zero, val_zero]
      simpa using hypotW_pos fx fy (fun h => a1 h.1)
    · right; left
      refine ⟨by simp [a1], ?_⟩
      rw [fgt_val fh.num num_zero, val_zero]
      simpa using hypotW_pos fx fy (fun h => a1 h.1)

set_option maxRecDepth 100000 in
theorem walk_core (n m k : Int) (x y x' y' z : Nat) (w : World) (n1 : -2147483648 ≤ n) (n2 : n ≤ 2147483647) (m1 : -2147483648 ≤ m) (m2 : m ≤ 2147483647) (k1 : -900 ≤ k) (k2 : k ≤ 900) (gx : wholeW n 1073741824 = x) (gy : wholeW m 1073741824 = y)
    (e1 : fmul x (powW k) = some x') (e2 : fmul y (powW k) = some y') (e3 : fmul (hypotW x y) (powW k) = some z) (e4 : feq (hypotW x' y') z = true)
    (c : (feq x 0 = true ∧ feq y 0 = true) ∨ (feq x 0 = false ∧ fgt (hypotW x y) 0 = true) ∨ (feq x 0 = true ∧ feq y 0 = false ∧ fgt (hypotW x y) 0 = true)) :
    Calls Try.prog 5 #[.int .i32 n, .int .i32 m, .int .i64 k] w fun e w' => e = .returned (.bool true) ∧ Grown w w' := by
  rcases c with ⟨c1, c2⟩ | ⟨c1, c2⟩ | ⟨c1, c2, c3⟩
  all_goals
    go_enter Try.func5, Try.ntmps5
    go_wp2_with (first | (go_at_call 23; refine (whole_any _ _ _ (by assumption) (by assumption) (by omega) (by omega)).mono ?_; rintro e w' ⟨rfl, rfl⟩) | (go_at_call 24; refine (bound_any _ _ (by omega) (by omega)).mono ?_; rintro e w' ⟨rfl, rfl⟩) | first | (go_at_call 19; refine (isNan_any _ _).mono ?_; rintro e w' ⟨rfl, rfl⟩) | (go_at_call 20; refine (infinity_any _).mono ?_; rintro e w' ⟨rfl, rfl⟩) | (go_at_call 35; refine (isInf_any _ _ (by assumption)).mono ?_; rintro e w' ⟨rfl, rfl⟩) | (go_at_call 17; refine (isFinite_any _ _ (by assumption)).mono ?_; rintro e w' ⟨rfl, rfl⟩) | (go_at_call 31; refine (minus_any _ _ (by assumption)).mono ?_; rintro e w' ⟨rfl, rfl⟩) | (go_at_call 26; refine (size_any _ _ (by assumption)).mono ?_; rintro e w' ⟨rfl, rfl⟩) | (go_at_call 32; refine (like_any _ _ _ (by assumption) (by assumption)).mono ?_; rintro e w' ⟨rfl, rfl⟩) | (go_at_call 22; refine (same_any _ _ _ (by assumption) (by assumption)).mono ?_; rintro e w' ⟨rfl, rfl⟩) | (go_at_call 21; refine (conj_any _ _ _).mono ?_; rintro e w' ⟨rfl, rfl⟩) | (go_at_call 15; refine (isInf2_any _ _ _ (by assumption) (by assumption)).mono ?_; rintro e w' ⟨rfl, rfl⟩) | (go_at_call 16; refine (isNaN2_any _ _ _ (by assumption) (by assumption)).mono ?_; rintro e w' ⟨rfl, rfl⟩) | (go_at_call 18; refine (abs_any _ _ _).mono ?_; rintro e w' ⟨rfl, rfl⟩) | (go_at_call 27; refine (realHypot_any _ _ _).mono ?_; rintro e w' ⟨rfl, rfl⟩) | (go_at_call 54; refine (mAbs_any _ _ (by assumption)).mono ?_; rintro e w' ⟨rfl, rfl⟩))
    go_ret
    exact ⟨rfl, Grown.refl _⟩
theorem walk (n m k : Int) (wn : (Lit.int .i32 n).wf = true) (wm : (Lit.int .i32 m).wf = true) (wk : (Lit.int .i64 k).wf = true) (w : World) :
    Calls Try.prog 5 #[.int .i32 n, .int .i32 m, .int .i64 k] w fun e w' => e = .returned (.bool true) ∧ Grown w w' := by
  obtain ⟨n1, n2⟩ := i32_of_wf wn
  obtain ⟨m1, m2⟩ := i32_of_wf wm
  by_cases h1 : k < -900
  · clear wn wm wk
    go_enter Try.func5, Try.ntmps5
    go_wp2_with fail
    go_ret
    exact ⟨rfl, Grown.refl _⟩
  · by_cases h2 : 900 < k
    · clear wn wm wk
      go_enter Try.func5, Try.ntmps5
      go_wp2_with fail
      go_ret
      exact ⟨rfl, Grown.refl _⟩
    · have hBv : B = 4503599627370496 := rfl
      have b1 := tmod_bound n 1073741825 (by omega)
      have b2 := tmod_bound m 1073741825 (by omega)
      obtain ⟨p1, p2, p3, _⟩ := ofInt_spec (n := n.tmod 1073741825) (by omega)
      obtain ⟨q1, q2, q3, _⟩ := ofInt_spec (n := m.tmod 1073741825) (by omega)
      obtain ⟨x', y', z, e1, e2, e3, e4, c⟩ := plain (k := k) p1 q1 p2 q2 p3 q3 (by omega) (by omega) (by omega) (by omega)
      exact walk_core n m k _ _ x' y' z w n1 n2 m1 m2 (by omega) (by omega) rfl rfl e1 e2 e3 e4 c

theorem own : ownKnob Try.prog.godebug = none := by kernel_rfl
set_option maxRecDepth 100000 in
theorem lifted (os : Os) (started : os.Started) (H : Type) (enc : TypeId × Value → H) :
    ReturnsInHanded {} Try.checked os 5 .any (Rows.fnAbsScaledSpec.pre6 enc Try.prog Try.f5 Rows.fnAbsScaledRow.domain false) (Rows.fnAbsScaledSpec.post enc Try.prog Try.f5 false true false false) := by
  refine returnsInHanded_of_change (C := Try.checked) own started (by kernel_rfl) Try.func5
    (ChangeSpec.witness6 (enc := enc) (C := Try.checked) false ⟨#[], #[.int .i32 0, .int .i32 0, .int .i64 0], []⟩ 8 (by kernel_rfl) (by kernel_rfl) (by kernel_rfl) (by kernel_rfl)) ?_
  intro W base args ds gs before hval0 hW hcnd _
  have hval : ∀ (j : Nat) t v, Try.f5.params[j]? = some t → args[j]? = some v → Value.okWide Try.prog W .any base t v := hval0
  have hW' := hW
  obtain ⟨p, q, hA0, hV, rfl, hfz, hnd⟩ := hW
  have hA : DataW.TrodAll enc Try.prog W 0 (fun _ => true) true Try.f5.params.toList args.toList ds p := hA0
  rw [Try.params5] at hA hval
  obtain ⟨v0, vs0, d0, ds0, p0, q0, hargs, rfl, rfl, h0, r0⟩ := trodAll_cons hA
  obtain ⟨v1, vs1, d1, ds1, p1, q1, rfl, rfl, rfl, h1, r1⟩ := trodAll_cons r0
  obtain ⟨v2, vs2, d2, ds2, p2, q2, rfl, rfl, rfl, h2, r2⟩ := trodAll_cons r1
  obtain ⟨rfl, rfl, rfl⟩ := trodAll_nil r2
  obtain rfl : args = #[v0, v1, v2] := by cases args; simp_all
  obtain ⟨rfl, rfl⟩ := trodVars_none hV
  obtain ⟨a0, rfl, rfl, rfl, w0⟩ := open_int Try.underlying21 (hval 0 21 v0 rfl rfl) h0
  obtain ⟨a1, rfl, rfl, rfl, w1⟩ := open_int Try.underlying21 (hval 1 21 v1 rfl rfl) h1
  obtain ⟨a2, rfl, rfl, rfl, w2⟩ := open_int Try.underlying3 (hval 2 3 v2 rfl rfl) h2
  clear hA0 hval0
  simp only [List.append_nil] at hW'
  refine (walk a0 a1 a2 w0 w1 w2 W).mono fun e W' ⟨he, hg⟩ => ?_
  subst he
  exact ⟨_, rfl, post_of_same (pa := []) (pv := []) hW' (fun _ _ _ => (trodAll_cons_mk (shut_bool Try.underlying4 _) trodAll_mk0)) (fun sp _ => (trodAll_cons_mk (shut_int Try.underlying21 w0) (trodAll_cons_mk (shut_int Try.underlying21 w1) (trodAll_cons_mk (shut_int Try.underlying3 w2) trodAll_mk0)))) (fun _ _ => rfl) rfl
    (hg.frame _) hg.2.1 (ok_one (by kernel_rfl) rfl (okWide_bool_mk Try.underlying4 _))⟩
theorem over : Rows.fnAbsScaledRow.holds Try.pinned (OpenSpec.ofChange Rows.fnAbsScaledSpec) :=
  OpenClaim.holds_of_wide 5 Try.f5 rfl rfl rfl rfl rfl rfl rfl ⟨rfl, rfl, rfl, rfl, rfl⟩ rfl rfl rfl rfl rfl (by kernel_rfl) Try.func5 (by kernel_rfl)
    (of_decide_eq_true (by kernel_rfl)) (by unfold Func.isWrapper; first | (rw [if_pos (by decide +kernel)]; kernel_rfl) | (rw [if_neg (by decide +kernel)]; exact ⟨rfl, rfl⟩))
    (fun os started H enc _ => lifted os started H enc)
/-- The given statement. -/
theorem proved : Rows.FnAbsScaledSaid := over
end Go.Proofs.Ytojjlkmeicdeeaa.fnAbsScaled

/- Proved: for every 32-bit integer n and every power of 2 from -900 to 900: the absolute values of the multiples of 3 + 4i and 4 - 3i, and the Hypot of -3 and 4, by that number are exactly 5 times its size. No condition. -/
import Derived.Test.YtojjlkmeicdeeaaRows
import Derived.Test.YtojjlkmeicdeeaaMid
import Derived.Test.YtojjlkmeicdeeaaHypotLaws
import Derived.Test.YtojjlkmeicdeeaaWhole
import Derived.Test.YtojjlkmeicdeeaaFrame
set_option linter.unusedSimpArgs false
set_option linter.unusedVariables false
namespace Go.Proofs.Ytojjlkmeicdeeaa.fnAbsTriple
open Go.ChangeShapes Go.WideShapes Go.ChangeAt Go.RowKit F64

theorem hyp34 {X Y : Nat} {v : Rat} (hX : Fi X) (hY : Fi Y) (hv : 0 < v) (h : (rv (rg X) = 3 * v ∧ rv (rg Y) = 4 * v) ∨ (rv (rg X) = 4 * v ∧ rv (rg Y) = 3 * v)) (c : Nat) (hc : Num c) (hcv : val c = 5 * v) :
    val (hypotW X Y) = 5 * v ∧ Num (hypotW X Y) := by
  have h0 : ¬ (rg X = 0 ∧ rg Y = 0) := by
    rintro ⟨h1, h2⟩; rw [h1, h2, rv_zero] at h; grind
  obtain ⟨big, small, r, s, t, q, hb, fb, fs, sb, ss, hb0, hle, H⟩ := hypotW_gen hX hY h0
  have hvb : val big = 4 * v ∧ val small = 3 * v := by
    have hle' := H.le
    have ex := val_rg X
    have ey := val_rg Y
    rcases hb with ⟨e1, e2⟩ | ⟨e1, e2⟩ <;> rw [e1, e2] at hle' ⊢ <;> rcases h with ⟨h1, h2⟩ | ⟨h1, h2⟩ <;> constructor <;> grind
  obtain ⟨b1, b2⟩ := hvb
  have w1 : val 4604930618986332160 = 3 / 4 ∧ Num 4604930618986332160 := ⟨by decide +kernel, by unfold Num; decide⟩
  have w2 : val 4603241769126068224 = 9 / 16 ∧ Num 4603241769126068224 := ⟨by decide +kernel, by unfold Num; decide⟩
  have w3 : val 4609715693590413312 = 25 / 16 ∧ Num 4609715693590413312 := ⟨by decide +kernel, by unfold Num; decide⟩
  have w4 : val 4608308318706860032 = 5 / 4 ∧ Num 4608308318706860032 ∧ sg 4608308318706860032 = false := ⟨by decide +kernel, by unfold Num; decide, by decide⟩
  have e1 : val small / val big = 3 / 4 := by
    rw [b1, b2]
    have h4 : (4 * v) ≠ 0 := by grind
    have : (3 * v) = 3 / 4 * (4 * v) := by grind
    rw [this, Rat.mul_div_cancel h4]
  have v1 : val r = 3 / 4 := by rw [H.r1.exact w1.2 (by rw [w1.1, e1]), e1]
  have v2 : val s = 9 / 16 := by rw [H.r2.exact w2.2 (by rw [w2.1, v1]; grind), v1]; grind
  have v3 : val t = 25 / 16 := by rw [H.r3.exact w3.2 (by rw [w3.1, v2]; grind), v2]; grind
  have v4 : val q = 5 / 4 := by
    have a1 := H.r4.up _ w4.2.1 w4.2.2 (by rw [w4.1, v3]; grind)
    have a2 := H.r4.lo _ w4.2.1 w4.2.2 (by rw [w4.1, v3]; grind)
    rw [w4.1] at a1 a2; grind
  have v5 : val q * val big = 5 * v := by rw [v4, b1]; grind
  exact ⟨by rw [H.r5.exact hc (by rw [hcv, v5]), v5], H.r5.num⟩

theorem pow_bounds {k : Int} (h1 : -900 ≤ k) (h2 : k ≤ 900) (N : Nat) (hN : N < 2 * B) : (N : Rat) * (2 : Rat) ^ k ≤ MAXF := by
  have a1 : (N : Rat) ≤ ((2 * B : Nat) : Rat) := Rat.natCast_le_natCast.2 (by omega)
  have a2 : (2 : Rat) ^ k ≤ (2 : Rat) ^ (900 : Int) := by
    rw [show (900 : Int) = k + ((900 - k).toNat : Int) from by omega, zp_add, zp_nat]
    have : ((1 : Nat) : Rat) ≤ ((2 ^ (900 - k).toNat : Nat) : Rat) := Rat.natCast_le_natCast.2 Nat.one_le_two_pow
    have h := Rat.mul_le_mul_of_nonneg_left this (Rat.le_of_lt (zp_pos k))
    rw [show ((1 : Nat) : Rat) = 1 from rfl, Rat.mul_one] at h
    exact h
  have a3 : ((2 * B : Nat) : Rat) * (2 : Rat) ^ (900 : Int) ≤ MAXF := by unfold MAXF; decide +kernel
  have a4 := Rat.mul_le_mul_of_nonneg_right a1 (Rat.le_of_lt (zp_pos k))
  have a5 := Rat.mul_le_mul_of_nonneg_left a2 (show (0 : Rat) ≤ ((2 * B : Nat) : Rat) from Rat.natCast_nonneg)
  exact Rat.le_trans a4 (Rat.le_trans a5 a3)

/-- A multiple of a power of 2 by a whole number, times a small one. -/
theorem times {c u C N : Nat} {sc : Bool} {su : Bool} {k : Int} (fc : Fi c) (hc : val c = pm sc * (C : Rat)) (fu : Fi u) (hu : val u = pm su * ((N : Rat) * (2 : Rat) ^ k)) (hN : C * N < 2 * B) (h1 : -900 ≤ k) (h2 : k ≤ 900) :
    ∃ z, fmul c u = some z ∧ Wd z ∧ Fi z ∧ rv (rg z) = (C : Rat) * ((N : Rat) * (2 : Rat) ^ k) := by
  obtain ⟨z, e, R, s⟩ := mul_rnd fc fu
  have hv : val c * val u = pm (sc ^^ su) * (((C * N : Nat) : Rat) * (2 : Rat) ^ k) := by
    rw [hc, hu, Rat.natCast_mul]; unfold pm; cases sc <;> cases su <;> simp <;> grind
  obtain ⟨a, b⟩ := R.rep (sc ^^ su) (C * N) k hN (by omega) (pow_bounds h1 h2 _ hN) hv
  refine ⟨z, e, R.wd, b, ?_⟩
  have h0 : (0 : Rat) ≤ (C : Rat) * ((N : Rat) * (2 : Rat) ^ k) := Rat.mul_nonneg Rat.natCast_nonneg (Rat.mul_nonneg Rat.natCast_nonneg (Rat.le_of_lt (zp_pos k)))
  rw [hv, val_pm z, Rat.natCast_mul] at a
  have := rv_nonneg (rg z)
  unfold pm at a
  cases h3 : sg z <;> cases h4 : (sc ^^ su) <;> simp [h3, h4] at a <;> grind

theorem triple {n : Int} {k : Int} (hn : n.natAbs ≤ 2147483648) (h1 : -900 ≤ k) (h2 : k ≤ 900) :
    ∃ u w x3 x4 m3, fmul (floatOfInt .f64 n) (powW k) = some u ∧ Wd u ∧ fmul 4617315517961601024 (sizeW u) = some w ∧ fmul 4613937818241073152 u = some x3 ∧ fmul 4616189618054758400 u = some x4 ∧
      fmul 13837309855095848960 u = some m3 ∧ feq (hypotW x3 x4) w = true ∧ feq (hypotW x4 m3) w = true ∧ feq (hypotW m3 x4) w = true := by
  have hBv : B = 4503599627370496 := rfl
  obtain ⟨w0, f0, v0, s0⟩ := ofInt_spec (n := n) (by omega)
  obtain ⟨p1, p2, p3, p4, p5⟩ := powW_spec (k := k) (by omega) (by omega)
  obtain ⟨u, eu, Ru, su⟩ := mul_rnd f0 p2
  have hv : val (floatOfInt .f64 n) * val (powW k) = pm (decide (n < 0)) * ((n.natAbs : Rat) * (2 : Rat) ^ k) := by
    rw [v0, p5, natAbs_pm n, Rat.zpow_zero, Rat.mul_one, Rat.mul_assoc]
  obtain ⟨vu, fu⟩ := Ru.rep (decide (n < 0)) n.natAbs k (by omega) (by omega) (pow_bounds h1 h2 _ (by omega)) hv
  rw [hv] at vu
  generalize hNN : n.natAbs = N at *
  have hA : (0 : Rat) ≤ (N : Rat) * (2 : Rat) ^ k := Rat.mul_nonneg Rat.natCast_nonneg (Rat.le_of_lt (zp_pos k))
  have hsz : sizeW u = rg u := sizeW_num Ru.wd fu.num
  have vr : val (rg u) = pm false * ((N : Rat) * (2 : Rat) ^ k) := by
    rw [val_rg]
    rw [val_pm u] at vu
    have := rv_nonneg (rg u)
    unfold pm at vu ⊢
    cases h3 : sg u <;> cases h4 : (decide (n < 0)) <;> simp [h3, h4] at vu ⊢ <;> grind
  have fr : Fi (rg u) := by unfold Fi at *; rw [rg_rg]; exact fu
  obtain ⟨w, ew, ww, fw, vw⟩ := times (c := 4617315517961601024) (C := 5) (sc := false) (by unfold Fi; decide) (by decide +kernel) fr vr (by omega) h1 h2
  obtain ⟨x3, e3, w3, f3, v3⟩ := times (c := 4613937818241073152) (C := 3) (sc := false) (by unfold Fi; decide) (by decide +kernel) fu vu (by omega) h1 h2
  obtain ⟨x4, e4, w4, f4, v4⟩ := times (c := 4616189618054758400) (C := 4) (sc := false) (by unfold Fi; decide) (by decide +kernel) fu vu (by omega) h1 h2
  obtain ⟨m3, e5, w5, f5, v5⟩ := times (c := 13837309855095848960) (C := 3) (sc := true) (by unfold Fi; decide) (by decide +kernel) fu vu (by omega) h1 h2
  have sw : sg w = false := by
    have : fmul 4617315517961601024 (rg u) = some w := ew
    obtain ⟨z, ez, _, sz⟩ := mul_rnd (x := 4617315517961601024) (y := rg u) (by unfold Fi; decide) fr
    have hz : fmul 4617315517961601024 (rg u) = some z := ez
    rw [this] at hz
    simp at hz
    rw [hz, sz, sg_rg]; decide
  have vw' : val w = 5 * ((N : Rat) * (2 : Rat) ^ k) := by rw [val_pos_word sw, vw]; rfl
  rw [show ((3 : Nat) : Rat) = 3 from rfl] at v3 v5
  rw [show ((4 : Nat) : Rat) = 4 from rfl] at v4
  refine ⟨u, w, x3, x4, m3, eu, Ru.wd, by rw [hsz]; exact ew, e3, e4, e5, ?_⟩
  by_cases hz : N = 0
  · have z : ∀ {q : Nat} {C : Rat}, rv (rg q) = C * ((N : Rat) * (2 : Rat) ^ k) → rg q = 0 := by
      intro q C h
      rw [hz] at h
      have : rv (rg q) = rv 0 := by rw [h, rv_zero]; simp
      exact rv_inj this
    have z3 := z v3
    have z4 := z v4
    have z5 := z v5
    have zw : val w = 0 := by rw [vw', hz]; simp
    have key : feq 0 w = true := by rw [feq_val num_zero fw.num, val_zero, zw]; rfl
    rw [hypotW_zero z3 z4, hypotW_zero z4 z5, hypotW_zero z5 z4]
    exact ⟨key, key, key⟩
  · have hpos : (0 : Rat) < (N : Rat) * (2 : Rat) ^ k := Rat.mul_pos (Rat.natCast_pos.2 (by omega)) (zp_pos k)
    obtain ⟨a1, a2⟩ := hyp34 f3 f4 hpos (Or.inl ⟨v3, v4⟩) w fw.num vw'
    obtain ⟨b1, b2⟩ := hyp34 f4 f5 hpos (Or.inr ⟨v4, v5⟩) w fw.num vw'
    obtain ⟨c1, c2⟩ := hyp34 f5 f4 hpos (Or.inl ⟨v5, v4⟩) w fw.num vw'
    refine ⟨?_, ?_, ?_⟩
    · rw [feq_val a2 fw.num, a1, vw']; simp
    · rw [feq_val b2 fw.num, b1, vw']; simp
    · rw [feq_val c2 fw.num, c1, vw']; simp

set_option maxRecDepth 100000 in
theorem walk_core (n k : Int) (f u w0 x3 x4 m3 : Nat) (w : World) (h1 : -900 ≤ k) (h2 : k ≤ 900) (g0 : floatOfInt .f64 n = f) (g1 : fmul f (powW k) = some u) (wu : Wd u) (g2 : fmul 4617315517961601024 (sizeW u) = some w0)
    (g3 : fmul 4613937818241073152 u = some x3) (g4 : fmul 4616189618054758400 u = some x4) (g5 : fmul 13837309855095848960 u = some m3)
    (c1 : feq (hypotW x3 x4) w0 = true) (c2 : feq (hypotW x4 m3) w0 = true) (c3 : feq (hypotW m3 x4) w0 = true) :
    Calls Try.prog 7 #[.int .i32 n, .int .i64 k] w fun e w' => e = .returned (.bool true) ∧ Grown w w' := by
  go_enter Try.func7, Try.ntmps7
  go_wp2_with (first | (go_at_call 24; refine (bound_any _ _ (by omega) (by omega)).mono ?_; rintro e w' ⟨rfl, rfl⟩) | first | (go_at_call 19; refine (isNan_any _ _).mono ?_; rintro e w' ⟨rfl, rfl⟩) | (go_at_call 20; refine (infinity_any _).mono ?_; rintro e w' ⟨rfl, rfl⟩) | (go_at_call 35; refine (isInf_any _ _ (by assumption)).mono ?_; rintro e w' ⟨rfl, rfl⟩) | (go_at_call 17; refine (isFinite_any _ _ (by assumption)).mono ?_; rintro e w' ⟨rfl, rfl⟩) | (go_at_call 31; refine (minus_any _ _ (by assumption)).mono ?_; rintro e w' ⟨rfl, rfl⟩) | (go_at_call 26; refine (size_any _ _ (by assumption)).mono ?_; rintro e w' ⟨rfl, rfl⟩) | (go_at_call 32; refine (like_any _ _ _ (by assumption) (by assumption)).mono ?_; rintro e w' ⟨rfl, rfl⟩) | (go_at_call 22; refine (same_any _ _ _ (by assumption) (by assumption)).mono ?_; rintro e w' ⟨rfl, rfl⟩) | (go_at_call 21; refine (conj_any _ _ _).mono ?_; rintro e w' ⟨rfl, rfl⟩) | (go_at_call 15; refine (isInf2_any _ _ _ (by assumption) (by assumption)).mono ?_; rintro e w' ⟨rfl, rfl⟩) | (go_at_call 16; refine (isNaN2_any _ _ _ (by assumption) (by assumption)).mono ?_; rintro e w' ⟨rfl, rfl⟩) | (go_at_call 18; refine (abs_any _ _ _).mono ?_; rintro e w' ⟨rfl, rfl⟩) | (go_at_call 27; refine (realHypot_any _ _ _).mono ?_; rintro e w' ⟨rfl, rfl⟩) | (go_at_call 54; refine (mAbs_any _ _ (by assumption)).mono ?_; rintro e w' ⟨rfl, rfl⟩))
  go_ret
  exact ⟨rfl, Grown.refl _⟩
theorem walk (n k : Int) (wn : (Lit.int .i32 n).wf = true) (wk : (Lit.int .i64 k).wf = true) (w : World) :
    Calls Try.prog 7 #[.int .i32 n, .int .i64 k] w fun e w' => e = .returned (.bool true) ∧ Grown w w' := by
  obtain ⟨n1, n2⟩ := i32_of_wf wn
  by_cases h1 : k < -900
  · clear wn wk
    go_enter Try.func7, Try.ntmps7
    go_wp2_with fail
    go_ret
    exact ⟨rfl, Grown.refl _⟩
  · by_cases h2 : 900 < k
    · clear wn wk
      go_enter Try.func7, Try.ntmps7
      go_wp2_with fail
      go_ret
      exact ⟨rfl, Grown.refl _⟩
    · obtain ⟨u, w0, x3, x4, m3, e1, e2, e3, e4, e5, e6, c1, c2, c3⟩ := triple (n := n) (k := k) (by omega) (by omega) (by omega)
      exact walk_core n k _ u w0 x3 x4 m3 w (by omega) (by omega) rfl e1 e2 e3 e4 e5 e6 c1 c2 c3

theorem own : ownKnob Try.prog.godebug = none := by kernel_rfl
set_option maxRecDepth 100000 in
theorem lifted (os : Os) (started : os.Started) (H : Type) (enc : TypeId × Value → H) :
    ReturnsInHanded {} Try.checked os 7 .any (Rows.fnAbsTripleSpec.pre6 enc Try.prog Try.f7 Rows.fnAbsTripleRow.domain false) (Rows.fnAbsTripleSpec.post enc Try.prog Try.f7 false true false false) := by
  refine returnsInHanded_of_change (C := Try.checked) own started (by kernel_rfl) Try.func7
    (ChangeSpec.witness6 (enc := enc) (C := Try.checked) false ⟨#[], #[.int .i32 0, .int .i64 0], []⟩ 8 (by kernel_rfl) (by kernel_rfl) (by kernel_rfl) (by kernel_rfl)) ?_
  intro W base args ds gs before hval0 hW hcnd _
  have hval : ∀ (j : Nat) t v, Try.f7.params[j]? = some t → args[j]? = some v → Value.okWide Try.prog W .any base t v := hval0
  have hW' := hW
  obtain ⟨p, q, hA0, hV, rfl, hfz, hnd⟩ := hW
  have hA : DataW.TrodAll enc Try.prog W 0 (fun _ => true) true Try.f7.params.toList args.toList ds p := hA0
  rw [Try.params7] at hA hval
  obtain ⟨v0, vs0, d0, ds0, p0, q0, hargs, rfl, rfl, h0, r0⟩ := trodAll_cons hA
  obtain ⟨v1, vs1, d1, ds1, p1, q1, rfl, rfl, rfl, h1, r1⟩ := trodAll_cons r0
  obtain ⟨rfl, rfl, rfl⟩ := trodAll_nil r1
  obtain rfl : args = #[v0, v1] := by cases args; simp_all
  obtain ⟨rfl, rfl⟩ := trodVars_none hV
  obtain ⟨a0, rfl, rfl, rfl, w0⟩ := open_int Try.underlying21 (hval 0 21 v0 rfl rfl) h0
  obtain ⟨a1, rfl, rfl, rfl, w1⟩ := open_int Try.underlying3 (hval 1 3 v1 rfl rfl) h1
  clear hA0 hval0
  simp only [List.append_nil] at hW'
  refine (walk a0 a1 w0 w1 W).mono fun e W' ⟨he, hg⟩ => ?_
  subst he
  exact ⟨_, rfl, post_of_same (pa := []) (pv := []) hW' (fun _ _ _ => (trodAll_cons_mk (shut_bool Try.underlying4 _) trodAll_mk0)) (fun sp _ => (trodAll_cons_mk (shut_int Try.underlying21 w0) (trodAll_cons_mk (shut_int Try.underlying3 w1) trodAll_mk0))) (fun _ _ => rfl) rfl
    (hg.frame _) hg.2.1 (ok_one (by kernel_rfl) rfl (okWide_bool_mk Try.underlying4 _))⟩
theorem over : Rows.fnAbsTripleRow.holds Try.pinned (OpenSpec.ofChange Rows.fnAbsTripleSpec) :=
  OpenClaim.holds_of_wide 7 Try.f7 rfl rfl rfl rfl rfl rfl rfl ⟨rfl, rfl, rfl, rfl, rfl⟩ rfl rfl rfl rfl rfl (by kernel_rfl) Try.func7 (by kernel_rfl)
    (of_decide_eq_true (by kernel_rfl)) (by unfold Func.isWrapper; first | (rw [if_pos (by decide +kernel)]; kernel_rfl) | (rw [if_neg (by decide +kernel)]; exact ⟨rfl, rfl⟩))
    (fun os started H enc _ => lifted os started H enc)
/-- The given statement. -/
theorem proved : Rows.FnAbsTripleSaid := over
end Go.Proofs.Ytojjlkmeicdeeaa.fnAbsTriple

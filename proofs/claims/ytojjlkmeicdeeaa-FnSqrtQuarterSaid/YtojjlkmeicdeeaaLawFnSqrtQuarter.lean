/- Proved: for every two 32-bit integers and every power k from -400 to 400: the root of a number with whole parts up to 2^20, times 4^k, is near the root of the number times 2^k, each part by a part 2^-48 of the sum of the sizes; and it is not 0 if the number is not. No condition. -/
import Derived.Test.YtojjlkmeicdeeaaRows
import Derived.Test.YtojjlkmeicdeeaaScaleInt
import Derived.Test.YtojjlkmeicdeeaaFrame
set_option linter.unusedSimpArgs false
set_option linter.unusedVariables false
namespace Go.Proofs.Ytojjlkmeicdeeaa.fnSqrtQuarter
open Go.ChangeShapes Go.WideShapes Go.ChangeAt Go.RowKit F64

/-- The steps of the test. -/
def Good (k : Int) (x y a b c d : Nat) : Prop := ∃ S T M ak bk e1 e2, fadd (sizeW a) (sizeW b) = some S ∧ fmul S (powW k) = some T ∧ fmul T (powW (-48)) = some M ∧ fmul a (powW k) = some ak ∧ fmul b (powW k) = some bk ∧
  fsub c ak = some e1 ∧ fsub d bk = some e2 ∧ Wd e1 ∧ Wd e2 ∧ fle (sizeW e1) M = true ∧ fle (sizeW e2) M = true ∧
  ((feq x 0 = true ∧ feq y 0 = true) ∨ feq a 0 = false ∨ (feq a 0 = true ∧ feq b 0 = false))

theorem size_of {x : Nat} {s : Bool} {A : Rat} (h : val x = pm s * A) (A0 : 0 ≤ A) : rv (rg x) = A := by
  have h0 := rv_nonneg (rg x)
  rw [val_pm] at h
  unfold pm at h
  cases h1 : sg x <;> cases s <;> simp [h1] at h <;> grind
theorem size_of' {x : Nat} {A : Rat} (h : val x = A) (A0 : 0 ≤ A) : rv (rg x) = A := size_of (s := false) (by rw [h]; unfold pm; simp) A0
/-- A root's greater part, for whole numbers. -/
theorem Core_range {X Y h A D : Rat} (K : Core X Y h A D) (hX : X = 0 ∨ 1 ≤ X) (hY : Y = 0 ∨ 1 ≤ Y) (h0 : ¬ (X = 0 ∧ Y = 0)) (uX : X ≤ 1048576) (uY : Y ≤ 1048576) : 1 / 4 ≤ A ∧ A ≤ 4096 ∧ D ≤ 4096 := by
  have X0 : 0 ≤ X := by grind
  have Y0 : 0 ≤ Y := by grind
  have N1 : 1 ≤ X * X + Y * Y := by
    have xx := Rat.mul_nonneg X0 X0
    have yy := Rat.mul_nonneg Y0 Y0
    rcases hX with h | h
    · rcases hY with h' | h'
      · exact absurd ⟨h, h'⟩ h0
      · have := mul_self_le (show (0 : Rat) ≤ 1 by decide +kernel) h'
        grind
    · have := mul_self_le (show (0 : Rat) ≤ 1 by decide +kernel) h
      grind
  have hh : 1 / 2 ≤ h := by
    refine le_of_mul_self K.h0 (Rat.le_trans ?_ K.H.1)
    have := Rat.mul_le_mul_of_nonneg_right N1 (show (0 : Rat) ≤ 1 - 10 / 9007199254740992 by decide +kernel)
    refine Rat.le_trans ?_ this
    decide +kernel
  obtain ⟨b1, b2, b3, b4⟩ := K.back X0 Y0 (by grind)
  refine ⟨?_, ?_, ?_⟩
  · refine le_of_mul_self (Rat.le_of_lt K.a0) (Rat.le_trans ?_ K.A.1)
    have := Rat.mul_le_mul_of_nonneg_right (show 1 / 4 ≤ (h + X) / 2 by grind) (show (0 : Rat) ≤ 1 - 7011 / 1000 / 9007199254740992 by decide +kernel)
    refine Rat.le_trans ?_ this
    decide +kernel
  · exact le_of_mul_self (by decide +kernel) (by grind)
  · exact le_of_mul_self (by decide +kernel) (by grind)

/-- A part times 2^k, against the part of the other root; 'A' is the greater part. -/
theorem part_near {a c M ak : Nat} {A Z C v : Rat} {s : Bool} (fa : Fi a) (fc : Fi c) (fM : Fi M) (wM : Wd M) (sM : sg M = false) (va : val a = pm s * Z) (vc : val c = pm s * C) (R : Rnd e53 (val a * v) ak)
    (Z0 : 0 ≤ Z) (v0 : 0 < v) (A1 : 1 / 4 ≤ A) (vl : (2 : Rat) ^ (-400 : Int) ≤ v) (Zu : Z ≤ 4096) (vu : v ≤ (2 : Rat) ^ (400 : Int)) (h : Rel (Z * v) C (23 / 9007199254740992))
    (hM : Z * v * (24 / 9007199254740992) + A * v * (1 / 9007199254740992) ≤ val M) :
    ∃ e1, fsub c ak = some e1 ∧ Wd e1 ∧ fle (sizeW e1) M = true := by
  have Zv := Rat.mul_nonneg Z0 (Rat.le_of_lt v0)
  have e : val a * v = pm s * (Z * v) := by rw [va, Rat.mul_assoc]
  rw [e] at R
  have up : Z * v ≤ 4096 * (2 : Rat) ^ (400 : Int) := mul_le_mul' Zu vu Z0 (Rat.le_of_lt (zp_pos _))
  have um : 4096 * (2 : Rat) ^ (400 : Int) ≤ MAXF := by unfold MAXF; decide +kernel
  have fak : Fi ak := R.fin (by unfold pm; cases s <;> simp <;> grind) (by unfold pm; cases s <;> simp <;> grind)
  obtain ⟨r1, r2⟩ := R.err fak
  rw [pm_abs s Zv, k53] at r1 r2
  have Av := mul_le_mul' A1 vl (by decide +kernel) (Rat.le_of_lt v0)
  have us : u ≤ 1 / 4 * (2 : Rat) ^ (-400 : Int) * (1 / 9007199254740992) := by unfold u; decide +kernel
  have us2 : u ≤ A * v * (1 / 9007199254740992) := by
    have := Rat.mul_le_mul_of_nonneg_right Av (show (0 : Rat) ≤ 1 / 9007199254740992 by decide +kernel)
    exact Rat.le_trans us this
  obtain ⟨h1, h2⟩ := h
  generalize Z * v = Q at *
  generalize A * v = P at *
  clear Av us up um va e Zu vu vl A1
  obtain ⟨e1, f1, w1, _, g1⟩ := sub_size fc fak R.wd fM.num wM sM (by rw [vc]; revert r1 r2; unfold pm; cases s <;> simp <;> intro r1 r2 <;> grind) (by rw [vc]; revert r1 r2; unfold pm; cases s <;> simp <;> intro r1 r2 <;> grind)
  exact ⟨e1, f1, w1, g1⟩

theorem good_core {x y a b c d : Nat} {k : Int} {h A D h' A' D' X Y : Rat} (k1 : -400 ≤ k) (k2 : k ≤ 400) (wa : Wd a) (wb : Wd b) (fa : Fi a) (fb : Fi b) (fc : Fi c) (fd : Fi d) (K : Core X Y h A D) (K' : Core (X * ((2 : Rat) ^ k * (2 : Rat) ^ k)) (Y * ((2 : Rat) ^ k * (2 : Rat) ^ k)) h' A' D')
    (hX : X = 0 ∨ 1 ≤ X) (hY : Y = 0 ∨ 1 ≤ Y) (h0 : ¬ (X = 0 ∧ Y = 0)) (uX : X ≤ 1048576) (uY : Y ≤ 1048576) {s : Bool}
    (hv : (val a = A ∧ val b = pm s * D ∧ val c = A' ∧ val d = pm s * D') ∨ (val a = D ∧ val b = pm s * A ∧ val c = D' ∧ val d = pm s * A')) : Good k x y a b c d := by
  obtain ⟨A1, A2, D2⟩ := Core_range K hX hY h0 uX uY
  have D0 := K.b0
  have A0 := K.a0
  obtain ⟨p1, p2, p3, p4, p5⟩ := powW_spec (k := k) (by omega) (by omega)
  obtain ⟨q1, q2, q3, q4, q5⟩ := powW_spec (k := -48) (by omega) (by omega)
  have v0 := zp_pos k
  have vl : (2 : Rat) ^ (-400 : Int) ≤ (2 : Rat) ^ k := zp_mono k1
  have vu : (2 : Rat) ^ k ≤ (2 : Rat) ^ (400 : Int) := zp_mono k2
  obtain ⟨s1, s2⟩ := K.scaled K' v0 (by grind) (by grind)
  generalize (2 : Rat) ^ k = v at *
  obtain ⟨z1, n1⟩ := size_eq wa fa.num
  obtain ⟨z2, n2⟩ := size_eq wb fb.num
  have f1 : Fi (sizeW a) := by rw [sizeW_num wa fa.num]; unfold Fi at *; rw [rg_rg]; exact fa
  have f2 : Fi (sizeW b) := by rw [sizeW_num wb fb.num]; unfold Fi at *; rw [rg_rg]; exact fb
  -- the sum of the sizes
  have sum : val (sizeW a) + val (sizeW b) = A + D := by
    rw [z1, z2]
    rcases hv with ⟨e1, e2, _⟩ | ⟨e1, e2, _⟩
    · rw [size_of' e1 (Rat.le_of_lt A0), size_of e2 D0]
    · rw [size_of' e1 D0, size_of e2 (Rat.le_of_lt A0), Rat.add_comm]
  obtain ⟨S, eS, RS, _⟩ := add_rnd f1 f2
  rw [sum] at RS
  have big : (67108864 : Rat) * (2 : Rat) ^ (400 : Int) ≤ MAXF := by unfold MAXF; decide +kernel
  have hM := MAXF_big
  have lo1 : LOW ≤ 1 / 4 := by unfold LOW; decide +kernel
  have fS : Fi S := RS.fin (by grind) (by grind)
  have c1 := Rnd_rel1 RS fS (Or.inr (by grind))
  have S0 : 1 / 8 ≤ val S := by have := c1.1; grind
  have S1 : val S ≤ 67108864 := by have := c1.2; grind
  obtain ⟨T, eT, RT, _⟩ := mul_rnd fS p2
  rw [p5] at RT
  have t1 := mul_le_mul' S1 vu (by grind) (Rat.le_of_lt (zp_pos 400))
  have t2 := mul_le_mul' S0 vl (by decide +kernel) (Rat.le_of_lt v0)
  have l2 : LOW ≤ 1 / 8 * (2 : Rat) ^ (-400 : Int) := by unfold LOW; decide +kernel
  have lp := LOW_pos
  have fT : Fi T := RT.fin (Rat.le_trans t1 big) (by grind)
  have c2 := Rnd_rel1 RT fT (Or.inr (Rat.le_trans l2 t2))
  have c3 : Rel ((A + D) * v) (val S * v) (1001 / 1000 / 9007199254740992) := c1.times (Rat.le_of_lt v0)
  have AD : 0 ≤ (A + D) * v := Rat.mul_nonneg (by grind) (Rat.le_of_lt v0)
  have c4 : Rel ((A + D) * v) (val T) (2003 / 1000 / 9007199254740992) := c3.trans c2 AD (by decide +kernel) (by decide +kernel) (by decide +kernel) (by decide +kernel) (by decide +kernel)
  obtain ⟨M, eM, RM, sM⟩ := mul_rnd fT q2
  rw [q5, show (2 : Rat) ^ (-48 : Int) = 32 / 9007199254740992 from by decide +kernel] at RM
  have T0 : 1 / 16 * (2 : Rat) ^ (-400 : Int) ≤ val T := by
    have e1 := c2.1
    have e2 := Rat.mul_le_mul_of_nonneg_right t2 (show (0 : Rat) ≤ 1 - 1001 / 1000 / 9007199254740992 by decide +kernel)
    have e3 : 1 / 16 * (2 : Rat) ^ (-400 : Int) ≤ 1 / 8 * (2 : Rat) ^ (-400 : Int) * (1 - 1001 / 1000 / 9007199254740992) := by decide +kernel
    exact Rat.le_trans e3 (Rat.le_trans e2 e1)
  have T1 := size_le fT
  have Tp : 0 < val T := by have := zp_pos (-400); grind
  have T2 : val T ≤ MAXF := by
    have : val (rg T) = val T := by
      have h1 := val_size T
      have h2 := rv_nonneg (rg T)
      rw [← val_rg] at h2
      unfold pm at h1
      cases hs : sg T <;> simp [hs] at h1 <;> grind
    rw [← this]; exact T1
  have l3 : LOW ≤ 1 / 16 * (2 : Rat) ^ (-400 : Int) * (32 / 9007199254740992) := by unfold LOW; decide +kernel
  have m1 := Rat.mul_le_mul_of_nonneg_right T0 (show (0 : Rat) ≤ 32 / 9007199254740992 by decide +kernel)
  have fM : Fi M := RM.fin (by grind) (by grind)
  have c5 := Rnd_rel1 RM fM (Or.inr (Rat.le_trans l3 m1))
  have c6 := (c4.times (w := 32 / 9007199254740992) (by decide +kernel))
  have AD2 := Rat.mul_nonneg AD (show (0 : Rat) ≤ 32 / 9007199254740992 by decide +kernel)
  have c7 : Rel ((A + D) * v * (32 / 9007199254740992)) (val M) (4 / 9007199254740992) := c6.trans c5 AD2 (by decide +kernel) (by decide +kernel) (by decide +kernel) (by decide +kernel) (by decide +kernel)
  have hMv : (A + D) * v * (31 / 9007199254740992) ≤ val M := by
    have := c7.1
    grind
  have sgM : sg M = false := by
    have h1 := val_size M
    have h2 := rv_nonneg (rg M)
    rw [← val_rg] at h2
    have h3 : 0 < val M := by
      have := Rat.mul_pos (show 0 < A + D by grind) v0
      grind
    unfold pm at h1
    cases hs : sg M
    · rfl
    · simp [hs] at h1; grind
  obtain ⟨ak, eak, Rak, _⟩ := mul_rnd fa p2
  obtain ⟨bk, ebk, Rbk, _⟩ := mul_rnd fb p2
  rw [p5] at Rak Rbk
  have Dv := Rat.mul_nonneg D0 (Rat.le_of_lt v0)
  have Av := Rat.mul_nonneg (Rat.le_of_lt A0) (Rat.le_of_lt v0)
  have s1' : Rel (A * v) A' (23 / 9007199254740992) := s1.mono Av (by decide +kernel)
  have e31 : (A + D) * v * (31 / 9007199254740992) = A * v * (31 / 9007199254740992) + D * v * (31 / 9007199254740992) := by grind
  rw [e31] at hMv
  have pA : ∀ {a c ak : Nat} {s : Bool}, Fi a → Fi c → val a = pm s * A → val c = pm s * A' → Rnd e53 (val a * v) ak → ∃ e1, fsub c ak = some e1 ∧ Wd e1 ∧ fle (sizeW e1) M = true := by
    intro a c ak s fa fc va vc R
    exact part_near fa fc fM RM.wd sgM va vc R (Rat.le_of_lt A0) v0 A1 vl A2 vu s1' (by grind)
  have pD : ∀ {a c ak : Nat} {s : Bool}, Fi a → Fi c → val a = pm s * D → val c = pm s * D' → Rnd e53 (val a * v) ak → ∃ e1, fsub c ak = some e1 ∧ Wd e1 ∧ fle (sizeW e1) M = true := by
    intro a c ak s fa fc va vc R
    exact part_near fa fc fM RM.wd sgM va vc R D0 v0 A1 vl D2 vu s2 (by grind)
  have one : ∀ q : Rat, pm false * q = q := fun q => by unfold pm; simp
  rcases hv with ⟨va, vb, vc, vd⟩ | ⟨va, vb, vc, vd⟩
  · obtain ⟨e1, g1, w1, l1⟩ := pA (s := false) fa fc (by rw [va, one]) (by rw [vc, one]) Rak
    obtain ⟨e2, g2, w2, l2⟩ := pD fb fd vb vd Rbk
    refine ⟨S, T, M, ak, bk, e1, e2, eS, eT, eM, eak, ebk, g1, g2, w1, w2, l1, l2, Or.inr (Or.inl ?_)⟩
    rw [feq_val fa.num num_zero, va, val_zero]; simp; grind
  · obtain ⟨e1, g1, w1, l1⟩ := pD (s := false) fa fc (by rw [va, one]) (by rw [vc, one]) Rak
    obtain ⟨e2, g2, w2, l2⟩ := pA fb fd vb vd Rbk
    refine ⟨S, T, M, ak, bk, e1, e2, eS, eT, eM, eak, ebk, g1, g2, w1, w2, l1, l2, Or.inr ?_⟩
    have hb : feq b 0 = false := by
      rw [feq_val fb.num num_zero, vb, val_zero]; unfold pm; cases s <;> simp <;> grind
    cases feq a 0
    · exact Or.inl rfl
    · exact Or.inr ⟨rfl, hb⟩

theorem words {n m k : Int} (hn : n.natAbs ≤ 1048576) (hm : m.natAbs ≤ 1048576) (k1 : -400 ≤ k) (k2 : k ≤ 400) :
    ∃ x' y', fmul (floatOfInt .f64 n) (powW (2 * k)) = some x' ∧ fmul (floatOfInt .f64 m) (powW (2 * k)) = some y' ∧ Wd x' ∧ Wd y' ∧
      ∀ a b c d, SqrtRel (floatOfInt .f64 n) (floatOfInt .f64 m) a b → SqrtRel x' y' c d → Good k (floatOfInt .f64 n) (floatOfInt .f64 m) a b c d := by
  have hBv : B = 4503599627370496 := rfl
  by_cases h0 : n = 0 ∧ m = 0
  · obtain ⟨rfl, rfl⟩ := h0
    have e : floatOfInt .f64 0 = 0 := by decide +kernel
    rw [e]
    refine ⟨0, 0, fmul_zero_pow (by omega) (by omega), fmul_zero_pow (by omega) (by omega), by unfold Wd; decide, by unfold Wd; decide, ?_⟩
    intro a b c d hr hr'
    have cc : feq 0 0 = true := by decide +kernel
    unfold SqrtRel at hr hr'
    simp only [cc, Bool.false_eq_true, false_and, false_or, true_and, Bool.true_eq_false, or_false] at hr hr'
    obtain ⟨rfl, rfl⟩ := hr
    obtain ⟨rfl, rfl⟩ := hr'
    exact ⟨0, 0, 0, 0, 0, 0, 0, by decide +kernel, fmul_zero_pow (by omega) (by omega), by decide +kernel, fmul_zero_pow (by omega) (by omega), fmul_zero_pow (by omega) (by omega), by decide +kernel, by decide +kernel, by unfold Wd; decide, by unfold Wd; decide, by decide +kernel, by decide +kernel, Or.inl ⟨cc, cc⟩⟩
  · obtain ⟨wx, fx, vx, _⟩ := ofInt_spec (n := n) (by omega)
    obtain ⟨wy, fy, vy, _⟩ := ofInt_spec (n := m) (by omega)
    generalize floatOfInt .f64 n = x at *
    generalize floatOfInt .f64 m = y at *
    obtain ⟨x', ex, wx', fx', sx', rx, rx'⟩ := scaled_int (k := 2 * k) fx vx (by omega) (by omega) (by omega)
    obtain ⟨y', ey, wy', fy', sy', ry, ry'⟩ := scaled_int (k := 2 * k) fy vy (by omega) (by omega) (by omega)
    rw [← val_rg] at rx rx' ry ry'
    refine ⟨x', y', ex, ey, wx', wy', fun a b c d hr hr' => ?_⟩
    obtain ⟨fa, fb, wa, wb, h, A, D, K, s1, s2⟩ := sqrt_whole (n := n.natAbs) (m := m.natAbs) (k := 0) wx wy fx fy hr (by rw [rx, Rat.zpow_zero, Rat.mul_one]) (by rw [ry, Rat.zpow_zero, Rat.mul_one]) (by omega) (by omega) (by omega) (by omega)
    obtain ⟨fc, fd, wc, wd, h', A', D', K', s1', s2'⟩ := sqrt_whole (n := n.natAbs) (m := m.natAbs) (k := 2 * k) wx' wy' fx' fy' hr' rx' ry' (by omega) (by omega) (by omega) (by omega)
    rw [rx, ry] at K
    rw [rx', ry', show 2 * k = k + k from by omega, zp_add] at K'
    rw [sx', sy'] at s1' s2'
    have rng : ∀ q : Int, q.natAbs ≤ 1048576 → ((q.natAbs : Rat) = 0 ∨ (1 : Rat) ≤ (q.natAbs : Rat)) ∧ (q.natAbs : Rat) ≤ 1048576 ∧ ((q.natAbs : Rat) = 0 → q = 0) := by
      intro q hq
      have u1 : (q.natAbs : Rat) ≤ ((1048576 : Nat) : Rat) := Rat.natCast_le_natCast.2 hq
      by_cases hz : q = 0
      · exact ⟨Or.inl (by rw [hz]; rfl), u1, fun _ => hz⟩
      · have l1 : ((1 : Nat) : Rat) ≤ (q.natAbs : Rat) := Rat.natCast_le_natCast.2 (by omega)
        have l2 : (1 : Rat) ≤ (q.natAbs : Rat) := l1
        exact ⟨Or.inr l2, u1, fun h => by rw [h] at l2; exact absurd l2 (by decide +kernel)⟩
    obtain ⟨a1, a2, a3⟩ := rng n hn
    obtain ⟨b1, b2, b3⟩ := rng m hm
    refine good_core (s := sg y) k1 k2 wa wb fa fb fc fd K K' a1 b1 (fun h => h0 ⟨a3 h.1, b3 h.2⟩) a2 b2 ?_
    cases hs : sg x
    · exact Or.inl ⟨(s1 hs).1, (s1 hs).2, (s1' hs).1, (s1' hs).2⟩
    · exact Or.inr ⟨(s2 hs).1, (s2 hs).2, (s2' hs).1, (s2' hs).2⟩

set_option maxRecDepth 100000 in
set_option maxHeartbeats 1000000 in
theorem walk_core (n m k : Int) (x y x' y' : Nat) (w : World) (n1 : -2147483648 ≤ n) (n2 : n ≤ 2147483647) (m1 : -2147483648 ≤ m) (m2 : m ≤ 2147483647) (k1 : -400 ≤ k) (k2 : k ≤ 400) (gx : wholeW n 1048576 = x) (gy : wholeW m 1048576 = y) (wx : Wd x) (wy : Wd y)
    (e1 : fmul x (powW (2 * k)) = some x') (e2 : fmul y (powW (2 * k)) = some y') (wx' : Wd x') (wy' : Wd y') (H : Hid (∀ a b c d, SqrtRel x y a b → SqrtRel x' y' c d → Good k x y a b c d)) :
    Calls Try.prog 10 #[.int .i32 n, .int .i32 m, .int .i64 k] w fun e w' => e = .returned (.bool true) ∧ Grown w w' := by
  go_enter Try.func10, Try.ntmps10
  go_wp2_with (first | (go_at_call 23; refine (whole_any _ _ _ (by assumption) (by assumption) (by omega) (by omega)).mono ?_; rintro e w' ⟨rfl, rfl⟩))
  refine (sqrt2_any _ _ _ wx wy).mono ?_
  rintro e w' ⟨a, b, nn, hr, wa, wb, rfl, rfl⟩
  go_wp2_with (first | (go_at_call 24; refine (bound_any _ _ (by omega) (by omega)).mono ?_; rintro e w' ⟨rfl, rfl⟩))
  refine (sqrt2_any _ _ _ wx' wy').mono ?_
  rintro e w' ⟨c, d, n3, hr', wc, wd, rfl, rfl⟩
  obtain ⟨S, T, M, ak, bk, f1, f2, t1, t2, t3, t4, t5, t6, t7, t8, t9, t10, t11, cs⟩ := H.out a b c d hr hr'
  clear hr hr' H
  rcases cs with ⟨c1, c2⟩ | c1 | ⟨c1, c2⟩
  · go_wp2_with (first | (go_at_call 24; refine (bound_any _ _ (by omega) (by omega)).mono ?_; rintro e w' ⟨rfl, rfl⟩) | first | (go_at_call 19; refine (isNan_any _ _).mono ?_; rintro e w' ⟨rfl, rfl⟩) | (go_at_call 20; refine (infinity_any _).mono ?_; rintro e w' ⟨rfl, rfl⟩) | (go_at_call 35; refine (isInf_any _ _ (by assumption)).mono ?_; rintro e w' ⟨rfl, rfl⟩) | (go_at_call 17; refine (isFinite_any _ _ (by assumption)).mono ?_; rintro e w' ⟨rfl, rfl⟩) | (go_at_call 31; refine (minus_any _ _ (by assumption)).mono ?_; rintro e w' ⟨rfl, rfl⟩) | (go_at_call 26; refine (size_any _ _ (by assumption)).mono ?_; rintro e w' ⟨rfl, rfl⟩) | (go_at_call 32; refine (like_any _ _ _ (by assumption) (by assumption)).mono ?_; rintro e w' ⟨rfl, rfl⟩) | (go_at_call 22; refine (same_any _ _ _ (by assumption) (by assumption)).mono ?_; rintro e w' ⟨rfl, rfl⟩) | (go_at_call 21; refine (conj_any _ _ _).mono ?_; rintro e w' ⟨rfl, rfl⟩) | (go_at_call 15; refine (isInf2_any _ _ _ (by assumption) (by assumption)).mono ?_; rintro e w' ⟨rfl, rfl⟩) | (go_at_call 16; refine (isNaN2_any _ _ _ (by assumption) (by assumption)).mono ?_; rintro e w' ⟨rfl, rfl⟩) | (go_at_call 18; refine (abs_any _ _ _).mono ?_; rintro e w' ⟨rfl, rfl⟩) | (go_at_call 27; refine (realHypot_any _ _ _).mono ?_; rintro e w' ⟨rfl, rfl⟩) | (go_at_call 54; refine (mAbs_any _ _ (by assumption)).mono ?_; rintro e w' ⟨rfl, rfl⟩))
    go_ret
    exact ⟨rfl, grown_drewN _ _⟩
  · cases c3 : feq x 0 <;> cases c4 : feq y 0
    all_goals
      go_wp2_with (first | (go_at_call 24; refine (bound_any _ _ (by omega) (by omega)).mono ?_; rintro e w' ⟨rfl, rfl⟩) | first | (go_at_call 19; refine (isNan_any _ _).mono ?_; rintro e w' ⟨rfl, rfl⟩) | (go_at_call 20; refine (infinity_any _).mono ?_; rintro e w' ⟨rfl, rfl⟩) | (go_at_call 35; refine (isInf_any _ _ (by assumption)).mono ?_; rintro e w' ⟨rfl, rfl⟩) | (go_at_call 17; refine (isFinite_any _ _ (by assumption)).mono ?_; rintro e w' ⟨rfl, rfl⟩) | (go_at_call 31; refine (minus_any _ _ (by assumption)).mono ?_; rintro e w' ⟨rfl, rfl⟩) | (go_at_call 26; refine (size_any _ _ (by assumption)).mono ?_; rintro e w' ⟨rfl, rfl⟩) | (go_at_call 32; refine (like_any _ _ _ (by assumption) (by assumption)).mono ?_; rintro e w' ⟨rfl, rfl⟩) | (go_at_call 22; refine (same_any _ _ _ (by assumption) (by assumption)).mono ?_; rintro e w' ⟨rfl, rfl⟩) | (go_at_call 21; refine (conj_any _ _ _).mono ?_; rintro e w' ⟨rfl, rfl⟩) | (go_at_call 15; refine (isInf2_any _ _ _ (by assumption) (by assumption)).mono ?_; rintro e w' ⟨rfl, rfl⟩) | (go_at_call 16; refine (isNaN2_any _ _ _ (by assumption) (by assumption)).mono ?_; rintro e w' ⟨rfl, rfl⟩) | (go_at_call 18; refine (abs_any _ _ _).mono ?_; rintro e w' ⟨rfl, rfl⟩) | (go_at_call 27; refine (realHypot_any _ _ _).mono ?_; rintro e w' ⟨rfl, rfl⟩) | (go_at_call 54; refine (mAbs_any _ _ (by assumption)).mono ?_; rintro e w' ⟨rfl, rfl⟩))
      go_ret
      exact ⟨rfl, grown_drewN _ _⟩
  · cases c3 : feq x 0 <;> cases c4 : feq y 0
    all_goals
      go_wp2_with (first | (go_at_call 24; refine (bound_any _ _ (by omega) (by omega)).mono ?_; rintro e w' ⟨rfl, rfl⟩) | first | (go_at_call 19; refine (isNan_any _ _).mono ?_; rintro e w' ⟨rfl, rfl⟩) | (go_at_call 20; refine (infinity_any _).mono ?_; rintro e w' ⟨rfl, rfl⟩) | (go_at_call 35; refine (isInf_any _ _ (by assumption)).mono ?_; rintro e w' ⟨rfl, rfl⟩) | (go_at_call 17; refine (isFinite_any _ _ (by assumption)).mono ?_; rintro e w' ⟨rfl, rfl⟩) | (go_at_call 31; refine (minus_any _ _ (by assumption)).mono ?_; rintro e w' ⟨rfl, rfl⟩) | (go_at_call 26; refine (size_any _ _ (by assumption)).mono ?_; rintro e w' ⟨rfl, rfl⟩) | (go_at_call 32; refine (like_any _ _ _ (by assumption) (by assumption)).mono ?_; rintro e w' ⟨rfl, rfl⟩) | (go_at_call 22; refine (same_any _ _ _ (by assumption) (by assumption)).mono ?_; rintro e w' ⟨rfl, rfl⟩) | (go_at_call 21; refine (conj_any _ _ _).mono ?_; rintro e w' ⟨rfl, rfl⟩) | (go_at_call 15; refine (isInf2_any _ _ _ (by assumption) (by assumption)).mono ?_; rintro e w' ⟨rfl, rfl⟩) | (go_at_call 16; refine (isNaN2_any _ _ _ (by assumption) (by assumption)).mono ?_; rintro e w' ⟨rfl, rfl⟩) | (go_at_call 18; refine (abs_any _ _ _).mono ?_; rintro e w' ⟨rfl, rfl⟩) | (go_at_call 27; refine (realHypot_any _ _ _).mono ?_; rintro e w' ⟨rfl, rfl⟩) | (go_at_call 54; refine (mAbs_any _ _ (by assumption)).mono ?_; rintro e w' ⟨rfl, rfl⟩))
      go_ret
      exact ⟨rfl, grown_drewN _ _⟩
theorem walk (n m k : Int) (wn : (Lit.int .i32 n).wf = true) (wm : (Lit.int .i32 m).wf = true) (wk : (Lit.int .i64 k).wf = true) (w : World) :
    Calls Try.prog 10 #[.int .i32 n, .int .i32 m, .int .i64 k] w fun e w' => e = .returned (.bool true) ∧ Grown w w' := by
  obtain ⟨n1, n2⟩ := i32_of_wf wn
  obtain ⟨m1, m2⟩ := i32_of_wf wm
  by_cases h1 : k < -400
  · clear wn wm wk
    go_enter Try.func10, Try.ntmps10
    go_wp2_with fail
    go_ret
    exact ⟨rfl, Grown.refl _⟩
  · by_cases h2 : 400 < k
    · clear wn wm wk
      go_enter Try.func10, Try.ntmps10
      go_wp2_with fail
      go_ret
      exact ⟨rfl, Grown.refl _⟩
    · have hBv : B = 4503599627370496 := rfl
      have b1 := tmod_bound n 1048577 (by omega)
      have b2 := tmod_bound m 1048577 (by omega)
      obtain ⟨p1, p2, p3, _⟩ := ofInt_spec (n := n.tmod 1048577) (by omega)
      obtain ⟨q1, q2, q3, _⟩ := ofInt_spec (n := m.tmod 1048577) (by omega)
      obtain ⟨x', y', e1, e2, w1, w2, H⟩ := words (n := n.tmod 1048577) (m := m.tmod 1048577) (k := k) (by omega) (by omega) (by omega) (by omega)
      exact walk_core n m k _ _ x' y' w n1 n2 m1 m2 (by omega) (by omega) rfl rfl p1 q1 e1 e2 w1 w2 H

theorem own : ownKnob Try.prog.godebug = none := by kernel_rfl
set_option maxRecDepth 100000 in
theorem lifted (os : Os) (started : os.Started) (H : Type) (enc : TypeId × Value → H) :
    ReturnsInHanded {} Try.checked os 10 .any (Rows.fnSqrtQuarterSpec.pre6 enc Try.prog Try.f10 Rows.fnSqrtQuarterRow.domain false) (Rows.fnSqrtQuarterSpec.post enc Try.prog Try.f10 false true false false) := by
  refine returnsInHanded_of_change (C := Try.checked) own started (by kernel_rfl) Try.func10
    (ChangeSpec.witness6 (enc := enc) (C := Try.checked) false ⟨#[], #[.int .i32 0, .int .i32 0, .int .i64 0], []⟩ 8 (by kernel_rfl) (by kernel_rfl) (by kernel_rfl) (by kernel_rfl)) ?_
  intro W base args ds gs before hval0 hW hcnd _
  have hval : ∀ (j : Nat) t v, Try.f10.params[j]? = some t → args[j]? = some v → Value.okWide Try.prog W .any base t v := hval0
  have hW' := hW
  obtain ⟨p, q, hA0, hV, rfl, hfz, hnd⟩ := hW
  have hA : DataW.TrodAll enc Try.prog W 0 (fun _ => true) true Try.f10.params.toList args.toList ds p := hA0
  rw [Try.params10] at hA hval
  obtain ⟨v0, vs0, d0, ds0, p0, q0, hargs, rfl, rfl, h0, r0⟩ := trodAll_cons hA
  obtain ⟨v1, vs1, d1, ds1, p1, q1, rfl, rfl, rfl, h1, r1⟩ := trodAll_cons r0
  obtain ⟨v2, vs2, d2, ds2, p2, q2, rfl, rfl, rfl, h2, r2⟩ := trodAll_cons r1
  obtain ⟨rfl, rfl, rfl⟩ := trodAll_nil r2
  obtain rfl : args = #[v0, v1, v2] := by cases args; simp_all
  obtain ⟨rfl, rfl⟩ := trodVars_none hV
  obtain ⟨a0, rfl, rfl, rfl, w0⟩ := open_int Try.underlying21 (hval 0 21 v0 rfl rfl) h0
  obtain ⟨a1, rfl, rfl, rfl, w1⟩ := open_int Try.underlying21 (hval 1 21 v1 rfl rfl) h1
  obtain ⟨a2, rfl, rfl, rfl, w2⟩ := open_int Try.underlying3 (hval 2 3 v2 rfl rfl) h2
  clear hA0 hval0
  simp only [List.append_nil] at hW'
  refine (walk a0 a1 a2 w0 w1 w2 W).mono fun e W' ⟨he, hg⟩ => ?_
  subst he
  exact ⟨_, rfl, post_of_same (pa := []) (pv := []) hW' (fun _ _ _ => (trodAll_cons_mk (shut_bool Try.underlying4 _) trodAll_mk0)) (fun sp _ => (trodAll_cons_mk (shut_int Try.underlying21 w0) (trodAll_cons_mk (shut_int Try.underlying21 w1) (trodAll_cons_mk (shut_int Try.underlying3 w2) trodAll_mk0)))) (fun _ _ => rfl) rfl
    (hg.frame _) hg.2.1 (ok_one (by kernel_rfl) rfl (okWide_bool_mk Try.underlying4 _))⟩
theorem over : Rows.fnSqrtQuarterRow.holds Try.pinned (OpenSpec.ofChange Rows.fnSqrtQuarterSpec) :=
  OpenClaim.holds_of_wide 10 Try.f10 rfl rfl rfl rfl rfl rfl rfl ⟨rfl, rfl, rfl, rfl, rfl⟩ rfl rfl rfl rfl rfl (by kernel_rfl) Try.func10 (by kernel_rfl)
    (of_decide_eq_true (by kernel_rfl)) (by unfold Func.isWrapper; first | (rw [if_pos (by decide +kernel)]; kernel_rfl) | (rw [if_neg (by decide +kernel)]; exact ⟨rfl, rfl⟩))
    (fun os started H enc _ => lifted os started H enc)
/-- The given statement. -/
theorem proved : Rows.FnSqrtQuarterSaid := over
end Go.Proofs.Ytojjlkmeicdeeaa.fnSqrtQuarter

/- Plain laws of Hypot on words: signs and order make no difference; it is exact on an axis, not less than each part, and not more than the sum. -/
import Derived.Test.YtnbcodpmglifdaaHypot
set_option linter.unusedSimpArgs false
set_option linter.unusedVariables false
namespace Go.Proofs.Ytnbcodpmglifdaa
open F64

theorem F64.Rnd.exact {e v : Rat} {z c : Nat} (h : Rnd e v z) (hc : Num c) (hv : val c = v) : val z = v := by
  have h1 := h.up c hc (by rw [hv]; exact Rat.le_refl)
  have h2 := h.lo c hc (by rw [hv]; exact Rat.le_refl)
  grind
theorem eq_of_val {x y : Nat} (hx : Wd x) (hy : Wd y) (hs : sg x = sg y) (h : val x = val y) : x = y := by
  rcases (val_eq_iff hx hy).1 h with h | ⟨h1, h2⟩
  · exact h
  · exact wd_ext hx hy hs (by rw [h1, h2])
theorem F64.Rnd.eq_word {e v : Rat} {z c : Nat} (h : Rnd e v z) (hc : Num c) (hw : Wd c) (hv : val c = v) (hs : sg z = sg c) : z = c :=
  eq_of_val h.wd hw hs (by rw [Rnd.exact h hc hv, hv])
theorem F64.Root.eq_word {x z c : Nat} (h : Root x z) (hc : Num c) (hw : Wd c) (hs : sg c = false) (hv : val c * val c = val x) : z = c := by
  have h1 := h.up c hc hs (by rw [hv]; exact Rat.le_refl)
  have h2 := h.lo c hc hs (by rw [hv]; exact Rat.le_refl)
  exact eq_of_val h.wd hw (by rw [h.sgn, hs]) (by grind)

theorem ONE_wd : Wd ONE := by unfold Wd; decide
theorem ONE_sg : sg ONE = false := by decide

theorem hyp_zero {big : Nat} (hb : Fi big) (wb : Wd big) (sb : sg big = false) (h0 : rg big ≠ 0) : hyp2 big 0 = big := by
  obtain ⟨r, s, t, q, z, H⟩ := hyp_ok hb (small := 0) (by unfold Fi; decide) sb (by decide) h0 (by rw [val_zero]; exact val_nonneg sb)
  rw [H.eq]
  have w0 : Wd 0 := by unfold Wd; decide
  have s0 : sg 0 = false := by decide
  have e1 : r = 0 := H.r1.eq_word num_zero w0 (by rw [val_zero]; simp [Rat.div_def]) (by rw [H.sr, s0])
  have e2 : s = 0 := H.r2.eq_word num_zero w0 (by rw [e1, val_zero]; simp) (by rw [H.ss, s0])
  have e3 : t = ONE := H.r3.eq_word num_ONE ONE_wd (by rw [e2, val_zero, val_ONE]; grind) (by rw [H.st, ONE_sg])
  have e4 : q = ONE := H.r4.eq_word num_ONE ONE_wd ONE_sg (by rw [e3, val_ONE]; grind)
  exact H.r5.eq_word hb.num wb (by rw [e4, val_ONE]; grind) (by rw [H.sz, sb])

theorem hypotW_comm (x y : Nat) : hypotW y x = hypotW x y := by
  unfold hypotW
  by_cases c1 : rg x = INF ∨ rg y = INF
  · rw [if_pos c1, if_pos (Or.comm.1 c1)]
  · rw [if_neg c1, if_neg (fun h => c1 (Or.comm.1 h))]
    by_cases c2 : INF < rg x ∨ INF < rg y
    · rw [if_pos c2, if_pos (Or.comm.1 c2)]
    · rw [if_neg c2, if_neg (fun h => c2 (Or.comm.1 h))]
      by_cases c3 : rg x = 0 ∧ rg y = 0
      · rw [if_pos c3, if_pos ⟨c3.2, c3.1⟩]
      · rw [if_neg c3, if_neg (fun h => c3 ⟨h.2, h.1⟩)]
        by_cases c4 : rg x < rg y
        · rw [if_pos c4, if_neg (by omega)]
        · rw [if_neg c4]
          by_cases c5 : rg y < rg x
          · rw [if_pos c5]
          · rw [if_neg c5]
            have : rg x = rg y := by omega
            rw [this]
theorem hypotW_congr {x x' y y' : Nat} (h1 : rg x = rg x') (h2 : rg y = rg y') : hypotW x y = hypotW x' y' := by
  unfold hypotW; rw [h1, h2]
theorem fneg_rg {x : Nat} (h : Wd x) : rg (fneg x) = rg x := by rw [fneg_eq h, negw_rg h]
theorem fneg_sg {x : Nat} (h : Wd x) : sg (fneg x) = !sg x := by rw [fneg_eq h, negw_sg h]
theorem fneg_val {x : Nat} (h : Wd x) : val (fneg x) = -(val x) := by rw [fneg_eq h, negw_val h]
theorem fneg_num {x : Nat} (h : Wd x) (hn : Num x) : Num (fneg x) := by rw [fneg_eq h]; exact negw_num h hn
theorem fneg_fi {x : Nat} (h : Wd x) (hn : Fi x) : Fi (fneg x) := by rw [fneg_eq h]; exact negw_fin h hn
theorem fneg_fneg {x : Nat} (h : Wd x) : fneg (fneg x) = x := by rw [fneg_eq h, fneg_eq (negw_wd h), negw_negw h]

theorem hypotW_inf {x y : Nat} (h : isInf x = true ∨ isInf y = true) : hypotW x y = INF := by
  unfold hypotW isInf at *; rw [if_pos (by simpa using h)]; rfl
theorem hypotW_nan {x y : Nat} (h1 : isInf x = false) (h2 : isInf y = false) (h : isNan x = true ∨ isNan y = true) : hypotW x y = 9221120237041090561 := by
  unfold hypotW isInf isNan at *
  rw [if_neg (by simp at h1 h2; omega), if_pos (by simpa using h)]
theorem hypotW_zero {x y : Nat} (h1 : rg x = 0) (h2 : rg y = 0) : hypotW x y = 0 := by
  unfold hypotW
  have : (0 : Nat) < INF := by decide
  rw [if_neg (by omega), if_neg (by omega), if_pos ⟨h1, h2⟩]
theorem hypotW_axis {x y : Nat} (hx : rg x = 0) (hy : Num y) : hypotW x y = rg y := by
  have h0 : (0 : Nat) < INF := by decide
  by_cases h1 : rg y = INF
  · rw [hypotW_inf (Or.inr (by unfold isInf; simpa using h1)), h1]
  · by_cases h2 : rg y = 0
    · rw [hypotW_zero hx h2, h2]
    · unfold hypotW; unfold Num at hy
      rw [if_neg (by omega), if_neg (by omega), if_neg (by omega), if_pos (by omega), hx]
      exact hyp_zero (by unfold Fi; rw [rg_rg]; omega) (rg_wd y) (sg_rg y) (by rw [rg_rg]; exact h2)

/-- The general case: the greater part and the smaller one. -/
theorem hypotW_gen {x y : Nat} (hx : Fi x) (hy : Fi y) (h0 : ¬ (rg x = 0 ∧ rg y = 0)) :
    ∃ big small r s t q, ((big = rg x ∧ small = rg y) ∨ (big = rg y ∧ small = rg x)) ∧ Fi big ∧ Fi small ∧ sg big = false ∧ sg small = false ∧ rg big ≠ 0 ∧
      rg small ≤ rg big ∧ Hyp big small r s t q (hypotW x y) := by
  have fx' : Fi (rg x) := by unfold Fi at *; rw [rg_rg]; exact hx
  have fy' : Fi (rg y) := by unfold Fi at *; rw [rg_rg]; exact hy
  have e : hypotW x y = if rg x < rg y then hyp2 (rg y) (rg x) else hyp2 (rg x) (rg y) := by
    unfold hypotW; unfold Fi at hx hy
    rw [if_neg (by omega), if_neg (by omega), if_neg h0]
  by_cases c4 : rg x < rg y
  · obtain ⟨r, s, t, q, z, H⟩ := hyp_ok fy' fx' (sg_rg y) (sg_rg x) (by rw [rg_rg]; omega) (by rw [val_rg, val_rg]; exact Rat.le_of_lt (rv_lt_iff.2 c4))
    rw [e, if_pos c4, H.eq]
    exact ⟨rg y, rg x, r, s, t, q, Or.inr ⟨rfl, rfl⟩, fy', fx', sg_rg y, sg_rg x, by rw [rg_rg]; omega, by rw [rg_rg, rg_rg]; omega, H⟩
  · obtain ⟨r, s, t, q, z, H⟩ := hyp_ok fx' fy' (sg_rg x) (sg_rg y) (by rw [rg_rg]; omega) (by rw [val_rg, val_rg]; exact rv_le_iff.2 (by omega))
    rw [e, if_neg c4, H.eq]
    exact ⟨rg x, rg y, r, s, t, q, Or.inl ⟨rfl, rfl⟩, fx', fy', sg_rg x, sg_rg y, by rw [rg_rg]; omega, by rw [rg_rg, rg_rg]; omega, H⟩

theorem Hyp.ge {big small r s t q z : Nat} (H : Hyp big small r s t q z) (nb : Num big) (sb : sg big = false) : val big ≤ val z := by
  refine H.r5.lo big nb ?_
  have := Rat.mul_le_mul_of_nonneg_right H.bq (val_nonneg sb)
  grind

theorem hypotW_wd (x y : Nat) : Wd (hypotW x y) := by
  by_cases c1 : rg x = INF ∨ rg y = INF
  · unfold hypotW; rw [if_pos c1]; unfold Wd; decide
  · by_cases c2 : INF < rg x ∨ INF < rg y
    · unfold hypotW; rw [if_neg c1, if_pos c2]; unfold Wd; decide
    · by_cases c3 : rg x = 0 ∧ rg y = 0
      · rw [hypotW_zero c3.1 c3.2]; unfold Wd; decide
      · obtain ⟨_, _, _, _, _, _, _, _, _, _, _, _, _, H⟩ := hypotW_gen (x := x) (y := y) (by unfold Fi; omega) (by unfold Fi; omega) c3
        exact H.r5.wd
theorem hypotW_sg (x y : Nat) : sg (hypotW x y) = false := by
  by_cases c1 : rg x = INF ∨ rg y = INF
  · unfold hypotW; rw [if_pos c1]; decide
  · by_cases c2 : INF < rg x ∨ INF < rg y
    · unfold hypotW; rw [if_neg c1, if_pos c2]; decide
    · by_cases c3 : rg x = 0 ∧ rg y = 0
      · rw [hypotW_zero c3.1 c3.2]; decide
      · obtain ⟨_, _, _, _, _, _, _, _, _, _, _, _, _, H⟩ := hypotW_gen (x := x) (y := y) (by unfold Fi; omega) (by unfold Fi; omega) c3
        exact H.sz
theorem hypotW_num {x y : Nat} (h : isInf x = true ∨ isInf y = true ∨ (Num x ∧ Num y)) : Num (hypotW x y) := by
  by_cases c1 : rg x = INF ∨ rg y = INF
  · unfold hypotW; rw [if_pos c1]; unfold Num; decide
  · have hn : Num x ∧ Num y := by
      unfold isInf at h; simp at h
      rcases h with h | h | h
      · exact absurd (Or.inl h) c1
      · exact absurd (Or.inr h) c1
      · exact h
    by_cases c3 : rg x = 0 ∧ rg y = 0
    · rw [hypotW_zero c3.1 c3.2]; unfold Num; decide
    · unfold Num at hn
      obtain ⟨_, _, _, _, _, _, _, _, _, _, _, _, _, H⟩ := hypotW_gen (x := x) (y := y) (by unfold Fi; omega) (by unfold Fi; omega) c3
      exact H.r5.num
/-- Not less than the parts. -/
theorem hypotW_ge {x y : Nat} (hx : Fi x) (hy : Fi y) : val (rg x) ≤ val (hypotW x y) ∧ val (rg y) ≤ val (hypotW x y) := by
  by_cases c3 : rg x = 0 ∧ rg y = 0
  · rw [hypotW_zero c3.1 c3.2, c3.1, c3.2]; exact ⟨Rat.le_refl, Rat.le_refl⟩
  · obtain ⟨big, small, r, s, t, q, hc, fb, fs, sb, ss, h0, hle, H⟩ := hypotW_gen hx hy c3
    have h1 := H.ge fb.num sb
    have h2 : val small ≤ val big := by rw [val_pos_word sb, val_pos_word ss]; exact rv_le_iff.2 hle
    rcases hc with ⟨rfl, rfl⟩ | ⟨rfl, rfl⟩
    · exact ⟨h1, Rat.le_trans h2 h1⟩
    · exact ⟨Rat.le_trans h2 h1, h1⟩
/-- It is a zero of zeros alone. -/
theorem hypotW_pos {x y : Nat} (hx : Fi x) (hy : Fi y) (h : ¬ (rg x = 0 ∧ rg y = 0)) : 0 < val (hypotW x y) := by
  have hg := hypotW_ge hx hy
  rw [val_rg, val_rg] at hg
  by_cases h1 : rg x = 0
  · have := rv_pos (g := rg y) (by omega); grind
  · have := rv_pos (g := rg x) (by omega); grind

theorem min_sw (g : Nat) : min g INF < SW := by have := inf_lt_sw; omega
theorem min_mono {a b : Nat} (h : a ≤ b) : min a INF ≤ min b INF := by omega
/-- A product and a sum, rounded. -/
theorem mul_le_add {a b c d z s : Nat} (fa : Fi a) (fb : Fi b) (fc : Fi c) (fdd : Fi d) (h0 : 0 ≤ val a * val b) (h : val a * val b < val c + val d)
    (hz : fmul a b = some z) (hs : fadd c d = some s) : val z ≤ val s := by
  obtain ⟨m, p, e1, e2, _⟩ := read_fin fa
  obtain ⟨n, q, f1, f2, _⟩ := read_fin fb
  obtain ⟨k, i, g1, g2, _⟩ := read_fin fc
  obtain ⟨l, j, l1, l2, _⟩ := read_fin fdd
  unfold fmul Ieee.Format.mul at hz
  unfold fadd Ieee.Format.add at hs
  rw [e1, f1] at hz
  rw [g1, l1] at hs
  simp only [Ieee.Datum.product, Option.map_some, Ieee.Format.write, Option.some.injEq] at hz
  simp only [Ieee.Datum.sum, Option.map_some, Ieee.Format.write, Option.some.injEq] at hs
  obtain ⟨b0, hb⟩ : ∃ b0, b0 = min i j := ⟨_, rfl⟩
  rw [← hb] at hs
  have s1 := scaled_val (base := b0) (by omega) g2
  have s2 := scaled_val (base := b0) (by omega) l2
  have tot : (((Ieee.signed (sg c) k (i - b0).toNat + Ieee.signed (sg d) l (j - b0).toNat : Int)) : Rat) * (2 : Rat) ^ b0 = val c + val d := by
    rw [Rat.intCast_add, Rat.add_mul, s1, s2]
  generalize Ieee.signed (sg c) k (i - b0).toNat + Ieee.signed (sg d) l (j - b0).toNat = T at *
  have hp := zp_pos b0
  have tp : 0 < T := by
    have h1 : 0 < (T : Rat) * (2 : Rat) ^ b0 := by rw [tot]; grind
    rw [Rat.mul_pos_iff_of_pos_right hp] at h1
    exact Rat.intCast_pos.1 h1
  obtain ⟨t1, t2, t3, t4⟩ : T.natAbs ≠ 0 ∧ ((T.natAbs : Nat) : Int) = T ∧ ¬ T = 0 ∧ decide (T < 0) = false := by
    clear hz hs e1 f1 g1 l1
    refine ⟨by omega, by omega, by omega, by simp; omega⟩
  rw [if_neg t3, t4, nearest_eq false T.natAbs b0 t1] at hs
  have eT : (T.natAbs : Rat) * (2 : Rat) ^ b0 = val c + val d := by
    rw [← tot]; congr 1; rw [← Rat.intCast_natCast, t2]
  have hm1 := min_sw (near false T.natAbs b0)
  by_cases hm : m * n = 0
  · have hz0 : rg z = 0 := by
      rw [← hz, hm]; unfold Ieee.Format.nearest; rw [if_pos rfl, word_rg (by decide)]
    rw [val_pm z, hz0, rv_zero, Rat.mul_zero, ← hs, val_word hm1]
    unfold pm; simp; exact rv_nonneg _
  · rw [nearest_eq _ _ _ hm] at hz
    have hmono := near_mono (near_spec (sg a ^^ sg b) (m * n) (p + q) hm) (near_spec false T.natAbs b0 t1) (by
      rw [eT]
      have ev : ((m * n : Nat) : Rat) * (2 : Rat) ^ (p + q) = rv (rg a) * rv (rg b) := by
        rw [← e2, ← f2, Rat.natCast_mul, zp_add]; grind
      rw [ev]
      have a0 := rv_nonneg (rg a)
      have b1 := rv_nonneg (rg b)
      have ab := Rat.mul_nonneg a0 b1
      rw [val_pm a, val_pm b] at h h0
      clear hz hs e1 f1 g1 l1 tot eT ev e2 f2 g2 l2 s1 s2
      generalize rv (rg a) = A at *
      generalize rv (rg b) = B1 at *
      generalize val c + val d = S at *
      unfold pm at h h0
      cases h1 : sg a <;> cases h2 : sg b <;> simp only [h1, h2, Bool.false_eq_true, if_false, if_true] at h h0 <;> grind)
    have hm2 := min_sw (near (sg a ^^ sg b) (m * n) (p + q))
    have r1 := rv_nonneg (min (near (sg a ^^ sg b) (m * n) (p + q)) INF)
    have r2 : rv (min (near (sg a ^^ sg b) (m * n) (p + q)) INF) ≤ rv (min (near false T.natAbs b0) INF) := rv_le_iff.2 (min_mono hmono)
    rw [← hz, ← hs, val_word hm1, val_word hm2]
    clear hz hs e1 f1 g1 l1 tot eT e2 f2 g2 l2 s1 s2
    generalize rv (min (near (sg a ^^ sg b) (m * n) (p + q)) INF) = A at *
    generalize rv (min (near false T.natAbs b0) INF) = B1 at *
    unfold pm
    cases (sg a ^^ sg b) <;> simp <;> grind

theorem abs_of_nonneg' {v : Rat} (h : 0 ≤ v) : v.abs = v := Rat.abs_of_nonneg h
theorem u_small : u ≤ 1 / 1267650600228229401496703205376 := by unfold u; decide +kernel

/-- The root that Hypot takes is below 1 and the quotient. -/
theorem Hyp.below {big small r s t q z : Nat} (H : Hyp big small r s t q z) (sb : sg big = false) (ss : sg small = false) (h0 : rg big ≠ 0) (hs0 : rg small ≠ 0) :
    val q * val big < val small + val big := by
  have pb := val_pos sb h0
  have ps := val_pos ss hs0
  have hu := u_small
  have hu0 := u_pos
  obtain ⟨a, ha⟩ : ∃ a, a = val small / val big := ⟨_, rfl⟩
  have a0 : 0 < a := by rw [ha]; rw [Rat.lt_div_iff pb]; grind
  have eab : a * val big = val small := by rw [ha]; exact Rat.div_mul_cancel (Rat.ne_of_gt pb)
  have key : val q < 1 + a := by
    have k53 : e53 = 1 / 9007199254740992 := by unfold e53; decide +kernel
    have k52 : e52 = 1 / 4503599627370496 := by unfold e52; decide +kernel
    have r0 := val_nonneg H.sr
    have s0 := val_nonneg H.ss
    by_cases hc : a ≤ 1 / 134217728
    · have v1 : val 4485585228861014016 = 1 / 134217728 := by decide +kernel
      have v2 : val 4363988038922010624 = 1 / 18014398509481984 := by decide +kernel
      have b1 : val r ≤ 1 / 134217728 := by
        have := H.r1.up 4485585228861014016 (by unfold Num; decide) (by rw [v1, ← ha]; exact hc)
        rwa [v1] at this
      have b2 : val r * val r ≤ 1 / 18014398509481984 := by
        have := mul_self_le r0 b1; grind
      have b3 : val s ≤ 1 / 18014398509481984 := by
        have := H.r2.up 4363988038922010624 (by unfold Num; decide) (by rw [v2]; exact b2)
        rwa [v2] at this
      have b4 := (H.r3.err H.ft).1
      rw [abs_of_nonneg' (by grind), k53] at b4
      have v3 : rv (ONE + 1) = 1 + 1 / 4503599627370496 := by decide +kernel
      have b5 : rv (rg t) < rv (ONE + 1) := by
        rw [v3, ← val_pos_word H.st]; grind
      have b6 := rv_lt_iff.1 b5
      have b7 : val t ≤ 1 := by
        rw [val_pos_word H.st, ← val_ONE, val_pos_word ONE_sg]
        exact rv_le_iff.2 (by have : rg ONE = ONE := by decide
                              omega)
      have b8 := H.r4.up ONE num_ONE ONE_sg (by rw [val_ONE]; grind)
      rw [val_ONE] at b8
      grind
    · have c1 : a ≤ 1 := by
        have := H.le
        rw [ha, ← Rat.not_lt, Rat.lt_div_iff pb]
        grind
      have e1 := (H.r1.err H.fr).1
      rw [← ha, abs_of_nonneg' (Rat.le_of_lt a0), k52] at e1
      have d1 : val r ≤ a + 1 / 1125899906842624 := by grind
      have d2 : val r * val r ≤ a * a + 3 / 1125899906842624 := by
        have := mul_self_le r0 d1
        have h3 := Rat.mul_le_mul_of_nonneg_left c1 (Rat.le_of_lt a0)
        grind
      have e2 := (H.r2.err H.fs).1
      rw [abs_of_nonneg' (Rat.mul_nonneg r0 r0), k53] at e2
      have rr1 : val r * val r ≤ 1 := by
        have := Rat.mul_le_mul_of_nonneg_left H.br r0
        have := H.br
        grind
      have d3 : val s ≤ a * a + 4 / 1125899906842624 := by grind
      have e3 := (H.r3.err H.ft).1
      rw [abs_of_nonneg' (by grind), k53] at e3
      have bs := H.bs
      have d4 : val t ≤ 1 + a * a + 5 / 1125899906842624 := by grind
      have e4 := H.r4.errU
      rw [k52] at e4
      have bt2 := H.bt2
      have bt := H.bt
      have d5 : val q * val q ≤ 1 + a * a + 8 / 1125899906842624 := by grind
      have q0 := val_nonneg H.sq
      by_cases hq : val q < 1 + a
      · exact hq
      · exfalso
        have h4 := mul_self_le (show (0 : Rat) ≤ 1 + a by grind) (show 1 + a ≤ val q by grind)
        grind
  have := Rat.mul_lt_mul_of_pos_right key pb
  grind

end Go.Proofs.Ytnbcodpmglifdaa

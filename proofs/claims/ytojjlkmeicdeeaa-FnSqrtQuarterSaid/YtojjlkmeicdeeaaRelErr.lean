/- How far off, as a part: the steps of Hypot, and what they give for the sum of the squares. -/
import Derived.Test.YtojjlkmeicdeeaaHypotLaws
set_option linter.unusedSimpArgs false
set_option linter.unusedVariables false
namespace Go.Proofs.Ytojjlkmeicdeeaa
open F64

/-- 'z' is off from 'v' by at most a part 'd' of it. -/
def Rel (v z d : Rat) : Prop := v * (1 - d) ≤ z ∧ z ≤ v * (1 + d)
theorem Rel.mono {v z d d' : Rat} (h : Rel v z d) (hv : 0 ≤ v) (hd : d ≤ d') : Rel v z d' := by
  obtain ⟨h1, h2⟩ := h
  have := Rat.mul_le_mul_of_nonneg_left hd hv
  constructor <;> grind
theorem Rel.nonneg {v z d : Rat} (h : Rel v z d) (hv : 0 ≤ v) (hd : d ≤ 1) : 0 ≤ z := by
  have := Rat.mul_nonneg hv (show 0 ≤ 1 - d by grind)
  exact Rat.le_trans this h.1
theorem Rel.refl (v : Rat) : Rel v v 0 := by constructor <;> grind
theorem mul_le_mul' {a b c d : Rat} (h1 : a ≤ b) (h2 : c ≤ d) (ha : 0 ≤ a) (hd : 0 ≤ d) : a * c ≤ b * d := by
  have k1 := Rat.mul_le_mul_of_nonneg_left h2 ha
  have k2 := Rat.mul_le_mul_of_nonneg_right h1 hd
  exact Rat.le_trans k1 k2
theorem Rel.mul {v z d v' z' d' e : Rat} (h : Rel v z d) (h' : Rel v' z' d') (hv : 0 ≤ v) (hv' : 0 ≤ v') (d0 : 0 ≤ d) (d1 : d ≤ 1) (d0' : 0 ≤ d') (d1' : d' ≤ 1) (he : d + d' + d * d' ≤ e) : Rel (v * v') (z * z') e := by
  have n1 := h.nonneg hv d1
  have n2 := h'.nonneg hv' d1'
  have vv := Rat.mul_nonneg hv hv'
  have dd := Rat.mul_nonneg vv (Rat.mul_nonneg d0 d0')
  refine Rel.mono (d := d + d' + d * d') ⟨?_, ?_⟩ vv he
  · have := mul_le_mul' h.1 h'.1 (Rat.mul_nonneg hv (show 0 ≤ 1 - d by grind)) n2
    have e : v * (1 - d) * (v' * (1 - d')) = v * v' * (1 - (d + d' + d * d')) + (v * v' * (d * d') + v * v' * (d * d')) := by grind
    grind
  · have := mul_le_mul' h.2 h'.2 n1 (Rat.mul_nonneg hv' (show 0 ≤ 1 + d' by grind))
    have e : v * (1 + d) * (v' * (1 + d')) = v * v' * (1 + (d + d' + d * d')) := by grind
    grind
theorem Rel.trans {v z w d d' e : Rat} (h : Rel v z d) (h' : Rel z w d') (hv : 0 ≤ v) (d0 : 0 ≤ d) (d1 : d ≤ 1) (d0' : 0 ≤ d') (d1' : d' ≤ 1) (he : d + d' + d * d' ≤ e) : Rel v w e := by
  have n1 := h.nonneg hv d1
  have dd := Rat.mul_nonneg hv (Rat.mul_nonneg d0 d0')
  refine Rel.mono (d := d + d' + d * d') ⟨?_, ?_⟩ hv he
  · have := Rat.mul_le_mul_of_nonneg_right h.1 (show 0 ≤ 1 - d' by grind)
    have k := h'.1
    have e : v * (1 - d) * (1 - d') = v * (1 - (d + d' + d * d')) + (v * (d * d') + v * (d * d')) := by grind
    grind
  · have := Rat.mul_le_mul_of_nonneg_right h.2 (show 0 ≤ 1 + d' by grind)
    have k := h'.2
    have e : v * (1 + d) * (1 + d') = v * (1 + (d + d' + d * d')) := by grind
    grind
theorem Rel.add {v z v' z' d : Rat} (h : Rel v z d) (h' : Rel v' z' d) : Rel (v + v') (z + z') d := by
  obtain ⟨a, b⟩ := h
  obtain ⟨a', b'⟩ := h'
  constructor <;> grind
/-- A square that is near gives a number that is near. -/
theorem Rel.unsq {v z d : Rat} (h : Rel (v * v) (z * z) d) (hv : 0 ≤ v) (hz : 0 ≤ z) (d0 : 0 ≤ d) (d1 : d ≤ 1) : Rel v z d := by
  have vv := Rat.mul_nonneg hv hv
  obtain ⟨h1, h2⟩ := h
  constructor
  · refine le_of_mul_self hz ?_
    have e : v * (1 - d) * (v * (1 - d)) = v * v * (1 - d) * (1 - d) := by grind
    have := Rat.mul_le_mul_of_nonneg_left (show 1 - d ≤ 1 by grind) (Rat.mul_nonneg vv (show 0 ≤ 1 - d by grind))
    grind
  · refine le_of_mul_self (Rat.mul_nonneg hv (show 0 ≤ 1 + d by grind)) ?_
    have e : v * (1 + d) * (v * (1 + d)) = v * v * (1 + d) * (1 + d) := by grind
    have := Rat.mul_le_mul_of_nonneg_left (show 1 ≤ 1 + d by grind) (Rat.mul_nonneg vv (show 0 ≤ 1 + d by grind))
    grind

def LOW : Rat := (2 : Rat) ^ (-1000 : Int)
theorem LOW_pos : 0 < LOW := zp_pos _
theorem u_low : u ≤ LOW * (1 / 1180591620717411303424) := by unfold u LOW; decide +kernel
theorem Rnd_rel {e v : Rat} {z : Nat} (R : Rnd e v z) (hf : Fi z) (hv : v = 0 ∨ LOW ≤ v) {d : Rat} (hd : e + 1 / 1180591620717411303424 ≤ d) : Rel v (val z) d := by
  rcases hv with h0 | h0
  · have := R.exact num_zero (by rw [val_zero, h0])
    rw [this, h0]; constructor <;> simp
  · have hp := LOW_pos
    have v0 : 0 ≤ v := by grind
    obtain ⟨h1, h2⟩ := R.err hf
    rw [Rat.abs_of_nonneg v0] at h1 h2
    have ul := u_low
    have k := Rat.mul_le_mul_of_nonneg_right h0 (show (0 : Rat) ≤ 1 / 1180591620717411303424 by decide +kernel)
    refine Rel.mono (d := e + 1 / 1180591620717411303424) ⟨?_, ?_⟩ v0 hd <;> grind
theorem k53 : e53 = 1 / 9007199254740992 := by unfold e53; decide +kernel
theorem k52 : e52 = 2 / 9007199254740992 := by unfold e52; decide +kernel
theorem Rnd_rel1 {v : Rat} {z : Nat} (R : Rnd e53 v z) (hf : Fi z) (hv : v = 0 ∨ LOW ≤ v) : Rel v (val z) (1001 / 1000 / 9007199254740992) := Rnd_rel R hf hv (by rw [k53]; decide +kernel)
theorem Rnd_rel2 {v : Rat} {z : Nat} (R : Rnd e52 v z) (hf : Fi z) (hv : v = 0 ∨ LOW ≤ v) : Rel v (val z) (2001 / 1000 / 9007199254740992) := Rnd_rel R hf hv (by rw [k52]; decide +kernel)
theorem Root_rel {x z : Nat} (R : Root x z) (hx : 0 ≤ val x) : Rel (val x) (val z * val z) (4001 / 1000 / 9007199254740992) := by
  have h1 := R.errU
  have h2 := R.errL
  rw [k52] at h1 h2
  have e1 : (1 + (2 : Rat) / 9007199254740992) * (1 + 2 / 9007199254740992) ≤ 1 + 4001 / 1000 / 9007199254740992 := by decide +kernel
  have e2 : 1 - 4001 / 1000 / 9007199254740992 ≤ (1 - (2 : Rat) / 9007199254740992) * (1 - 2 / 9007199254740992) := by decide +kernel
  exact ⟨Rat.le_trans (Rat.mul_le_mul_of_nonneg_left e2 hx) h2, Rat.le_trans h1 (Rat.mul_le_mul_of_nonneg_left e1 hx)⟩

/-- The square of what Hypot gives is near the sum of the squares. -/
theorem Hyp.rel {big small r s t q z : Nat} (H : Hyp big small r s t q z) (sb : sg big = false) (ss : sg small = false) (h0 : rg big ≠ 0)
    (hs : val small = 0 ∨ val big ≤ val small * (2 : Rat) ^ (200 : Int)) (hb : (2 : Rat) ^ (-900 : Int) ≤ val big) (fz : Fi z) :
    Rel (val big * val big + val small * val small) (val z * val z) (10 / 9007199254740992) := by
  have pb := val_pos sb h0
  have ps := val_nonneg ss
  have lp := LOW_pos
  obtain ⟨a, ha⟩ : ∃ a, a = val small / val big := ⟨_, rfl⟩
  have eab : a * val big = val small := by rw [ha]; exact Rat.div_mul_cancel (Rat.ne_of_gt pb)
  have a0 : 0 ≤ a := by rw [ha, ← Rat.not_lt, Rat.div_lt_iff pb]; grind
  have a1 : a ≤ 1 := by
    have := H.le
    rw [ha, ← Rat.not_lt, Rat.lt_div_iff pb]; grind
  have aa1 : a * a ≤ 1 := by have := mul_self_le a0 a1; grind
  have aa0 := Rat.mul_nonneg a0 a0
  have alow : a = 0 ∨ (2 : Rat) ^ (-200 : Int) ≤ a := by
    rcases hs with h | h
    · left
      rw [h] at eab
      rcases Rat.mul_eq_zero.1 eab with h | h
      · exact h
      · grind
    · right
      refine Rat.not_lt.1 fun hc => ?_
      have k := Rat.mul_lt_mul_of_pos_right hc pb
      have k2 := Rat.mul_lt_mul_of_pos_right k (zp_pos 200)
      rw [eab] at k2
      have e : (2 : Rat) ^ (-200 : Int) * val big * (2 : Rat) ^ (200 : Int) = val big * ((2 : Rat) ^ (-200 : Int) * (2 : Rat) ^ (200 : Int)) := by grind
      rw [e, show (2 : Rat) ^ (-200 : Int) * (2 : Rat) ^ (200 : Int) = 1 from by decide +kernel] at k2
      grind
  have l200 : LOW ≤ (2 : Rat) ^ (-200 : Int) := by unfold LOW; decide +kernel
  have l2 : LOW ≤ (2 : Rat) ^ (-201 : Int) * (2 : Rat) ^ (-201 : Int) := by unfold LOW; decide +kernel
  have l3 : (2 : Rat) ^ (-201 : Int) ≤ (2 : Rat) ^ (-200 : Int) * (1 - 2001 / 1000 / 9007199254740992) := by decide +kernel
  have l4 : LOW ≤ (2 : Rat) ^ (-900 : Int) := by unfold LOW; decide +kernel
  have l5 : LOW ≤ 1 := by unfold LOW; decide +kernel
  have p201 : (0 : Rat) < (2 : Rat) ^ (-201 : Int) := zp_pos _
  clear hs
  have R1 := H.r1; rw [← ha] at R1
  have c1 := Rnd_rel2 R1 H.fr (alow.imp id (fun h => Rat.le_trans l200 h))
  have r0 := val_nonneg H.sr
  have rlow : val r * val r = 0 ∨ LOW ≤ val r * val r := by
    rcases alow with h | h
    · left; have := c1.2; have := c1.1; rw [h] at this; have e : val r = 0 := by grind
      rw [e]; simp
    · right
      have k := Rat.mul_le_mul_of_nonneg_right h (show (0 : Rat) ≤ 1 - 2001 / 1000 / 9007199254740992 by decide +kernel)
      have k2 : (2 : Rat) ^ (-201 : Int) ≤ val r := Rat.le_trans l3 (Rat.le_trans k c1.1)
      exact Rat.le_trans l2 (mul_self_le (Rat.le_of_lt p201) k2)
  have c2 : Rel (a * a) (val r * val r) (4003 / 1000 / 9007199254740992) := c1.mul c1 a0 a0 (by decide +kernel) (by decide +kernel) (by decide +kernel) (by decide +kernel) (by decide +kernel)
  have c3 : Rel (a * a) (val s) (5005 / 1000 / 9007199254740992) := c2.trans (Rnd_rel1 H.r2 H.fs rlow) aa0 (by decide +kernel) (by decide +kernel) (by decide +kernel) (by decide +kernel) (by decide +kernel)
  have c4 : Rel (1 + a * a) (val s + 1) (2503 / 1000 / 9007199254740992) := by
    obtain ⟨h1, h2⟩ := c3
    constructor <;> grind
  have n4 : 0 ≤ 1 + a * a := by grind
  have s0 := val_nonneg H.ss
  have c5 : Rel (1 + a * a) (val t) (3505 / 1000 / 9007199254740992) := c4.trans (Rnd_rel1 H.r3 H.ft (Or.inr (by grind))) n4 (by decide +kernel) (by decide +kernel) (by decide +kernel) (by decide +kernel) (by decide +kernel)
  have c6 : Rel (1 + a * a) (val q * val q) (7507 / 1000 / 9007199254740992) := c5.trans (Root_rel H.r4 (val_nonneg H.st)) n4 (by decide +kernel) (by decide +kernel) (by decide +kernel) (by decide +kernel) (by decide +kernel)
  have bb := Rat.mul_nonneg (Rat.le_of_lt pb) (Rat.le_of_lt pb)
  have eN : (1 + a * a) * (val big * val big) = val big * val big + val small * val small := by rw [← eab]; grind
  have c7 : Rel (val big * val big + val small * val small) (val q * val q * (val big * val big)) (7508 / 1000 / 9007199254740992) := by
    rw [← eN]
    exact c6.mul (Rel.refl _) n4 bb (by decide +kernel) (by decide +kernel) (by decide +kernel) (by decide +kernel) (by decide +kernel)
  have q0 := val_nonneg H.sq
  have qb := Rat.mul_nonneg q0 (Rat.le_of_lt pb)
  have c8 := Rnd_rel1 H.r5 fz (Or.inr (by
    have := Rat.mul_le_mul_of_nonneg_right H.bq (Rat.le_of_lt pb)
    grind))
  have c9 : Rel (val q * val big * (val q * val big)) (val z * val z) (2003 / 1000 / 9007199254740992) := c8.mul c8 qb qb (by decide +kernel) (by decide +kernel) (by decide +kernel) (by decide +kernel) (by decide +kernel)
  rw [show val q * val q * (val big * val big) = val q * val big * (val q * val big) from by grind] at c7
  exact c7.trans c9 (by have := Rat.mul_nonneg ps ps; grind) (by decide +kernel) (by decide +kernel) (by decide +kernel) (by decide +kernel) (by decide +kernel)

/-- The same for the words of Hypot. -/
theorem hypotW_rel {x y : Nat} (hx : Fi x) (hy : Fi y) (h0 : ¬ (rg x = 0 ∧ rg y = 0)) (fz : Fi (hypotW x y))
    (h1 : rv (rg x) = 0 ∨ rv (rg y) ≤ rv (rg x) * (2 : Rat) ^ (200 : Int)) (h2 : rv (rg y) = 0 ∨ rv (rg x) ≤ rv (rg y) * (2 : Rat) ^ (200 : Int))
    (l1 : rv (rg x) = 0 ∨ (2 : Rat) ^ (-900 : Int) ≤ rv (rg x)) (l2 : rv (rg y) = 0 ∨ (2 : Rat) ^ (-900 : Int) ≤ rv (rg y)) :
    Rel (rv (rg x) * rv (rg x) + rv (rg y) * rv (rg y)) (val (hypotW x y) * val (hypotW x y)) (10 / 9007199254740992) := by
  obtain ⟨big, small, r, s, t, q, hb, fb, fs, sb, ss, hb0, hle, H⟩ := hypotW_gen hx hy h0
  have pb := val_pos sb hb0
  rcases hb with ⟨e1, e2⟩ | ⟨e1, e2⟩
  · have vb : rv (rg x) = val big := by rw [e1, val_rg]
    have vs : rv (rg y) = val small := by rw [e2, val_rg]
    rw [vb, vs] at h1 h2 ⊢
    rw [vb] at l1
    refine H.rel sb ss hb0 h2 ?_ fz
    rcases l1 with h | h
    · exact absurd h (Rat.ne_of_gt pb)
    · exact h
  · have vb : rv (rg y) = val big := by rw [e1, val_rg]
    have vs : rv (rg x) = val small := by rw [e2, val_rg]
    rw [vb, vs] at h1 h2 ⊢
    rw [vb] at l2
    rw [show val small * val small + val big * val big = val big * val big + val small * val small from by grind]
    refine H.rel sb ss hb0 h1 ?_ fz
    rcases l2 with h | h
    · exact absurd h (Rat.ne_of_gt pb)
    · exact h
end Go.Proofs.Ytojjlkmeicdeeaa

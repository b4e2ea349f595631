/- Hypot of words times a power of 2: the same steps, binades higher. -/
import Derived.Test.YtojjlkmeicdeeaaSqrtMore
set_option linter.unusedSimpArgs false
set_option linter.unusedVariables false
namespace Go.Proofs.Ytojjlkmeicdeeaa
open F64 Ieee

theorem rung_rg {g : Nat} (h : g < INF) : rg g = g ∧ sg g = false := by
  have hs := inf_lt_sw
  have e : g = Ieee.double.word false g := by rw [word_eq]; simp
  refine ⟨by unfold rg; exact Nat.mod_eq_of_lt (by omega), ?_⟩
  rw [e]; exact word_sg (by omega)
theorem read_rung {g : Nat} (h : B ≤ g) (h2 : g < INF) : double.read g = .number false (B + g % B) (-1074 + ((g / B - 1 : Nat) : Int)) := by
  have hr : double.read g = (if rg g < B then .number (sg g) (rg g) (-1074) else if rg g < INF then .number (sg g) (B + rg g % B) (-1074 + ((rg g / B - 1 : Nat) : Int)) else if rg g = INF then .infinity (sg g) else .nan (sg g) (rg g - INF)) := by
    unfold Format.read rg sg; simp only [e_sw, e_b, e_inf, e_lp]
  obtain ⟨e1, e2⟩ := rung_rg h2
  rw [hr, e1, e2, if_neg (by omega), if_pos h2]
theorem read_up {g j : Nat} (h : B ≤ g) (h2 : g + j * B < INF) : double.read (g + j * B) = .number false (B + g % B) (-1074 + ((g / B - 1 : Nat) : Int) + (j : Int)) := by
  have hB := B_pos
  rw [read_rung (by omega) h2, Nat.add_mul_mod_self_right, Nat.add_mul_div_right _ _ hB]
  have h3 : 1 ≤ g / B := (Nat.le_div_iff_mul_le hB).2 (by omega)
  congr 1
  omega
/-- The quotient is the same. -/
theorem fdiv_up {s g j : Nat} (hs : B ≤ s) (hg : B ≤ g) (hs2 : s + j * B < INF) (hg2 : g + j * B < INF) : fdiv (s + j * B) (g + j * B) = fdiv s g := by
  unfold fdiv Format.div
  rw [read_up hs hs2, read_up hg hg2, read_rung hs (by omega), read_rung hg (by omega)]
  generalize (-1074 + ((s / B - 1 : Nat) : Int)) = i1
  generalize (-1074 + ((g / B - 1 : Nat) : Int)) = i2
  simp only [Datum.quotient]
  rw [show i1 + (j : Int) - (i2 + (j : Int)) = i1 - i2 from by omega]
theorem near_up (neg : Bool) (mag : Nat) (place : Int) (j : Nat) (h : -1022 ≤ place + (mag.log2 : Int)) : near neg mag (place + (j : Int)) = near neg mag place + j * B := by
  unfold near
  generalize mag.log2 = L at *
  obtain ⟨p, hp⟩ : ∃ p : Nat, p = (place + (L : Int) + 1022).toNat := ⟨_, rfl⟩
  have e : (place + (j : Int) + (L : Int) + 1022).toNat = p + j := by omega
  simp only [e, ← hp]
  rw [show place + (j : Int) + 1074 - ((p + j : Nat) : Int) = place + 1074 - (p : Int) from by omega,
    show ((p + j : Nat) : Int) - 1074 - (place + (j : Int)) = (p : Int) - 1074 - place from by omega, Nat.add_mul]
  generalize Toward.even.cut neg _ _ = c
  generalize p * B = d
  omega
theorem mag_log {mag : Nat} {place : Int} (hv : (2 : Rat) ^ (-1022 : Int) ≤ (mag : Rat) * (2 : Rat) ^ place) : mag ≠ 0 ∧ -1022 ≤ place + (mag.log2 : Int) := by
  constructor
  · intro h
    rw [h] at hv
    have := zp_pos (-1022)
    have z : ((0 : Nat) : Rat) * (2 : Rat) ^ place = 0 := by simp
    rw [z] at hv
    grind
  · have h3 : mag < 2 ^ (mag.log2 + 1) := Nat.lt_log2_self
    have h4 : (mag : Rat) < ((2 ^ (mag.log2 + 1) : Nat) : Rat) := Rat.natCast_lt_natCast.2 h3
    rw [← zp_nat] at h4
    have h5 := Rat.mul_lt_mul_of_pos_right h4 (zp_pos place)
    rw [← zp_add] at h5
    generalize mag.log2 = L at *
    by_cases hc : -1022 ≤ place + (L : Int)
    · exact hc
    · have h6 := zp_mono (i := ((L + 1 : Nat) : Int) + place) (j := -1022) (by clear h3 h4 h5 hv; omega)
      grind
theorem min_cases {a b c : Nat} (h : min a b = c) (hc : c < b) : min a b = a := by omega
theorem min_both {N j b x : Nat} (h : min (N + j) b < b) : min N b = N ∧ min (N + j) b = N + j := by omega
theorem word_up {N j z z' : Nat} (h1 : double.word false (min N INF) = z) (h2 : double.word false (min (N + j * B) INF) = z') (hz : B ≤ rg z) (fz : Fi z') : val z' = val z * (2 : Rat) ^ (j : Int) := by
  subst h1 h2
  have k1 := min_sw N
  have k2 := min_sw (N + j * B)
  unfold Fi at fz
  rw [word_rg k1] at hz
  rw [word_rg k2] at fz
  obtain ⟨a1, a2⟩ := min_both (x := 0) fz
  rw [val_pos_word (word_sg k1), val_pos_word (word_sg k2), word_rg k1, word_rg k2]
  rw [a1] at hz
  rw [a1, a2]
  exact rv_shift N j hz
theorem nearest_up {mag j z z' : Nat} {place : Int} (h1 : double.nearest false mag place = z) (h2 : double.nearest false mag (place + (j : Int)) = z')
    (hv : (2 : Rat) ^ (-1022 : Int) ≤ (mag : Rat) * (2 : Rat) ^ place) (hz : B ≤ rg z) (fz : Fi z') : val z' = val z * (2 : Rat) ^ (j : Int) := by
  obtain ⟨hm, hl⟩ := mag_log hv
  rw [nearest_eq _ _ _ hm] at h1 h2
  rw [near_up _ _ _ _ hl] at h2
  exact word_up h1 h2 hz fz
theorem rung_val {g : Nat} (hg : B ≤ g) (hg2 : g < INF) : ((B + g % B : Nat) : Rat) * (2 : Rat) ^ (-1074 + ((g / B - 1 : Nat) : Int)) = rv g := by
  have fg : Fi g := by unfold Fi; rw [(rung_rg hg2).1]; exact hg2
  obtain ⟨m', p', k1, k2, _⟩ := read_fin fg
  rw [read_rung hg hg2] at k1
  injection k1 with _ k3 k4
  rw [k3, k4, k2, (rung_rg hg2).1]
/-- A product, binades higher. -/
theorem fmul_up {q g j z z' : Nat} (fq : Fi q) (sq : sg q = false) (q1 : 1 ≤ val q) (hg : B ≤ g) (hg1 : g < INF) (hg2 : g + j * B < INF) (h1 : fmul q g = some z) (h2 : fmul q (g + j * B) = some z') (hz : B ≤ rg z) (fz : Fi z') :
    val z' = val z * (2 : Rat) ^ (j : Int) := by
  obtain ⟨m, p, e1, e2, _⟩ := read_fin fq
  have hr := read_rung hg hg1
  have vg := rung_val hg hg1
  unfold fmul Format.mul at h1 h2
  rw [e1, hr] at h1
  rw [e1, read_up hg hg2] at h2
  have gl : (2 : Rat) ^ (-1022 : Int) ≤ rv g := by
    have : rv B = (2 : Rat) ^ (-1022 : Int) := by decide +kernel
    rw [← this]; exact rv_le_iff.2 hg
  have qv : val q = (m : Rat) * (2 : Rat) ^ p := by rw [e2, val_pos_word sq]
  generalize B + g % B = n at *
  generalize (-1074 + ((g / B - 1 : Nat) : Int)) = i at *
  simp only [Datum.product, Option.map_some, Format.write, Option.some.injEq] at h1 h2
  rw [sq] at h1 h2
  rw [← Int.add_assoc] at h2
  refine nearest_up h1 h2 ?_ hz fz
  have e : ((m * n : Nat) : Rat) * (2 : Rat) ^ (p + i) = val q * rv g := by rw [qv, ← vg, Rat.natCast_mul, zp_add]; clear h1 h2; grind
  have k := mul_le_mul' q1 gl (by decide +kernel) (rv_nonneg g)
  rw [Rat.one_mul] at k
  rw [e]; exact k

theorem rung_fi {g : Nat} (h : g < INF) : Fi g := by unfold Fi; rw [(rung_rg h).1]; exact h
theorem rung_v {g : Nat} (h : g < INF) : val g = rv g := by rw [val_pos_word (rung_rg h).2, (rung_rg h).1]
/-- Hypot of two rungs, binades higher. -/
theorem hyp2_up {g s g' s' j : Nat} (hs : B ≤ s) (hle : s ≤ g) (eg : g' = g + j * B) (es : s' = s + j * B) (hg2 : g' < INF) (hm : rv g' ≤ P1022) : val (hyp2 g' s') = val (hyp2 g s) * (2 : Rat) ^ (j : Int) := by
  have hB := B_pos
  have hs2 : s' < INF := by omega
  have hgB : B ≤ g := by omega
  have hgI : g < INF := by omega
  have hsI : s < INF := by omega
  have hg0 : rg g ≠ 0 := by rw [(rung_rg hgI).1]; omega
  have hg0' : rg g' ≠ 0 := by rw [(rung_rg hg2).1]; omega
  have hle' : s' ≤ g' := by omega
  obtain ⟨r, a, t, q, z, H⟩ := hyp_ok (rung_fi hgI) (rung_fi hsI) (rung_rg hgI).2 (rung_rg hsI).2 hg0 (by rw [rung_v hgI, rung_v hsI]; exact rv_le_iff.2 hle)
  obtain ⟨r', a', t', q', z', H'⟩ := hyp_ok (rung_fi hg2) (rung_fi hs2) (rung_rg hg2).2 (rung_rg hs2).2 hg0' (by rw [rung_v hg2, rung_v hs2]; exact rv_le_iff.2 hle')
  rw [H.eq, H'.eq]
  have ed : fdiv s' g' = fdiv s g := by
    rw [eg] at hg2 ⊢
    rw [es] at hs2 ⊢
    exact fdiv_up hs hgB hs2 hg2
  have er : r' = r := Option.some.inj (by rw [← H'.d1, ed, H.d1])
  subst er
  have ea : a' = a := Option.some.inj (by rw [← H'.d2, H.d2])
  subst ea
  have et : t' = t := Option.some.inj (by rw [← H'.d3, H.d3])
  subst et
  have eq : q' = q := Option.some.inj (by rw [← H'.d4, H.d4])
  subst eq
  have hz : B ≤ rg z := by
    have k := H.ge (rung_fi hgI).num (rung_rg hgI).2
    rw [rung_v hgI, val_pos_word H.sz] at k
    exact Nat.le_trans hgB (rv_le_iff.1 k)
  have fz : Fi z' := by
    have k1 := H'.bq2
    have k2 := H'.bq
    have vb := rung_v hg2
    have k3 := mul_le_mul' k1 (show val g' ≤ P1022 by rw [vb]; exact hm) (by grind) (Rat.le_of_lt P1022_pos)
    have k4 := Rat.mul_nonneg (show 0 ≤ val q' by grind) (show 0 ≤ val g' by rw [vb]; exact rv_nonneg _)
    have k5 := P1022_MAXF
    have k6 := P1022_pos
    exact H'.r5.fin (by grind) (by grind)
  have d5 := H'.d5
  rw [eg] at d5 hg2
  exact fmul_up H.fq H.sq H.bq hgB hgI hg2 H.d5 d5 hz fz

theorem hypotW_def {x y : Nat} (hx : Fi x) (hy : Fi y) (h0 : rg x ≠ 0) : hypotW x y = if rg x < rg y then hyp2 (rg y) (rg x) else hyp2 (rg x) (rg y) := by
  unfold hypotW; unfold Fi at hx hy
  rw [if_neg (by omega), if_neg (by omega), if_neg (fun h => h0 h.1)]
/-- Hypot of words times 2^j. -/
theorem hypotW_up {x y x' y' j : Nat} (fx : Fi x) (fy : Fi y) (fx' : Fi x') (fy' : Fi y') (hx : (rg x = 0 ∧ rg x' = 0) ∨ (B ≤ rg x ∧ rg x' = rg x + j * B)) (hy : (rg y = 0 ∧ rg y' = 0) ∨ (B ≤ rg y ∧ rg y' = rg y + j * B))
    (mx : rv (rg x') ≤ P1022) (my : rv (rg y') ≤ P1022) : val (hypotW x' y') = val (hypotW x y) * (2 : Rat) ^ (j : Int) := by
  have hB := B_pos
  have ax : ∀ {u u' v v' : Nat}, Fi u → Fi u' → Fi v → Fi v' → rg u = 0 → rg u' = 0 → ((rg v = 0 ∧ rg v' = 0) ∨ (B ≤ rg v ∧ rg v' = rg v + j * B)) → val (hypotW u' v') = val (hypotW u v) * (2 : Rat) ^ (j : Int) := by
    intro u u' v v' f1 f2 f3 f4 h1 h2 h3
    rw [hypotW_axis h1 f3.num, hypotW_axis h2 f4.num, val_rg, val_rg]
    rcases h3 with ⟨e1, e2⟩ | ⟨e1, e2⟩
    · rw [e1, e2, rv_zero]; simp
    · rw [e2, rv_shift _ _ e1]
  rcases hx with ⟨x0, x1⟩ | ⟨x0, x1⟩
  · exact ax fx fx' fy fy' x0 x1 hy
  · rcases hy with ⟨y0, y1⟩ | ⟨y0, y1⟩
    · rw [hypotW_comm y' x', hypotW_comm y x]
      exact ax fy fy' fx fx' y0 y1 (Or.inr ⟨x0, x1⟩)
    · rw [hypotW_def fx fy (by omega), hypotW_def fx' fy' (by omega)]
      by_cases h : rg x < rg y
      · rw [if_pos (show rg x' < rg y' by omega), if_pos h]
        exact hyp2_up x0 (Nat.le_of_lt h) y1 x1 fy' my
      · rw [if_neg (show ¬ rg x' < rg y' by omega), if_neg h]
        exact hyp2_up y0 (Nat.le_of_not_lt h) x1 y1 fx' mx

/-- The rungs of a number and of it times 2^j. -/
theorem rung_up {x x' j : Nat} (h : rg x = 0 ∨ B ≤ rg x) (hv : rv (rg x') = rv (rg x) * (2 : Rat) ^ (j : Int)) : (rg x = 0 ∧ rg x' = 0) ∨ (B ≤ rg x ∧ rg x' = rg x + j * B) := by
  rcases h with h | h
  · left
    refine ⟨h, ?_⟩
    rw [h, rv_zero, Rat.zero_mul, ← rv_zero] at hv
    exact rv_inj hv
  · right
    refine ⟨h, ?_⟩
    rw [← rv_shift _ _ h] at hv
    exact rv_inj hv
/-- Hypot of words times 2^k. -/
theorem hypotW_scaled {x y x' y' : Nat} {k : Int} (fx : Fi x) (fy : Fi y) (fx' : Fi x') (fy' : Fi y') (vx : rv (rg x') = rv (rg x) * (2 : Rat) ^ k) (vy : rv (rg y') = rv (rg y) * (2 : Rat) ^ k)
    (nx : rg x = 0 ∨ B ≤ rg x) (ny : rg y = 0 ∨ B ≤ rg y) (nx' : rg x' = 0 ∨ B ≤ rg x') (ny' : rg y' = 0 ∨ B ≤ rg y')
    (mx : rv (rg x) ≤ P1022) (my : rv (rg y) ≤ P1022) (mx' : rv (rg x') ≤ P1022) (my' : rv (rg y') ≤ P1022) : val (hypotW x' y') = val (hypotW x y) * (2 : Rat) ^ k := by
  by_cases hk : 0 ≤ k
  · rw [show k = ((k.toNat : Nat) : Int) from by omega] at vx vy ⊢
    exact hypotW_up fx fy fx' fy' (rung_up nx vx) (rung_up ny vy) mx' my'
  · have e : (2 : Rat) ^ k * (2 : Rat) ^ (((-k).toNat : Nat) : Int) = 1 := by
      rw [← zp_add, show k + (((-k).toNat : Nat) : Int) = 0 from by omega]; rfl
    have vx2 : rv (rg x) = rv (rg x') * (2 : Rat) ^ (((-k).toNat : Nat) : Int) := by rw [vx, Rat.mul_assoc, e, Rat.mul_one]
    have vy2 : rv (rg y) = rv (rg y') * (2 : Rat) ^ (((-k).toNat : Nat) : Int) := by rw [vy, Rat.mul_assoc, e, Rat.mul_one]
    have h := hypotW_up fx' fy' fx fy (rung_up nx' vx2) (rung_up ny' vy2) mx my
    rw [h, Rat.mul_assoc, Rat.mul_comm ((2 : Rat) ^ (((-k).toNat : Nat) : Int)), e, Rat.mul_one]
end Go.Proofs.Ytojjlkmeicdeeaa

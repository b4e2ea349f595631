/- What the reference says of a root, held against the relation that Sqrt meets. -/
import Derived.Test.YtojjlkmeicdeeaaNanLaws
import Derived.Test.YtojjlkmeicdeeaaDue
set_option linter.unusedSimpArgs false
set_option linter.unusedVariables false
namespace Go.Proofs.Ytojjlkmeicdeeaa
open Go.RowKit F64

/-- What spec.Sqrt returns: what is due, where it is named, any two parts in the relation meet. -/
def DueRet (x y : Nat) (w : World) (e : Ending) (w' : World) : Prop := ∃ a b fa fb n, e = .returned (.tuple #[.agg #[.float .f64 a, .float .f64 b, .bool fa, .bool fb], .bool n]) ∧ Wd a ∧ Wd b ∧
  (n = true → ∀ c d, SqrtRel x y c d → partB c a fa = true ∧ partB d b fb = true) ∧ Below w.heap.size w w'
theorem part_eq {c a : Nat} {f : Bool} (h : c = a) : partB c a f = true := by unfold partB; rw [same_of_eq h]; rfl
theorem part_nan {c a : Nat} {f : Bool} (h1 : ¬ Num c) (h2 : ¬ Num a) : partB c a f = true := by unfold partB; rw [same_nan h1 h2]; rfl
theorem like_copy {c y : Nat} (hc : Wd c) (nc : Num c) (sc : sg c = false) (ny : Num y) : likeW c y = copyW c y := by
  have e : sizeW c = rg c := sizeW_num hc nc
  unfold likeW copyW
  rw [e]
  unfold minus
  rw [isNan_false.2 ny]
  cases hsg : sg y
  · simp
  · simp
    rw [fneg_eq (rg_wd _)]
    unfold negw
    rw [if_pos (by unfold rg SW; omega)]; rfl
theorem copy_if {c y : Nat} (hc : Wd c) (sc : sg c = false) : copyW c y = if sg y then fneg c else c := by
  have r : rg c = c := by
    have := word_self hc
    rw [sc, word_eq] at this; simpa using this
  unfold copyW
  rw [r]
  cases sg y
  · rfl
  · simp only [if_true]
    rw [fneg_eq hc]; unfold negw
    rw [if_pos (by rw [sg_iff hc] at sc; simpa [SW] using sc)]; rfl
theorem inf_facts {x : Nat} (hx : Wd x) (h : isInf x = true) : isNan x = false ∧ feq x 0 = false ∧ rg x = INF ∧ flt x 0 = sg x ∧ feq x 9218868437227405312 = !sg x ∧ feq x (fneg 9218868437227405312) = sg x := by
  have hr : rg x = INF := by unfold isInf at h; simpa using h
  have hI : INF ≠ 0 := by decide
  have hn : isNan x = false := by unfold isNan; rw [hr]; simp
  have x0 : feq x 0 = false := by rw [feq_zero, hr]; simpa using hI
  refine ⟨hn, x0, hr, flt_zero_ne (isNan_false.1 hn) (by rw [hr]; exact hI), ?_, ?_⟩
  · cases hs : sg x
    · have e : x = 9218868437227405312 := wd_ext hx (by unfold Wd; decide) (by rw [hs]; decide) (by rw [hr]; decide)
      rw [e]; decide +kernel
    · have e : x = 18442240474082181120 := wd_ext hx (by unfold Wd; decide) (by rw [hs]; decide) (by rw [hr]; decide)
      rw [e]; decide +kernel
  · cases hs : sg x
    · have e : x = 9218868437227405312 := wd_ext hx (by unfold Wd; decide) (by rw [hs]; decide) (by rw [hr]; decide)
      rw [e]; decide +kernel
    · have e : x = 18442240474082181120 := wd_ext hx (by unfold Wd; decide) (by rw [hs]; decide) (by rw [hr]; decide)
      rw [e]; decide +kernel
theorem not_inf {x : Nat} (hx : Wd x) (h : isInf x = false) : feq x 9218868437227405312 = false ∧ feq x (fneg 9218868437227405312) = false := by
  have := isInf_eq hx
  rw [h] at this
  revert this
  cases feq x 9218868437227405312 <;> cases feq x (fneg 9218868437227405312) <;> simp
theorem low_word : val 103582791429521408 = Q1000 := by unfold Q1000 Q1002; decide +kernel
theorem not_low {y : Nat} (hy : Wd y) (ny : Num y) (h : flt (sizeW y) 103582791429521408 = false) : Q1000 ≤ val (rg y) := by
  rw [sizeW_num hy ny, flt_val (by unfold Num at *; rw [rg_rg]; exact ny) (by unfold Num; decide), low_word] at h
  simp at h
  grind

/-- The parts beside an infinite first one. -/
theorem rel_inf {x y c d : Nat} (hx : Wd x) (hy : Wd y) (ix : isInf x = true) (iy : isInf y = false) (ny : Num y) (hl : feq y 0 = true ∨ Q1000 ≤ val (rg y)) (h : SqrtRel x y c d) :
    (sg x = false → c = 9218868437227405312 ∧ d = likeW 0 y) ∧ (sg x = true → c = 0 ∧ d = likeW 9218868437227405312 y) := by
  obtain ⟨_, x0, hr, hl', _, _⟩ := inf_facts hx ix
  have w0 : Wd 0 := by unfold Wd; decide
  have wI : Wd 9218868437227405312 := by unfold Wd; decide
  rw [like_copy w0 num_zero (by decide) ny, like_copy wI (by unfold Num; decide) (by decide) ny]
  unfold SqrtRel at h
  cases y0 : feq y 0
  · have hl2 : Q1000 ≤ val (rg y) := by rw [y0] at hl; simpa using hl
    have fy : Fi y := num_fin ny (by unfold isInf at iy; simpa using iy)
    simp only [y0, iy, x0, inf_big (y := y) hr, Bool.false_eq_true, false_and, false_or, true_and, Bool.true_eq_false, or_false] at h
    obtain ⟨i1, i2⟩ := inf_gen hx hy hr fy hl2 ⟨rfl, rfl⟩ h
    rw [copy_if w0 (by decide), copy_if wI (by decide)]
    exact ⟨i1, i2⟩
  · have yz : rg y = 0 := by rw [feq_zero] at y0; simpa using y0
    constructor
    · intro hs
      rw [hs] at hl'
      simp only [y0, x0, hl', Bool.false_eq_true, false_and, false_or, true_and, Bool.true_eq_false, or_false] at h
      obtain ⟨h1, h2⟩ := h
      have ex : x = 9218868437227405312 := wd_ext hx wI (by rw [hs]; decide) (by rw [hr]; decide)
      rw [ex] at h1
      exact ⟨fres_some h1 sqrt_inf, by rw [h2]; exact wd_ext hy (copyW_wd _ _) (copyW_sg _ _).symm (by rw [copyW_rg, yz]; decide)⟩
    · intro hs
      rw [hs] at hl'
      simp only [y0, x0, hl', Bool.false_eq_true, false_and, false_or, true_and, Bool.true_eq_false, or_false] at h
      obtain ⟨h1, r, h2, h3⟩ := h
      have ex : fneg x = 9218868437227405312 := wd_ext (fneg_wd hx) wI (by rw [fneg_sg hx, hs]; decide) (by rw [fneg_rg hx, hr]; decide)
      rw [ex] at h2
      obtain rfl := fres_some h2 sqrt_inf
      exact ⟨h1, h3⟩
/-- The parts beside what is no number. -/
theorem rel_infnan {x y c d : Nat} (hx : Wd x) (ix : isInf x = true) (ny : isNan y = true) (h : SqrtRel x y c d) :
    (sg x = false → c = 9218868437227405312 ∧ ¬ Num d) ∧ (sg x = true → ¬ Num c ∧ d = 9218868437227405312) := by
  obtain ⟨_, x0, hr, hl', _, _⟩ := inf_facts hx ix
  have nn := isNan_iff.1 ny
  have y0 : feq y 0 = false := by rw [feq_zero]; unfold Num at nn; simp; omega
  have iy : isInf y = false := by unfold isInf; unfold Num at nn; simp; omega
  unfold SqrtRel at h
  simp only [y0, iy, x0, inf_big (y := y) hr, Bool.false_eq_true, false_and, false_or, true_and, Bool.true_eq_false, or_false] at h
  exact gen_infnan hx hr nn h
theorem rel_nan {x y c d : Nat} (hx : Wd x) (hy : Wd y) (ix : isInf x = false) (iy : isInf y = false) (hn : (isNan x = true ∧ feq y 0 = false) ∨ isNan y = true) (h : SqrtRel x y c d) : ¬ Num c ∧ ¬ Num d := by
  have y0 : feq y 0 = false := by
    rcases hn with ⟨_, h⟩ | h
    · exact h
    · have nn := isNan_iff.1 h
      rw [feq_zero]; unfold Num at nn; simp; omega
  unfold SqrtRel at h
  simp only [y0, iy, Bool.false_eq_true, false_and, false_or, true_and, Bool.true_eq_false] at h
  by_cases hny : isNan y = true
  · have nn := isNan_iff.1 hny
    have l0 := flt_nan nn
    rcases h with ⟨_, h1, _⟩ | ⟨_, _, m, r, h1, h2, h3, h4⟩ | ⟨x0, hb, h⟩ | ⟨x0, hb, h⟩
    · rw [l0] at h1; cases h1
    · have nm := fmul_nanr nn h1
      have nr := fsqrt_nan nm h2
      exact ⟨by rw [h3]; exact nr, by rw [h4]; exact nr⟩
    · by_cases hnx : isNan x = true
      · exact gen_nanx (isNan_iff.1 hnx) (fun y' e => by have := fmul_nanl nn e; unfold isInf; unfold Num at this; simp; omega) h
      · have fx : Fi x := num_fin (isNan_false.1 (by simpa using hnx)) (by unfold isInf at ix; simpa using ix)
        exact gen_nany nn (fun x' e => scaled_not_inf (y := 0) hx fx (Or.inl rfl) e) h
    · by_cases hnx : isNan x = true
      · exact gen_nanx (isNan_iff.1 hnx) (fun y' e => by have := fmul_nanl nn e; unfold isInf; unfold Num at this; simp; omega) h
      · have nx := isNan_false.1 (show isNan x = false by simpa using hnx)
        have fx : Fi x := num_fin nx (by unfold isInf at ix; simpa using ix)
        have b4 : val (rg x) ≤ 4 := by
          unfold big4 at hb
          have nx' : Num (rg x) := by unfold Num at *; rw [rg_rg]; exact nx
          rw [fgt_val nx' c_four.2, c_four.1] at hb
          simp at hb
          have := hb.1
          grind
        exact gen_nany nn (fun x' e => scaled_not_inf (y := 0) hx fx (Or.inr ⟨rfl, b4⟩) e) h
  · have hnx : isNan x = true := by
      rcases hn with ⟨a, _⟩ | a
      · exact a
      · exact absurd a hny
    have nn := isNan_iff.1 hnx
    have ny := isNan_false.1 (show isNan y = false by simpa using hny)
    have fy : Fi y := num_fin ny (by unfold isInf at iy; simpa using iy)
    have x0 : feq x 0 = false := by rw [feq_zero]; unfold Num at nn; simp; omega
    simp only [x0, Bool.false_eq_true, false_and, false_or, true_and] at h
    rcases h with ⟨hb, h⟩ | ⟨hb, h⟩
    · exact gen_nanx nn (fun y' e => scaled_not_inf (y := 0) hy fy (Or.inl rfl) e) h
    · have b4 : val (rg y) ≤ 4 := by
        unfold big4 at hb
        have ny' : Num (rg y) := by unfold Num at *; rw [rg_rg]; exact ny
        rw [fgt_val ny' c_four.2, c_four.1] at hb
        simp at hb
        have := hb.2
        grind
      exact gen_nanx nn (fun y' e => scaled_not_inf (y := 0) hy fy (Or.inr ⟨rfl, b4⟩) e) h
theorem rel_infy {x y c d : Nat} (hy : Wd y) (iy : isInf y = true) (h : SqrtRel x y c d) : c = 9218868437227405312 ∧ d = y := by
  obtain ⟨_, y0, _⟩ := inf_facts hy iy
  unfold SqrtRel at h
  simp only [y0, iy, Bool.false_eq_true, false_and, false_or, true_and, Bool.true_eq_false, or_false] at h
  exact h

set_option maxRecDepth 100000 in
theorem specSqrt_infy (x y : Nat) (w : World) (hx : Wd x) (hy : Wd y) (h : isInf y = true) : Calls Try.prog 28 #[.float .f64 x, .float .f64 y] w (DueRet x y w) := by
  have wI : Wd 9218868437227405312 := by unfold Wd; decide
  go_enter Try.func28, Try.ntmps28
  go_wp2_with (first | (go_at_call 19; refine (isNan_any _ _).mono ?_; rintro e w' ⟨rfl, rfl⟩) | (go_at_call 20; refine (infinity_any _).mono ?_; rintro e w' ⟨rfl, rfl⟩) | (go_at_call 35; refine (isInf_any _ _ (by assumption)).mono ?_; rintro e w' ⟨rfl, rfl⟩) | (go_at_call 17; refine (isFinite_any _ _ (by assumption)).mono ?_; rintro e w' ⟨rfl, rfl⟩) | (go_at_call 31; refine (minus_any _ _ (by assumption)).mono ?_; rintro e w' ⟨rfl, rfl⟩) | (go_at_call 26; refine (size_any _ _ (by assumption)).mono ?_; rintro e w' ⟨rfl, rfl⟩) | (go_at_call 32; refine (like_any _ _ _ (by assumption) (by assumption)).mono ?_; rintro e w' ⟨rfl, rfl⟩) | (go_at_call 22; refine (same_any _ _ _ (by assumption) (by assumption)).mono ?_; rintro e w' ⟨rfl, rfl⟩) | (go_at_call 21; refine (conj_any _ _ _).mono ?_; rintro e w' ⟨rfl, rfl⟩) | (go_at_call 15; refine (isInf2_any _ _ _ (by assumption) (by assumption)).mono ?_; rintro e w' ⟨rfl, rfl⟩) | (go_at_call 16; refine (isNaN2_any _ _ _ (by assumption) (by assumption)).mono ?_; rintro e w' ⟨rfl, rfl⟩) | (go_at_call 18; refine (abs_any _ _ _).mono ?_; rintro e w' ⟨rfl, rfl⟩) | (go_at_call 27; refine (realHypot_any _ _ _).mono ?_; rintro e w' ⟨rfl, rfl⟩) | (go_at_call 54; refine (mAbs_any _ _ (by assumption)).mono ?_; rintro e w' ⟨rfl, rfl⟩))
  refine bodyPost_ret (v := .tuple #[.agg #[.float .f64 9218868437227405312, .float .f64 y, .bool false, .bool false], .bool true]) (by simp [results, Try.results28, go_sem]) rfl ⟨_, _, _, _, _, rfl, wI, hy, fun _ c d hr => ⟨part_eq (rel_infy hy h hr).1, part_eq (rel_infy hy h hr).2⟩, ?_⟩
  first | exact (Below.refl _ _).alloc (Nat.le_refl _) _ | exact ((((((Below.refl _ _).alloc (Nat.le_refl _) _)).setCell (by simp) _).setCell (by simp) _).setCell (by simp) _).setCell (by simp) _
set_option maxRecDepth 100000 in
theorem specSqrt_inf (x y : Nat) (w : World) (hx : Wd x) (hy : Wd y) (ix : isInf x = true) (iy : isInf y = false) : Calls Try.prog 28 #[.float .f64 x, .float .f64 y] w (DueRet x y w) := by
  have wI : Wd 9218868437227405312 := by unfold Wd; decide
  have w0 : Wd 0 := by unfold Wd; decide
  have ws := sizeW_wd hy
  obtain ⟨n1, n2, n3, n4, n5, n6⟩ := inf_facts hx ix
  have l0 := hidd (@likeW_wd 0 y w0)
  have lI := hidd (@likeW_wd 9218868437227405312 y wI)
  clear n3 n4
  cases h1 : isNan y
  · have ny := isNan_false.1 h1
    have R := hidd (fun hl c d => @rel_inf x y c d hx hy ix iy ny hl)
    have NL := hidd (@not_low y hy ny)
    clear ny
    by_cases hc : feq y 0 = false ∧ flt (sizeW y) 103582791429521408 = true
    · obtain ⟨h2, h3⟩ := hc
      go_enter Try.func28, Try.ntmps28
      go_wp2_with (first | (go_at_call 19; refine (isNan_any _ _).mono ?_; rintro e w' ⟨rfl, rfl⟩) | (go_at_call 20; refine (infinity_any _).mono ?_; rintro e w' ⟨rfl, rfl⟩) | (go_at_call 35; refine (isInf_any _ _ (by assumption)).mono ?_; rintro e w' ⟨rfl, rfl⟩) | (go_at_call 17; refine (isFinite_any _ _ (by assumption)).mono ?_; rintro e w' ⟨rfl, rfl⟩) | (go_at_call 31; refine (minus_any _ _ (by assumption)).mono ?_; rintro e w' ⟨rfl, rfl⟩) | (go_at_call 26; refine (size_any _ _ (by assumption)).mono ?_; rintro e w' ⟨rfl, rfl⟩) | (go_at_call 32; refine (like_any _ _ _ (by assumption) (by assumption)).mono ?_; rintro e w' ⟨rfl, rfl⟩) | (go_at_call 22; refine (same_any _ _ _ (by assumption) (by assumption)).mono ?_; rintro e w' ⟨rfl, rfl⟩) | (go_at_call 21; refine (conj_any _ _ _).mono ?_; rintro e w' ⟨rfl, rfl⟩) | (go_at_call 15; refine (isInf2_any _ _ _ (by assumption) (by assumption)).mono ?_; rintro e w' ⟨rfl, rfl⟩) | (go_at_call 16; refine (isNaN2_any _ _ _ (by assumption) (by assumption)).mono ?_; rintro e w' ⟨rfl, rfl⟩) | (go_at_call 18; refine (abs_any _ _ _).mono ?_; rintro e w' ⟨rfl, rfl⟩) | (go_at_call 27; refine (realHypot_any _ _ _).mono ?_; rintro e w' ⟨rfl, rfl⟩) | (go_at_call 54; refine (mAbs_any _ _ (by assumption)).mono ?_; rintro e w' ⟨rfl, rfl⟩))
      refine bodyPost_ret (v := .tuple #[.agg #[.float .f64 0, .float .f64 0, .bool false, .bool false], .bool false]) (by simp [results, Try.results28, go_sem]) rfl ⟨_, _, _, _, _, rfl, w0, w0, (fun h => by cases h), ?_⟩
      first | exact (Below.refl _ _).alloc (Nat.le_refl _) _ | exact ((((((Below.refl _ _).alloc (Nat.le_refl _) _)).setCell (by simp) _).setCell (by simp) _).setCell (by simp) _).setCell (by simp) _
    · have HL : Hid (feq y 0 = true ∨ Q1000 ≤ val (rg y)) := by
        cases h2 : feq y 0
        · right
          exact NL.out (by cases h3 : flt (sizeW y) 103582791429521408 with
            | false => rfl
            | true => exact absurd ⟨h2, h3⟩ hc)
        · left; rfl
      have cs : feq y 0 = true ∨ (feq y 0 = false ∧ flt (sizeW y) 103582791429521408 = false) := by
        cases h2 : feq y 0
        · right
          exact ⟨rfl, by cases h3 : flt (sizeW y) 103582791429521408 with
            | false => rfl
            | true => exact absurd ⟨h2, h3⟩ hc⟩
        · left; rfl
      clear hc NL
      cases hs : sg x <;> rw [hs] at n5 n6 <;> simp only [Bool.not_false, Bool.not_true] at n5 n6
      · rcases cs with h2 | ⟨h2, h3⟩
        all_goals
          go_enter Try.func28, Try.ntmps28
          go_wp2_with (first | (go_at_call 19; refine (isNan_any _ _).mono ?_; rintro e w' ⟨rfl, rfl⟩) | (go_at_call 20; refine (infinity_any _).mono ?_; rintro e w' ⟨rfl, rfl⟩) | (go_at_call 35; refine (isInf_any _ _ (by assumption)).mono ?_; rintro e w' ⟨rfl, rfl⟩) | (go_at_call 17; refine (isFinite_any _ _ (by assumption)).mono ?_; rintro e w' ⟨rfl, rfl⟩) | (go_at_call 31; refine (minus_any _ _ (by assumption)).mono ?_; rintro e w' ⟨rfl, rfl⟩) | (go_at_call 26; refine (size_any _ _ (by assumption)).mono ?_; rintro e w' ⟨rfl, rfl⟩) | (go_at_call 32; refine (like_any _ _ _ (by assumption) (by assumption)).mono ?_; rintro e w' ⟨rfl, rfl⟩) | (go_at_call 22; refine (same_any _ _ _ (by assumption) (by assumption)).mono ?_; rintro e w' ⟨rfl, rfl⟩) | (go_at_call 21; refine (conj_any _ _ _).mono ?_; rintro e w' ⟨rfl, rfl⟩) | (go_at_call 15; refine (isInf2_any _ _ _ (by assumption) (by assumption)).mono ?_; rintro e w' ⟨rfl, rfl⟩) | (go_at_call 16; refine (isNaN2_any _ _ _ (by assumption) (by assumption)).mono ?_; rintro e w' ⟨rfl, rfl⟩) | (go_at_call 18; refine (abs_any _ _ _).mono ?_; rintro e w' ⟨rfl, rfl⟩) | (go_at_call 27; refine (realHypot_any _ _ _).mono ?_; rintro e w' ⟨rfl, rfl⟩) | (go_at_call 54; refine (mAbs_any _ _ (by assumption)).mono ?_; rintro e w' ⟨rfl, rfl⟩))
          refine bodyPost_ret (v := .tuple #[.agg #[.float .f64 9218868437227405312, .float .f64 (likeW 0 y), .bool false, .bool false], .bool true]) (by simp [results, Try.results28, go_sem]) rfl ⟨_, _, _, _, _, rfl, wI, l0.out, fun _ c d hr => ⟨part_eq ((R.out HL.out c d hr).1 hs).1, part_eq ((R.out HL.out c d hr).1 hs).2⟩, ?_⟩
          first | exact (Below.refl _ _).alloc (Nat.le_refl _) _ | exact ((((((Below.refl _ _).alloc (Nat.le_refl _) _)).setCell (by simp) _).setCell (by simp) _).setCell (by simp) _).setCell (by simp) _
      · rcases cs with h2 | ⟨h2, h3⟩
        all_goals
          go_enter Try.func28, Try.ntmps28
          go_wp2_with (first | (go_at_call 19; refine (isNan_any _ _).mono ?_; rintro e w' ⟨rfl, rfl⟩) | (go_at_call 20; refine (infinity_any _).mono ?_; rintro e w' ⟨rfl, rfl⟩) | (go_at_call 35; refine (isInf_any _ _ (by assumption)).mono ?_; rintro e w' ⟨rfl, rfl⟩) | (go_at_call 17; refine (isFinite_any _ _ (by assumption)).mono ?_; rintro e w' ⟨rfl, rfl⟩) | (go_at_call 31; refine (minus_any _ _ (by assumption)).mono ?_; rintro e w' ⟨rfl, rfl⟩) | (go_at_call 26; refine (size_any _ _ (by assumption)).mono ?_; rintro e w' ⟨rfl, rfl⟩) | (go_at_call 32; refine (like_any _ _ _ (by assumption) (by assumption)).mono ?_; rintro e w' ⟨rfl, rfl⟩) | (go_at_call 22; refine (same_any _ _ _ (by assumption) (by assumption)).mono ?_; rintro e w' ⟨rfl, rfl⟩) | (go_at_call 21; refine (conj_any _ _ _).mono ?_; rintro e w' ⟨rfl, rfl⟩) | (go_at_call 15; refine (isInf2_any _ _ _ (by assumption) (by assumption)).mono ?_; rintro e w' ⟨rfl, rfl⟩) | (go_at_call 16; refine (isNaN2_any _ _ _ (by assumption) (by assumption)).mono ?_; rintro e w' ⟨rfl, rfl⟩) | (go_at_call 18; refine (abs_any _ _ _).mono ?_; rintro e w' ⟨rfl, rfl⟩) | (go_at_call 27; refine (realHypot_any _ _ _).mono ?_; rintro e w' ⟨rfl, rfl⟩) | (go_at_call 54; refine (mAbs_any _ _ (by assumption)).mono ?_; rintro e w' ⟨rfl, rfl⟩))
          refine bodyPost_ret (v := .tuple #[.agg #[.float .f64 0, .float .f64 (likeW 9218868437227405312 y), .bool false, .bool false], .bool true]) (by simp [results, Try.results28, go_sem]) rfl ⟨_, _, _, _, _, rfl, w0, lI.out, fun _ c d hr => ⟨part_eq ((R.out HL.out c d hr).2 hs).1, part_eq ((R.out HL.out c d hr).2 hs).2⟩, ?_⟩
          first | exact (Below.refl _ _).alloc (Nat.le_refl _) _ | exact ((((((Below.refl _ _).alloc (Nat.le_refl _) _)).setCell (by simp) _).setCell (by simp) _).setCell (by simp) _).setCell (by simp) _
  · have nn := isNan_iff.1 h1
    have y0 : feq y 0 = false := by rw [feq_zero]; unfold Num at nn; simp; omega
    have R := hidd (fun c d => @rel_infnan x y c d hx ix h1)
    have low : flt (sizeW y) 103582791429521408 = false := by
      have : sizeW y = y := by unfold sizeW minus; rw [h1]; simp
      rw [this]; unfold flt; rw [order_nanl nn]; rfl
    have NN := hidd nn
    clear nn
    cases hs : sg x <;> rw [hs] at n5 n6 <;> simp only [Bool.not_false, Bool.not_true] at n5 n6
    · go_enter Try.func28, Try.ntmps28
      go_wp2_with (first | (go_at_call 19; refine (isNan_any _ _).mono ?_; rintro e w' ⟨rfl, rfl⟩) | (go_at_call 20; refine (infinity_any _).mono ?_; rintro e w' ⟨rfl, rfl⟩) | (go_at_call 35; refine (isInf_any _ _ (by assumption)).mono ?_; rintro e w' ⟨rfl, rfl⟩) | (go_at_call 17; refine (isFinite_any _ _ (by assumption)).mono ?_; rintro e w' ⟨rfl, rfl⟩) | (go_at_call 31; refine (minus_any _ _ (by assumption)).mono ?_; rintro e w' ⟨rfl, rfl⟩) | (go_at_call 26; refine (size_any _ _ (by assumption)).mono ?_; rintro e w' ⟨rfl, rfl⟩) | (go_at_call 32; refine (like_any _ _ _ (by assumption) (by assumption)).mono ?_; rintro e w' ⟨rfl, rfl⟩) | (go_at_call 22; refine (same_any _ _ _ (by assumption) (by assumption)).mono ?_; rintro e w' ⟨rfl, rfl⟩) | (go_at_call 21; refine (conj_any _ _ _).mono ?_; rintro e w' ⟨rfl, rfl⟩) | (go_at_call 15; refine (isInf2_any _ _ _ (by assumption) (by assumption)).mono ?_; rintro e w' ⟨rfl, rfl⟩) | (go_at_call 16; refine (isNaN2_any _ _ _ (by assumption) (by assumption)).mono ?_; rintro e w' ⟨rfl, rfl⟩) | (go_at_call 18; refine (abs_any _ _ _).mono ?_; rintro e w' ⟨rfl, rfl⟩) | (go_at_call 27; refine (realHypot_any _ _ _).mono ?_; rintro e w' ⟨rfl, rfl⟩) | (go_at_call 54; refine (mAbs_any _ _ (by assumption)).mono ?_; rintro e w' ⟨rfl, rfl⟩))
      refine bodyPost_ret (v := .tuple #[.agg #[.float .f64 9218868437227405312, .float .f64 y, .bool false, .bool false], .bool true]) (by simp [results, Try.results28, go_sem]) rfl ⟨_, _, _, _, _, rfl, wI, hy, fun _ c d hr => ⟨part_eq ((R.out c d hr).1 hs).1, part_nan ((R.out c d hr).1 hs).2 NN.out⟩, ?_⟩
      first | exact (Below.refl _ _).alloc (Nat.le_refl _) _ | exact ((((((Below.refl _ _).alloc (Nat.le_refl _) _)).setCell (by simp) _).setCell (by simp) _).setCell (by simp) _).setCell (by simp) _
    · go_enter Try.func28, Try.ntmps28
      go_wp2_with (first | (go_at_call 19; refine (isNan_any _ _).mono ?_; rintro e w' ⟨rfl, rfl⟩) | (go_at_call 20; refine (infinity_any _).mono ?_; rintro e w' ⟨rfl, rfl⟩) | (go_at_call 35; refine (isInf_any _ _ (by assumption)).mono ?_; rintro e w' ⟨rfl, rfl⟩) | (go_at_call 17; refine (isFinite_any _ _ (by assumption)).mono ?_; rintro e w' ⟨rfl, rfl⟩) | (go_at_call 31; refine (minus_any _ _ (by assumption)).mono ?_; rintro e w' ⟨rfl, rfl⟩) | (go_at_call 26; refine (size_any _ _ (by assumption)).mono ?_; rintro e w' ⟨rfl, rfl⟩) | (go_at_call 32; refine (like_any _ _ _ (by assumption) (by assumption)).mono ?_; rintro e w' ⟨rfl, rfl⟩) | (go_at_call 22; refine (same_any _ _ _ (by assumption) (by assumption)).mono ?_; rintro e w' ⟨rfl, rfl⟩) | (go_at_call 21; refine (conj_any _ _ _).mono ?_; rintro e w' ⟨rfl, rfl⟩) | (go_at_call 15; refine (isInf2_any _ _ _ (by assumption) (by assumption)).mono ?_; rintro e w' ⟨rfl, rfl⟩) | (go_at_call 16; refine (isNaN2_any _ _ _ (by assumption) (by assumption)).mono ?_; rintro e w' ⟨rfl, rfl⟩) | (go_at_call 18; refine (abs_any _ _ _).mono ?_; rintro e w' ⟨rfl, rfl⟩) | (go_at_call 27; refine (realHypot_any _ _ _).mono ?_; rintro e w' ⟨rfl, rfl⟩) | (go_at_call 54; refine (mAbs_any _ _ (by assumption)).mono ?_; rintro e w' ⟨rfl, rfl⟩))
      refine bodyPost_ret (v := .tuple #[.agg #[.float .f64 y, .float .f64 9218868437227405312, .bool false, .bool true], .bool true]) (by simp [results, Try.results28, go_sem]) rfl ⟨_, _, _, _, _, rfl, hy, wI, fun _ c d hr => ⟨part_nan ((R.out c d hr).2 hs).1 NN.out, part_eq ((R.out c d hr).2 hs).2⟩, ?_⟩
      first | exact (Below.refl _ _).alloc (Nat.le_refl _) _ | exact ((((((Below.refl _ _).alloc (Nat.le_refl _) _)).setCell (by simp) _).setCell (by simp) _).setCell (by simp) _).setCell (by simp) _
set_option maxRecDepth 100000 in
theorem specSqrt_nan (x y : Nat) (w : World) (hx : Wd x) (hy : Wd y) (ix : isInf x = false) (iy : isInf y = false) (h : (isNan x = true ∧ feq y 0 = false) ∨ (isNan x = false ∧ isNan y = true)) : Calls Try.prog 28 #[.float .f64 x, .float .f64 y] w (DueRet x y w) := by
  have R := hidd (fun c d => @rel_nan x y c d hx hy ix iy (h.elim Or.inl fun h' => Or.inr h'.2))
  obtain ⟨n5, n6⟩ := not_inf hx ix
  rcases h with ⟨h1, h2⟩ | ⟨h1, h2⟩
  all_goals
    go_enter Try.func28, Try.ntmps28
    go_wp2_with (first | (go_at_call 19; refine (isNan_any _ _).mono ?_; rintro e w' ⟨rfl, rfl⟩) | (go_at_call 20; refine (infinity_any _).mono ?_; rintro e w' ⟨rfl, rfl⟩) | (go_at_call 35; refine (isInf_any _ _ (by assumption)).mono ?_; rintro e w' ⟨rfl, rfl⟩) | (go_at_call 17; refine (isFinite_any _ _ (by assumption)).mono ?_; rintro e w' ⟨rfl, rfl⟩) | (go_at_call 31; refine (minus_any _ _ (by assumption)).mono ?_; rintro e w' ⟨rfl, rfl⟩) | (go_at_call 26; refine (size_any _ _ (by assumption)).mono ?_; rintro e w' ⟨rfl, rfl⟩) | (go_at_call 32; refine (like_any _ _ _ (by assumption) (by assumption)).mono ?_; rintro e w' ⟨rfl, rfl⟩) | (go_at_call 22; refine (same_any _ _ _ (by assumption) (by assumption)).mono ?_; rintro e w' ⟨rfl, rfl⟩) | (go_at_call 21; refine (conj_any _ _ _).mono ?_; rintro e w' ⟨rfl, rfl⟩) | (go_at_call 15; refine (isInf2_any _ _ _ (by assumption) (by assumption)).mono ?_; rintro e w' ⟨rfl, rfl⟩) | (go_at_call 16; refine (isNaN2_any _ _ _ (by assumption) (by assumption)).mono ?_; rintro e w' ⟨rfl, rfl⟩) | (go_at_call 18; refine (abs_any _ _ _).mono ?_; rintro e w' ⟨rfl, rfl⟩) | (go_at_call 27; refine (realHypot_any _ _ _).mono ?_; rintro e w' ⟨rfl, rfl⟩) | (go_at_call 54; refine (mAbs_any _ _ (by assumption)).mono ?_; rintro e w' ⟨rfl, rfl⟩))
    refine (none_any _).mono ?_
    rintro e w1 ⟨r1, r2, n1, wr1, n2, wr2, rfl, hb⟩
    unfold due
    obtain ⟨hc, hf⟩ := bcell hb
    have H1 := hidd n1
    have H2 := hidd n2
    clear n1 n2
    go_wp2_with fail
    refine bodyPost_ret (v := .tuple #[.agg #[.float .f64 r1, .float .f64 r2, .bool false, .bool false], .bool true]) (by simp [results, Try.results28, go_sem, hc]) rfl ⟨_, _, _, _, _, rfl, wr1, wr2, fun _ c d hr => ⟨part_nan (R.out c d hr).1 H1.out, part_nan (R.out c d hr).2 H2.out⟩, ?_⟩
    exact ((((((Below.refl _ _).alloc (Nat.le_refl _) _).trans (hb.mono (by simp))).setCell (by simp) _).setCell (by simp) _).setCell (by simp) _).setCell (by simp) _
set_option maxRecDepth 100000 in
theorem specSqrt_rest (x y : Nat) (w : World) (hx : Wd x) (hy : Wd y) (ix : isInf x = false) (iy : isInf y = false) (h : (isNan x = true ∧ feq y 0 = true) ∨ (isNan x = false ∧ isNan y = false)) : Calls Try.prog 28 #[.float .f64 x, .float .f64 y] w (DueRet x y w) := by
  have w0 : Wd 0 := by unfold Wd; decide
  obtain ⟨n5, n6⟩ := not_inf hx ix
  rcases h with ⟨h1, h2⟩ | ⟨h1, h2⟩
  · go_enter Try.func28, Try.ntmps28
    go_wp2_with (first | (go_at_call 19; refine (isNan_any _ _).mono ?_; rintro e w' ⟨rfl, rfl⟩) | (go_at_call 20; refine (infinity_any _).mono ?_; rintro e w' ⟨rfl, rfl⟩) | (go_at_call 35; refine (isInf_any _ _ (by assumption)).mono ?_; rintro e w' ⟨rfl, rfl⟩) | (go_at_call 17; refine (isFinite_any _ _ (by assumption)).mono ?_; rintro e w' ⟨rfl, rfl⟩) | (go_at_call 31; refine (minus_any _ _ (by assumption)).mono ?_; rintro e w' ⟨rfl, rfl⟩) | (go_at_call 26; refine (size_any _ _ (by assumption)).mono ?_; rintro e w' ⟨rfl, rfl⟩) | (go_at_call 32; refine (like_any _ _ _ (by assumption) (by assumption)).mono ?_; rintro e w' ⟨rfl, rfl⟩) | (go_at_call 22; refine (same_any _ _ _ (by assumption) (by assumption)).mono ?_; rintro e w' ⟨rfl, rfl⟩) | (go_at_call 21; refine (conj_any _ _ _).mono ?_; rintro e w' ⟨rfl, rfl⟩) | (go_at_call 15; refine (isInf2_any _ _ _ (by assumption) (by assumption)).mono ?_; rintro e w' ⟨rfl, rfl⟩) | (go_at_call 16; refine (isNaN2_any _ _ _ (by assumption) (by assumption)).mono ?_; rintro e w' ⟨rfl, rfl⟩) | (go_at_call 18; refine (abs_any _ _ _).mono ?_; rintro e w' ⟨rfl, rfl⟩) | (go_at_call 27; refine (realHypot_any _ _ _).mono ?_; rintro e w' ⟨rfl, rfl⟩) | (go_at_call 54; refine (mAbs_any _ _ (by assumption)).mono ?_; rintro e w' ⟨rfl, rfl⟩))
    refine bodyPost_ret (v := .tuple #[.agg #[.float .f64 0, .float .f64 0, .bool false, .bool false], .bool false]) (by simp [results, Try.results28, go_sem]) rfl ⟨_, _, _, _, _, rfl, w0, w0, (fun h => by cases h), ?_⟩
    first | exact (Below.refl _ _).alloc (Nat.le_refl _) _ | exact ((((((Below.refl _ _).alloc (Nat.le_refl _) _)).setCell (by simp) _).setCell (by simp) _).setCell (by simp) _).setCell (by simp) _
  · cases h3 : feq x 0 <;> cases h4 : feq y 0
    · go_enter Try.func28, Try.ntmps28
      go_wp2_with (first | (go_at_call 19; refine (isNan_any _ _).mono ?_; rintro e w' ⟨rfl, rfl⟩) | (go_at_call 20; refine (infinity_any _).mono ?_; rintro e w' ⟨rfl, rfl⟩) | (go_at_call 35; refine (isInf_any _ _ (by assumption)).mono ?_; rintro e w' ⟨rfl, rfl⟩) | (go_at_call 17; refine (isFinite_any _ _ (by assumption)).mono ?_; rintro e w' ⟨rfl, rfl⟩) | (go_at_call 31; refine (minus_any _ _ (by assumption)).mono ?_; rintro e w' ⟨rfl, rfl⟩) | (go_at_call 26; refine (size_any _ _ (by assumption)).mono ?_; rintro e w' ⟨rfl, rfl⟩) | (go_at_call 32; refine (like_any _ _ _ (by assumption) (by assumption)).mono ?_; rintro e w' ⟨rfl, rfl⟩) | (go_at_call 22; refine (same_any _ _ _ (by assumption) (by assumption)).mono ?_; rintro e w' ⟨rfl, rfl⟩) | (go_at_call 21; refine (conj_any _ _ _).mono ?_; rintro e w' ⟨rfl, rfl⟩) | (go_at_call 15; refine (isInf2_any _ _ _ (by assumption) (by assumption)).mono ?_; rintro e w' ⟨rfl, rfl⟩) | (go_at_call 16; refine (isNaN2_any _ _ _ (by assumption) (by assumption)).mono ?_; rintro e w' ⟨rfl, rfl⟩) | (go_at_call 18; refine (abs_any _ _ _).mono ?_; rintro e w' ⟨rfl, rfl⟩) | (go_at_call 27; refine (realHypot_any _ _ _).mono ?_; rintro e w' ⟨rfl, rfl⟩) | (go_at_call 54; refine (mAbs_any _ _ (by assumption)).mono ?_; rintro e w' ⟨rfl, rfl⟩))
      refine bodyPost_ret (v := .tuple #[.agg #[.float .f64 0, .float .f64 0, .bool false, .bool false], .bool false]) (by simp [results, Try.results28, go_sem]) rfl ⟨_, _, _, _, _, rfl, w0, w0, (fun h => by cases h), ?_⟩
      first | exact (Below.refl _ _).alloc (Nat.le_refl _) _ | exact ((((((Below.refl _ _).alloc (Nat.le_refl _) _)).setCell (by simp) _).setCell (by simp) _).setCell (by simp) _).setCell (by simp) _
    · go_enter Try.func28, Try.ntmps28
      go_wp2_with (first | (go_at_call 19; refine (isNan_any _ _).mono ?_; rintro e w' ⟨rfl, rfl⟩) | (go_at_call 20; refine (infinity_any _).mono ?_; rintro e w' ⟨rfl, rfl⟩) | (go_at_call 35; refine (isInf_any _ _ (by assumption)).mono ?_; rintro e w' ⟨rfl, rfl⟩) | (go_at_call 17; refine (isFinite_any _ _ (by assumption)).mono ?_; rintro e w' ⟨rfl, rfl⟩) | (go_at_call 31; refine (minus_any _ _ (by assumption)).mono ?_; rintro e w' ⟨rfl, rfl⟩) | (go_at_call 26; refine (size_any _ _ (by assumption)).mono ?_; rintro e w' ⟨rfl, rfl⟩) | (go_at_call 32; refine (like_any _ _ _ (by assumption) (by assumption)).mono ?_; rintro e w' ⟨rfl, rfl⟩) | (go_at_call 22; refine (same_any _ _ _ (by assumption) (by assumption)).mono ?_; rintro e w' ⟨rfl, rfl⟩) | (go_at_call 21; refine (conj_any _ _ _).mono ?_; rintro e w' ⟨rfl, rfl⟩) | (go_at_call 15; refine (isInf2_any _ _ _ (by assumption) (by assumption)).mono ?_; rintro e w' ⟨rfl, rfl⟩) | (go_at_call 16; refine (isNaN2_any _ _ _ (by assumption) (by assumption)).mono ?_; rintro e w' ⟨rfl, rfl⟩) | (go_at_call 18; refine (abs_any _ _ _).mono ?_; rintro e w' ⟨rfl, rfl⟩) | (go_at_call 27; refine (realHypot_any _ _ _).mono ?_; rintro e w' ⟨rfl, rfl⟩) | (go_at_call 54; refine (mAbs_any _ _ (by assumption)).mono ?_; rintro e w' ⟨rfl, rfl⟩))
      refine bodyPost_ret (v := .tuple #[.agg #[.float .f64 0, .float .f64 0, .bool false, .bool false], .bool false]) (by simp [results, Try.results28, go_sem]) rfl ⟨_, _, _, _, _, rfl, w0, w0, (fun h => by cases h), ?_⟩
      first | exact (Below.refl _ _).alloc (Nat.le_refl _) _ | exact ((((((Below.refl _ _).alloc (Nat.le_refl _) _)).setCell (by simp) _).setCell (by simp) _).setCell (by simp) _).setCell (by simp) _
    · go_enter Try.func28, Try.ntmps28
      go_wp2_with (first | (go_at_call 19; refine (isNan_any _ _).mono ?_; rintro e w' ⟨rfl, rfl⟩) | (go_at_call 20; refine (infinity_any _).mono ?_; rintro e w' ⟨rfl, rfl⟩) | (go_at_call 35; refine (isInf_any _ _ (by assumption)).mono ?_; rintro e w' ⟨rfl, rfl⟩) | (go_at_call 17; refine (isFinite_any _ _ (by assumption)).mono ?_; rintro e w' ⟨rfl, rfl⟩) | (go_at_call 31; refine (minus_any _ _ (by assumption)).mono ?_; rintro e w' ⟨rfl, rfl⟩) | (go_at_call 26; refine (size_any _ _ (by assumption)).mono ?_; rintro e w' ⟨rfl, rfl⟩) | (go_at_call 32; refine (like_any _ _ _ (by assumption) (by assumption)).mono ?_; rintro e w' ⟨rfl, rfl⟩) | (go_at_call 22; refine (same_any _ _ _ (by assumption) (by assumption)).mono ?_; rintro e w' ⟨rfl, rfl⟩) | (go_at_call 21; refine (conj_any _ _ _).mono ?_; rintro e w' ⟨rfl, rfl⟩) | (go_at_call 15; refine (isInf2_any _ _ _ (by assumption) (by assumption)).mono ?_; rintro e w' ⟨rfl, rfl⟩) | (go_at_call 16; refine (isNaN2_any _ _ _ (by assumption) (by assumption)).mono ?_; rintro e w' ⟨rfl, rfl⟩) | (go_at_call 18; refine (abs_any _ _ _).mono ?_; rintro e w' ⟨rfl, rfl⟩) | (go_at_call 27; refine (realHypot_any _ _ _).mono ?_; rintro e w' ⟨rfl, rfl⟩) | (go_at_call 54; refine (mAbs_any _ _ (by assumption)).mono ?_; rintro e w' ⟨rfl, rfl⟩))
      refine bodyPost_ret (v := .tuple #[.agg #[.float .f64 0, .float .f64 0, .bool false, .bool false], .bool false]) (by simp [results, Try.results28, go_sem]) rfl ⟨_, _, _, _, _, rfl, w0, w0, (fun h => by cases h), ?_⟩
      first | exact (Below.refl _ _).alloc (Nat.le_refl _) _ | exact ((((((Below.refl _ _).alloc (Nat.le_refl _) _)).setCell (by simp) _).setCell (by simp) _).setCell (by simp) _).setCell (by simp) _
    · have R : Hid (∀ c d, SqrtRel x y c d → c = 0 ∧ d = y) := fun c d hr => by
        unfold SqrtRel at hr; simp [h3, h4] at hr; exact hr
      go_enter Try.func28, Try.ntmps28
      go_wp2_with (first | (go_at_call 19; refine (isNan_any _ _).mono ?_; rintro e w' ⟨rfl, rfl⟩) | (go_at_call 20; refine (infinity_any _).mono ?_; rintro e w' ⟨rfl, rfl⟩) | (go_at_call 35; refine (isInf_any _ _ (by assumption)).mono ?_; rintro e w' ⟨rfl, rfl⟩) | (go_at_call 17; refine (isFinite_any _ _ (by assumption)).mono ?_; rintro e w' ⟨rfl, rfl⟩) | (go_at_call 31; refine (minus_any _ _ (by assumption)).mono ?_; rintro e w' ⟨rfl, rfl⟩) | (go_at_call 26; refine (size_any _ _ (by assumption)).mono ?_; rintro e w' ⟨rfl, rfl⟩) | (go_at_call 32; refine (like_any _ _ _ (by assumption) (by assumption)).mono ?_; rintro e w' ⟨rfl, rfl⟩) | (go_at_call 22; refine (same_any _ _ _ (by assumption) (by assumption)).mono ?_; rintro e w' ⟨rfl, rfl⟩) | (go_at_call 21; refine (conj_any _ _ _).mono ?_; rintro e w' ⟨rfl, rfl⟩) | (go_at_call 15; refine (isInf2_any _ _ _ (by assumption) (by assumption)).mono ?_; rintro e w' ⟨rfl, rfl⟩) | (go_at_call 16; refine (isNaN2_any _ _ _ (by assumption) (by assumption)).mono ?_; rintro e w' ⟨rfl, rfl⟩) | (go_at_call 18; refine (abs_any _ _ _).mono ?_; rintro e w' ⟨rfl, rfl⟩) | (go_at_call 27; refine (realHypot_any _ _ _).mono ?_; rintro e w' ⟨rfl, rfl⟩) | (go_at_call 54; refine (mAbs_any _ _ (by assumption)).mono ?_; rintro e w' ⟨rfl, rfl⟩))
      refine bodyPost_ret (v := .tuple #[.agg #[.float .f64 0, .float .f64 y, .bool false, .bool false], .bool true]) (by simp [results, Try.results28, go_sem]) rfl ⟨_, _, _, _, _, rfl, w0, hy, fun _ c d hr => ⟨part_eq (R.out c d hr).1, part_eq (R.out c d hr).2⟩, ?_⟩
      first | exact (Below.refl _ _).alloc (Nat.le_refl _) _ | exact ((((((Below.refl _ _).alloc (Nat.le_refl _) _)).setCell (by simp) _).setCell (by simp) _).setCell (by simp) _).setCell (by simp) _
theorem specSqrt_any (x y : Nat) (w : World) (hx : Wd x) (hy : Wd y) : Calls Try.prog 28 #[.float .f64 x, .float .f64 y] w (DueRet x y w) := by
  cases iy : isInf y
  · cases ix : isInf x
    · cases h1 : isNan x
      · cases h2 : isNan y
        · exact specSqrt_rest x y w hx hy ix iy (Or.inr ⟨h1, h2⟩)
        · exact specSqrt_nan x y w hx hy ix iy (Or.inr ⟨h1, h2⟩)
      · cases h3 : feq y 0
        · exact specSqrt_nan x y w hx hy ix iy (Or.inl ⟨h1, h3⟩)
        · exact specSqrt_rest x y w hx hy ix iy (Or.inl ⟨h1, h3⟩)
    · exact specSqrt_inf x y w hx hy ix iy
  · exact specSqrt_infy x y w hx hy iy

end Go.Proofs.Ytojjlkmeicdeeaa

/- What the reference says of a phase (PHASE), held against the phase itself. -/
import Derived.Test.YtnfidnfokfgepaaDueLog
set_option linter.unusedSimpArgs false
set_option linter.unusedVariables false
namespace Go.Proofs.Ytnfidnfokfgepaa
open Go.RowKit F64

def PhaseRet (x y : Nat) (w : World) (e : Ending) (w' : World) : Prop := ∃ a n, e = .returned (.tuple #[.float .f64 a, .bool n]) ∧ Wd a ∧ (n = true → same (atan2W y x) a = true) ∧ Below w.heap.size w w'
theorem specPhase_nan (x y : Nat) (w : World) (hx : Wd x) (hy : Wd y) (h : isNan x = true ∨ isNan y = true) : Calls Try.prog 21 #[.float .f64 x, .float .f64 y] w (PhaseRet x y w) := by
  have key := hidd (atan2_nanW (Or.comm.1 h))
  have cs : isNan x = true ∨ (isNan x = false ∧ isNan y = true) := by
    cases h1 : isNan x
    · right; rw [h1] at h; simpa using h
    · left; rfl
  clear h
  rcases cs with h1 | ⟨h1, h2⟩
  all_goals
    go_enter Try.func21, Try.ntmps21
    go_wp2_with (first | (go_at_call 35; refine (nan_any _).mono ?_; rintro e w' ⟨r, hr, hrw, rfl, rfl⟩) | first | (go_at_call 16; refine (isNan_any _ _).mono ?_; rintro e w' ⟨rfl, rfl⟩) | (go_at_call 38; refine (infinity_any _).mono ?_; rintro e w' ⟨rfl, rfl⟩) | (go_at_call 36; refine (isInf_any _ _ (by assumption)).mono ?_; rintro e w' ⟨rfl, rfl⟩) | (go_at_call 33; refine (isFinite_any _ _ (by assumption)).mono ?_; rintro e w' ⟨rfl, rfl⟩) | (go_at_call 26; refine (minus_any _ _ (by assumption)).mono ?_; rintro e w' ⟨rfl, rfl⟩) | (go_at_call 17; refine (size_any _ _ (by assumption)).mono ?_; rintro e w' ⟨rfl, rfl⟩) | (go_at_call 15; refine (like_any _ _ _ (by assumption) (by assumption)).mono ?_; rintro e w' ⟨rfl, rfl⟩) | (go_at_call 14; refine (same_any _ _ _ (by assumption) (by assumption)).mono ?_; rintro e w' ⟨rfl, rfl⟩) | (go_at_call 27; refine (conj_any _ _ _).mono ?_; rintro e w' ⟨rfl, rfl⟩) | (go_at_call 25; refine (abs_any _ _ _).mono ?_; rintro e w' ⟨rfl, rfl⟩) | (go_at_call 56; refine (mAbs_any _ _ (by assumption)).mono ?_; rintro e w' ⟨rfl, rfl⟩) | (go_at_call 20; refine (polar_any _ _ _ (by assumption) (by assumption)).mono ?_; rintro e w' ⟨rfl, rfl⟩) | (go_at_call 22; refine (phase_any _ _ _ (by assumption) (by assumption)).mono ?_; rintro e w' ⟨rfl, rfl⟩) | (go_at_call 13; refine (log2_any _ _ _ (by assumption) (by assumption)).mono ?_; rintro e w' ⟨rfl, rfl⟩) | (go_at_call 18; refine (realLog_any _ _ (by assumption)).mono ?_; rintro e w' ⟨rfl, rfl⟩))
    go_ret2
    exact ⟨r, true, rfl, hrw, fun _ => by rw [key.out]; exact same_nan nanc hr, below_drewN (Below.refl _ _) _⟩
theorem specPhase_axis (x y : Nat) (w : World) (hx : Wd x) (hy : Wd y) (h1 : isNan x = false) (h2 : isNan y = false) (h : feq y 0 = true ∨ feq x 0 = true) : Calls Try.prog 21 #[.float .f64 x, .float .f64 y] w (PhaseRet x y w) := by
  have nx := isNan_false.1 h1
  have ny := isNan_false.1 h2
  have wP : Wd 4614256656552045848 := by unfold Wd; decide
  have wH : Wd 4609753056924675352 := by unfold Wd; decide
  have l1 := hidd (@likeW_wd 4614256656552045848 y wP)
  have l2 := hidd (@likeW_wd 4609753056924675352 y wH)
  cases h3 : feq y 0
  · have h4 : feq x 0 = true := by rw [h3] at h; simpa using h
    clear h
    have key : Hid (atan2W y x = likeW 4609753056924675352 y) := by
      show atan2W y x = likeW 4609753056924675352 y
      rw [like_copy wH (by unfold Num; decide) (by decide) ny]
      unfold atan2W; rw [h1, h2, h3, h4]; rfl
    clear nx ny
    go_enter Try.func21, Try.ntmps21
    go_wp2_with (first | (go_at_call 16; refine (isNan_any _ _).mono ?_; rintro e w' ⟨rfl, rfl⟩) | (go_at_call 38; refine (infinity_any _).mono ?_; rintro e w' ⟨rfl, rfl⟩) | (go_at_call 36; refine (isInf_any _ _ (by assumption)).mono ?_; rintro e w' ⟨rfl, rfl⟩) | (go_at_call 33; refine (isFinite_any _ _ (by assumption)).mono ?_; rintro e w' ⟨rfl, rfl⟩) | (go_at_call 26; refine (minus_any _ _ (by assumption)).mono ?_; rintro e w' ⟨rfl, rfl⟩) | (go_at_call 17; refine (size_any _ _ (by assumption)).mono ?_; rintro e w' ⟨rfl, rfl⟩) | (go_at_call 15; refine (like_any _ _ _ (by assumption) (by assumption)).mono ?_; rintro e w' ⟨rfl, rfl⟩) | (go_at_call 14; refine (same_any _ _ _ (by assumption) (by assumption)).mono ?_; rintro e w' ⟨rfl, rfl⟩) | (go_at_call 27; refine (conj_any _ _ _).mono ?_; rintro e w' ⟨rfl, rfl⟩) | (go_at_call 25; refine (abs_any _ _ _).mono ?_; rintro e w' ⟨rfl, rfl⟩) | (go_at_call 56; refine (mAbs_any _ _ (by assumption)).mono ?_; rintro e w' ⟨rfl, rfl⟩) | (go_at_call 20; refine (polar_any _ _ _ (by assumption) (by assumption)).mono ?_; rintro e w' ⟨rfl, rfl⟩) | (go_at_call 22; refine (phase_any _ _ _ (by assumption) (by assumption)).mono ?_; rintro e w' ⟨rfl, rfl⟩) | (go_at_call 13; refine (log2_any _ _ _ (by assumption) (by assumption)).mono ?_; rintro e w' ⟨rfl, rfl⟩) | (go_at_call 18; refine (realLog_any _ _ (by assumption)).mono ?_; rintro e w' ⟨rfl, rfl⟩))
    go_ret2
    exact ⟨_, true, rfl, l2.out, fun _ => same_of_eq key.out, Below.refl _ _⟩
  · clear h
    have mx : minus x = sg x := by unfold minus; rw [h1]; simp
    have y0 : rg y = 0 := by rw [feq_zero] at h3; simpa using h3
    have g : sg x = false → fge x 0 = true := fun h => by rw [fge_val nx num_zero, val_zero]; simpa using val_nonneg h
    have key : Hid (atan2W y x = if minus x then likeW 4614256656552045848 y else y) := by
      show atan2W y x = if minus x then likeW 4614256656552045848 y else y
      unfold atan2W
      rw [h1, h2, h3, mx]
      cases hs : sg x
      · rw [g hs]
        simp
        exact wd_ext (copyW_wd _ _) hy (copyW_sg _ _) (by rw [copyW_rg, y0]; decide)
      · simp
        rw [like_copy wP (by unfold Num; decide) (by decide) ny]; rfl
    clear nx ny g y0 mx
    cases hm : minus x
    · go_enter Try.func21, Try.ntmps21
      go_wp2_with (first | (go_at_call 16; refine (isNan_any _ _).mono ?_; rintro e w' ⟨rfl, rfl⟩) | (go_at_call 38; refine (infinity_any _).mono ?_; rintro e w' ⟨rfl, rfl⟩) | (go_at_call 36; refine (isInf_any _ _ (by assumption)).mono ?_; rintro e w' ⟨rfl, rfl⟩) | (go_at_call 33; refine (isFinite_any _ _ (by assumption)).mono ?_; rintro e w' ⟨rfl, rfl⟩) | (go_at_call 26; refine (minus_any _ _ (by assumption)).mono ?_; rintro e w' ⟨rfl, rfl⟩) | (go_at_call 17; refine (size_any _ _ (by assumption)).mono ?_; rintro e w' ⟨rfl, rfl⟩) | (go_at_call 15; refine (like_any _ _ _ (by assumption) (by assumption)).mono ?_; rintro e w' ⟨rfl, rfl⟩) | (go_at_call 14; refine (same_any _ _ _ (by assumption) (by assumption)).mono ?_; rintro e w' ⟨rfl, rfl⟩) | (go_at_call 27; refine (conj_any _ _ _).mono ?_; rintro e w' ⟨rfl, rfl⟩) | (go_at_call 25; refine (abs_any _ _ _).mono ?_; rintro e w' ⟨rfl, rfl⟩) | (go_at_call 56; refine (mAbs_any _ _ (by assumption)).mono ?_; rintro e w' ⟨rfl, rfl⟩) | (go_at_call 20; refine (polar_any _ _ _ (by assumption) (by assumption)).mono ?_; rintro e w' ⟨rfl, rfl⟩) | (go_at_call 22; refine (phase_any _ _ _ (by assumption) (by assumption)).mono ?_; rintro e w' ⟨rfl, rfl⟩) | (go_at_call 13; refine (log2_any _ _ _ (by assumption) (by assumption)).mono ?_; rintro e w' ⟨rfl, rfl⟩) | (go_at_call 18; refine (realLog_any _ _ (by assumption)).mono ?_; rintro e w' ⟨rfl, rfl⟩))
      go_ret2
      exact ⟨_, true, rfl, hy, fun _ => same_of_eq (by rw [key.out, hm]; rfl), Below.refl _ _⟩
    · go_enter Try.func21, Try.ntmps21
      go_wp2_with (first | (go_at_call 16; refine (isNan_any _ _).mono ?_; rintro e w' ⟨rfl, rfl⟩) | (go_at_call 38; refine (infinity_any _).mono ?_; rintro e w' ⟨rfl, rfl⟩) | (go_at_call 36; refine (isInf_any _ _ (by assumption)).mono ?_; rintro e w' ⟨rfl, rfl⟩) | (go_at_call 33; refine (isFinite_any _ _ (by assumption)).mono ?_; rintro e w' ⟨rfl, rfl⟩) | (go_at_call 26; refine (minus_any _ _ (by assumption)).mono ?_; rintro e w' ⟨rfl, rfl⟩) | (go_at_call 17; refine (size_any _ _ (by assumption)).mono ?_; rintro e w' ⟨rfl, rfl⟩) | (go_at_call 15; refine (like_any _ _ _ (by assumption) (by assumption)).mono ?_; rintro e w' ⟨rfl, rfl⟩) | (go_at_call 14; refine (same_any _ _ _ (by assumption) (by assumption)).mono ?_; rintro e w' ⟨rfl, rfl⟩) | (go_at_call 27; refine (conj_any _ _ _).mono ?_; rintro e w' ⟨rfl, rfl⟩) | (go_at_call 25; refine (abs_any _ _ _).mono ?_; rintro e w' ⟨rfl, rfl⟩) | (go_at_call 56; refine (mAbs_any _ _ (by assumption)).mono ?_; rintro e w' ⟨rfl, rfl⟩) | (go_at_call 20; refine (polar_any _ _ _ (by assumption) (by assumption)).mono ?_; rintro e w' ⟨rfl, rfl⟩) | (go_at_call 22; refine (phase_any _ _ _ (by assumption) (by assumption)).mono ?_; rintro e w' ⟨rfl, rfl⟩) | (go_at_call 13; refine (log2_any _ _ _ (by assumption) (by assumption)).mono ?_; rintro e w' ⟨rfl, rfl⟩) | (go_at_call 18; refine (realLog_any _ _ (by assumption)).mono ?_; rintro e w' ⟨rfl, rfl⟩))
      go_ret2
      exact ⟨_, true, rfl, l1.out, fun _ => same_of_eq (by rw [key.out, hm]; rfl), Below.refl _ _⟩
set_option maxRecDepth 100000 in
theorem specPhase_inf (x y : Nat) (w : World) (hx : Wd x) (hy : Wd y) (h1 : isNan x = false) (h2 : isNan y = false) (h3 : feq y 0 = false) (h4 : feq x 0 = false) (h : isInf x = true ∨ isInf y = true) : Calls Try.prog 21 #[.float .f64 x, .float .f64 y] w (PhaseRet x y w) := by
  have hh := hidd h
  have cs : isInf x = true ∨ (isInf x = false ∧ isInf y = true) := by
    cases h5 : isInf x
    · right; rw [h5] at h; simpa using h
    · left; rfl
  clear h
  rcases cs with h5 | ⟨h5, h6⟩
  all_goals
    go_enter Try.func21, Try.ntmps21
    go_wp2_with (first | (go_at_call 16; refine (isNan_any _ _).mono ?_; rintro e w' ⟨rfl, rfl⟩) | (go_at_call 38; refine (infinity_any _).mono ?_; rintro e w' ⟨rfl, rfl⟩) | (go_at_call 36; refine (isInf_any _ _ (by assumption)).mono ?_; rintro e w' ⟨rfl, rfl⟩) | (go_at_call 33; refine (isFinite_any _ _ (by assumption)).mono ?_; rintro e w' ⟨rfl, rfl⟩) | (go_at_call 26; refine (minus_any _ _ (by assumption)).mono ?_; rintro e w' ⟨rfl, rfl⟩) | (go_at_call 17; refine (size_any _ _ (by assumption)).mono ?_; rintro e w' ⟨rfl, rfl⟩) | (go_at_call 15; refine (like_any _ _ _ (by assumption) (by assumption)).mono ?_; rintro e w' ⟨rfl, rfl⟩) | (go_at_call 14; refine (same_any _ _ _ (by assumption) (by assumption)).mono ?_; rintro e w' ⟨rfl, rfl⟩) | (go_at_call 27; refine (conj_any _ _ _).mono ?_; rintro e w' ⟨rfl, rfl⟩) | (go_at_call 25; refine (abs_any _ _ _).mono ?_; rintro e w' ⟨rfl, rfl⟩) | (go_at_call 56; refine (mAbs_any _ _ (by assumption)).mono ?_; rintro e w' ⟨rfl, rfl⟩) | (go_at_call 20; refine (polar_any _ _ _ (by assumption) (by assumption)).mono ?_; rintro e w' ⟨rfl, rfl⟩) | (go_at_call 22; refine (phase_any _ _ _ (by assumption) (by assumption)).mono ?_; rintro e w' ⟨rfl, rfl⟩) | (go_at_call 13; refine (log2_any _ _ _ (by assumption) (by assumption)).mono ?_; rintro e w' ⟨rfl, rfl⟩) | (go_at_call 18; refine (realLog_any _ _ (by assumption)).mono ?_; rintro e w' ⟨rfl, rfl⟩))
    refine (specLog_any x y _ hx hy).mono ?_
    rintro e w1 ⟨a, b, n, rfl, wa, wb, hs, hi, hb⟩
    have HB := hidd hb
    have hz := hb.size
    have hn := hi hh.out
    obtain ⟨s1, s2⟩ := hs hn
    have S2 := hidd s2
    clear hs hi s1 s2 hb hn
    go_wp2_with fail
    go_ret2
    refine ⟨b, true, rfl, wb, fun _ => S2.out, ?_⟩
    exact HB.out.alloc HB.out.size _
theorem specPhase_any (x y : Nat) (w : World) (hx : Wd x) (hy : Wd y) : Calls Try.prog 21 #[.float .f64 x, .float .f64 y] w (PhaseRet x y w) := by
  by_cases h : isNan x = true ∨ isNan y = true
  · exact specPhase_nan x y w hx hy h
  · have h1 : isNan x = false := by simpa using fun h' => h (Or.inl h')
    have h2 : isNan y = false := by simpa using fun h' => h (Or.inr h')
    by_cases h0 : feq y 0 = true ∨ feq x 0 = true
    · exact specPhase_axis x y w hx hy h1 h2 h0
    · have h3 : feq y 0 = false := by simpa using fun h' => h0 (Or.inl h')
      have h4 : feq x 0 = false := by simpa using fun h' => h0 (Or.inr h')
      by_cases h5 : isInf x = true ∨ isInf y = true
      · exact specPhase_inf x y w hx hy h1 h2 h3 h4 h5
      · have h6 : isInf x = false := by simpa using fun h' => h5 (Or.inl h')
        have h7 : isInf y = false := by simpa using fun h' => h5 (Or.inr h')
        clear h h0 h5
        go_enter Try.func21, Try.ntmps21
        go_wp2_with (first | (go_at_call 16; refine (isNan_any _ _).mono ?_; rintro e w' ⟨rfl, rfl⟩) | (go_at_call 38; refine (infinity_any _).mono ?_; rintro e w' ⟨rfl, rfl⟩) | (go_at_call 36; refine (isInf_any _ _ (by assumption)).mono ?_; rintro e w' ⟨rfl, rfl⟩) | (go_at_call 33; refine (isFinite_any _ _ (by assumption)).mono ?_; rintro e w' ⟨rfl, rfl⟩) | (go_at_call 26; refine (minus_any _ _ (by assumption)).mono ?_; rintro e w' ⟨rfl, rfl⟩) | (go_at_call 17; refine (size_any _ _ (by assumption)).mono ?_; rintro e w' ⟨rfl, rfl⟩) | (go_at_call 15; refine (like_any _ _ _ (by assumption) (by assumption)).mono ?_; rintro e w' ⟨rfl, rfl⟩) | (go_at_call 14; refine (same_any _ _ _ (by assumption) (by assumption)).mono ?_; rintro e w' ⟨rfl, rfl⟩) | (go_at_call 27; refine (conj_any _ _ _).mono ?_; rintro e w' ⟨rfl, rfl⟩) | (go_at_call 25; refine (abs_any _ _ _).mono ?_; rintro e w' ⟨rfl, rfl⟩) | (go_at_call 56; refine (mAbs_any _ _ (by assumption)).mono ?_; rintro e w' ⟨rfl, rfl⟩) | (go_at_call 20; refine (polar_any _ _ _ (by assumption) (by assumption)).mono ?_; rintro e w' ⟨rfl, rfl⟩) | (go_at_call 22; refine (phase_any _ _ _ (by assumption) (by assumption)).mono ?_; rintro e w' ⟨rfl, rfl⟩) | (go_at_call 13; refine (log2_any _ _ _ (by assumption) (by assumption)).mono ?_; rintro e w' ⟨rfl, rfl⟩) | (go_at_call 18; refine (realLog_any _ _ (by assumption)).mono ?_; rintro e w' ⟨rfl, rfl⟩))
        go_ret2
        exact ⟨0, false, rfl, by unfold Wd; decide, (fun h => by cases h), Below.refl _ _⟩

end Go.Proofs.Ytnfidnfokfgepaa

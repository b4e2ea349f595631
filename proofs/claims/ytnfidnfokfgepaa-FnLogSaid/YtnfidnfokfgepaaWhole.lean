/- What the small functions of package laws give: a whole number from an integer, and an exact power of 2. -/
import Derived.Test.YtnfidnfokfgepaaRep
import Derived.Test.YtnfidnfokfgepaaMid
import Derived.LoopTactic
import Derived.OpenShut
set_option linter.unusedSimpArgs false
set_option linter.unusedVariables false
namespace Go.Proofs.Ytnfidnfokfgepaa
open Go.RowKit F64

theorem i32_of_wf {n : Int} (h : (Lit.int .i32 n).wf = true) : -2147483648 ≤ n ∧ n ≤ 2147483647 := bounds_i32 h
theorem i64_of_wf {n : Int} (h : (Lit.int .i64 n).wf = true) : -9223372036854775808 ≤ n ∧ n ≤ 9223372036854775807 := bounds_i64 h
theorem tmod_bound (x m : Int) (hm : 0 < m) : (x.tmod m).natAbs < m.natAbs := by
  rw [Int.natAbs_tmod]
  exact Nat.mod_lt _ (by omega)
/-- 'whole(x, n)'. -/
def wholeW (x n : Int) : Nat := floatOfInt .f64 (x.tmod (n + 1))

/-- The word of a power of 2. -/
def powW (k : Int) : Nat := (k + 1023).toNat * B
theorem powW_spec {k : Int} (h1 : -1022 ≤ k) (h2 : k ≤ 1023) : Wd (powW k) ∧ Fi (powW k) ∧ sg (powW k) = false ∧ rg (powW k) ≠ 0 ∧ val (powW k) = (2 : Rat) ^ k := by
  have hB := B_pos
  have hb : powW k < INF := by
    have : (k + 1023).toNat * B ≤ 2046 * B := Nat.mul_le_mul_right _ (by omega)
    have h3 : 2046 * B < INF := by decide
    unfold powW; omega
  have hb0 : 0 < powW k := Nat.mul_pos (by omega) hB
  have hsw := inf_lt_sw
  have e : powW k = Ieee.double.word false (powW k) := by rw [word_eq]; simp
  have hs : powW k < SW := by omega
  have r : rg (powW k) = powW k := by unfold rg; exact Nat.mod_eq_of_lt hs
  have s : sg (powW k) = false := by rw [e]; exact word_sg hs
  refine ⟨?_, ?_, s, by omega, ?_⟩
  · rw [e]; exact word_wd hs
  · unfold Fi; omega
  · rw [val_pos_word s, r]
    have : powW k = (k + 1022).toNat * B + B := by
      unfold powW; rw [← Nat.succ_mul]; congr 1; omega
    rw [this, rv_of _ _ (Or.inr ⟨by omega, by omega⟩)]
    have hB2 : ((B : Nat) : Rat) = (2 : Rat) ^ (52 : Int) := by decide +kernel
    rw [hB2, ← zp_add]; congr 1; omega
theorem val_TWO : val 4611686018427387904 = 2 := by decide +kernel
theorem fin_TWO : Fi 4611686018427387904 := by unfold Fi; decide
theorem powW_mul {k : Int} (h1 : -1022 ≤ k) (h2 : k < 1023) : fmul (powW k) 4611686018427387904 = some (powW (k + 1)) := by
  obtain ⟨a1, a2, a3, a4, a5⟩ := powW_spec (k := k) h1 (by omega)
  obtain ⟨b1, b2, b3, b4, b5⟩ := powW_spec (k := k + 1) (by omega) (by omega)
  obtain ⟨z, e, R, hs⟩ := mul_rnd a2 fin_TWO
  have := R.eq_word b2.num b1 (by rw [a5, b5, val_TWO, zp_add, Rat.zpow_one]) (by rw [hs, a3, b3]; decide)
  rw [← this]; exact e
theorem powW_div {k : Int} (h1 : -1022 < k) (h2 : k ≤ 1023) : fdiv (powW k) 4611686018427387904 = some (powW (k - 1)) := by
  obtain ⟨a1, a2, a3, a4, a5⟩ := powW_spec (k := k) (by omega) h2
  obtain ⟨b1, b2, b3, b4, b5⟩ := powW_spec (k := k - 1) (by omega) (by omega)
  obtain ⟨z, e, R, hs⟩ := div_rnd a2 fin_TWO (by decide)
  have := R.eq_word b2.num b1 (by
    rw [a5, b5, val_TWO, show k = k - 1 + 1 from by omega, zp_add, Rat.zpow_one, Rat.mul_div_cancel two_ne, show k - 1 + 1 - 1 = k - 1 from by omega]) (by rw [hs, a3, b3]; decide)
  rw [← this]; exact e
theorem powW_zero : powW 0 = 4607182418800017408 := by decide
set_option maxHeartbeats 400000 in
theorem bound_pos (K : Int) (w : World) (h1 : 0 ≤ K) (h2 : K ≤ 1000) :
    Calls Try.prog 23 #[.int .i64 K] w fun e w' => e = .returned (.float .f64 (powW K)) ∧ w = w' := by
  have HZ := hidd powW_zero
  have HM := hidd (fun k => @powW_mul k)
  go_enter Try.func23, Try.ntmps23
  go_wp2
  go_loop [0, 3] (fun k x => ∃ j : Int, 0 ≤ j ∧ j ≤ K ∧ k = .int .i64 j ∧ x = .float .f64 (powW (K - j))) (fun k _ => (intOf k).toNat)
  case atStart => exact ⟨K, h1, by omega, rfl, by rw [Int.sub_self, HZ.out]⟩
  case round =>
    obtain ⟨j, hj1, hj2, rfl, rfl⟩ := hrel
    by_cases hlt : 0 < j
    · have hm := HM.out (K - j) (by omega) (by omega)
      go_wp2
      go_round
      case rel => exact ⟨j - 1, by omega, by omega, rfl, by rw [show K - (j - 1) = K - j + 1 from by omega]⟩
      case measure => simp [intOf]; omega
    · obtain rfl : j = 0 := by omega
      go_wp2
      go_loop [0, 3] (fun k x => k = .int .i64 0 ∧ x = .float .f64 (powW K)) (fun k _ => 0)
      case atStart => exact ⟨rfl, rfl⟩
      case round =>
        obtain ⟨rfl, rfl⟩ := hrel
        go_wp2
        go_ret
        exact ⟨rfl, rfl⟩
set_option maxHeartbeats 400000 in
theorem bound_neg (K : Int) (w : World) (h1 : -1000 ≤ K) (h2 : K ≤ 0) :
    Calls Try.prog 23 #[.int .i64 K] w fun e w' => e = .returned (.float .f64 (powW K)) ∧ w = w' := by
  have HZ := hidd powW_zero
  have HM := hidd (fun k => @powW_div k)
  go_enter Try.func23, Try.ntmps23
  go_wp2
  go_loop [0, 3] (fun k x => k = .int .i64 K ∧ x = .float .f64 (powW 0)) (fun k _ => 0)
  case atStart => exact ⟨rfl, by rw [HZ.out]⟩
  case round =>
    obtain ⟨rfl, rfl⟩ := hrel
    go_wp2
    go_loop [0, 3] (fun k x => ∃ j : Int, j ≤ 0 ∧ K ≤ j ∧ k = .int .i64 j ∧ x = .float .f64 (powW (K - j))) (fun k _ => (-(intOf k)).toNat)
    case atStart => exact ⟨K, h2, by omega, rfl, by rw [Int.sub_self]⟩
    case round =>
      obtain ⟨j, hj1, hj2, rfl, rfl⟩ := hrel
      by_cases hlt : j < 0
      · have hm := HM.out (K - j) (by omega) (by omega)
        go_wp2
        go_round
        case rel => exact ⟨j + 1, by omega, by omega, rfl, by rw [show K - (j + 1) = K - j - 1 from by omega]⟩
        case measure => simp [intOf]; omega
      · obtain rfl : j = 0 := by omega
        go_wp2
        go_ret
        exact ⟨rfl, rfl⟩
theorem bound_any (K : Int) (w : World) (h1 : -1000 ≤ K) (h2 : K ≤ 1000) :
    Calls Try.prog 23 #[.int .i64 K] w fun e w' => e = .returned (.float .f64 (powW K)) ∧ w = w' := by
  by_cases h : 0 ≤ K
  · exact bound_pos K w h h2
  · exact bound_neg K w h1 (by omega)

end Go.Proofs.Ytnfidnfokfgepaa

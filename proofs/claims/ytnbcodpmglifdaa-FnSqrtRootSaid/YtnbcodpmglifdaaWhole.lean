/- What the small functions of package laws give: a whole number from an integer, and an exact power of 2. -/
import Derived.Test.YtnbcodpmglifdaaRep
import Derived.Test.YtnbcodpmglifdaaMid
import Derived.LoopTactic
import Derived.OpenShut
set_option linter.unusedSimpArgs false
set_option linter.unusedVariables false
namespace Go.Proofs.Ytnbcodpmglifdaa
open Go.RowKit F64

theorem i32_of_wf {n : Int} (h : (Lit.int .i32 n).wf = true) : -2147483648 ≤ n ∧ n ≤ 2147483647 := bounds_i32 h
theorem i64_of_wf {n : Int} (h : (Lit.int .i64 n).wf = true) : -9223372036854775808 ≤ n ∧ n ≤ 9223372036854775807 := bounds_i64 h
theorem tmod_bound (x m : Int) (hm : 0 < m) : (x.tmod m).natAbs < m.natAbs := by
  rw [Int.natAbs_tmod]
  exact Nat.mod_lt _ (by omega)
/-- 'whole(x, n)'. -/
def wholeW (x n : Int) : Nat := floatOfInt .f64 (x.tmod (n + 1))
theorem whole_any (x n : Int) (w : World) (h1 : -2147483648 ≤ x) (h2 : x ≤ 2147483647) (h3 : 1 ≤ n) (h4 : n ≤ 1073741824) :
    Calls Try.prog 27 #[.int .i32 x, .int .i32 n] w fun e w' => e = .returned (.float .f64 (wholeW x n)) ∧ w = w' := by
  have H : Hid (wholeW x n = floatOfInt .f64 (x.tmod (n + 1))) := rfl
  go_enter Try.func27, Try.ntmps27
  go_wp2
  go_ret
  exact ⟨by rw [H.out]; rfl, rfl⟩

/-- The word of a power of 2. -/
def powW (k : Int) : Nat := (k + 1023).toNat * B
theorem powW_spec {k : Int} (h1 : -1022 ≤ k) (h2 : k ≤ 1023) : Wd (powW k) ∧ Fi (powW k) ∧ sg (powW k) = false ∧ rg (powW k) ≠ 0 ∧ val (powW k) = (2 : Rat) ^ k := by
  have hB := B_pos
  have hb : powW k < INF := by
    have : (k + 1023).toNat * B ≤ 2046 * B := Nat.mul_le_mul_right _ (by omega)
    have h3 : 2046 * B < INF := by decide
    unfold powW; omega
  have hb0 : 0 < powW k := Nat.mul_pos (by omega) hB
  have hsw := inf_lt_sw
  have e : powW k = Ieee.double.word false (powW k) := by rw [word_eq]; simp
  have hs : powW k < SW := by omega
  have r : rg (powW k) = powW k := by unfold rg; exact Nat.mod_eq_of_lt hs
  have s : sg (powW k) = false := by rw [e]; exact word_sg hs
  refine ⟨?_, ?_, s, by omega, ?_⟩
  · rw [e]; exact word_wd hs
  · unfold Fi; omega
  · rw [val_pos_word s, r]
    have : powW k = (k + 1022).toNat * B + B := by
      unfold powW; rw [← Nat.succ_mul]; congr 1; omega
    rw [this, rv_of _ _ (Or.inr ⟨by omega, by omega⟩)]
    have hB2 : ((B : Nat) : Rat) = (2 : Rat) ^ (52 : Int) := by decide +kernel
    rw [hB2, ← zp_add]; congr 1; omega
theorem val_TWO : val 4611686018427387904 = 2 := by decide +kernel
theorem fin_TWO : Fi 4611686018427387904 := by unfold Fi; decide
theorem powW_mul {k : Int} (h1 : -1022 ≤ k) (h2 : k < 1023) : fmul (powW k) 4611686018427387904 = some (powW (k + 1)) := by
  obtain ⟨a1, a2, a3, a4, a5⟩ := powW_spec (k := k) h1 (by omega)
  obtain ⟨b1, b2, b3, b4, b5⟩ := powW_spec (k := k + 1) (by omega) (by omega)
  obtain ⟨z, e, R, hs⟩ := mul_rnd a2 fin_TWO
  have := R.eq_word b2.num b1 (by rw [a5, b5, val_TWO, zp_add, Rat.zpow_one]) (by rw [hs, a3, b3]; decide)
  rw [← this]; exact e
theorem powW_div {k : Int} (h1 : -1022 < k) (h2 : k ≤ 1023) : fdiv (powW k) 4611686018427387904 = some (powW (k - 1)) := by
  obtain ⟨a1, a2, a3, a4, a5⟩ := powW_spec (k := k) (by omega) h2
  obtain ⟨b1, b2, b3, b4, b5⟩ := powW_spec (k := k - 1) (by omega) (by omega)
  obtain ⟨z, e, R, hs⟩ := div_rnd a2 fin_TWO (by decide)
  have := R.eq_word b2.num b1 (by
    rw [a5, b5, val_TWO, show k = k - 1 + 1 from by omega, zp_add, Rat.zpow_one, Rat.mul_div_cancel two_ne, show k - 1 + 1 - 1 = k - 1 from by omega]) (by rw [hs, a3, b3]; decide)
  rw [← this]; exact e
theorem powW_zero : powW 0 = 4607182418800017408 := by decide

end Go.Proofs.Ytnbcodpmglifdaa

/- A change of sign goes through products and quotients. -/
import Derived.Test.YtnfidnfokfgepaaHypotLaws
set_option linter.unusedSimpArgs false
set_option linter.unusedVariables false
namespace Go.Proofs.Ytnfidnfokfgepaa
open F64

/-- A change of sign goes through products and quotients. -/
theorem map_write_neg (n : Bool) (m : Nat) (p : Int) : Ieee.double.nearest (!n) m p = negw (Ieee.double.nearest n m p) := by
  refine wd_ext (nearest_rnd _ _ _).wd (negw_wd (nearest_rnd _ _ _).wd) ?_ ?_
  · rw [negw_sg (nearest_rnd _ _ _).wd, nearest_sg, nearest_sg]
  · rw [negw_rg (nearest_rnd _ _ _).wd]
    have hsw := inf_lt_sw
    have key : ∀ b : Bool, rg (Ieee.double.nearest b m p) = if m = 0 then 0 else min (near false m p) INF := by
      intro b
      by_cases h : m = 0
      · rw [if_pos h, h]; unfold Ieee.Format.nearest; rw [if_pos rfl]; exact word_rg (by decide)
      · rw [if_neg h, nearest_eq b m p h, word_rg (min_sw _)]
        congr 1
    rw [key, key]
theorem write_opp (d : Ieee.Datum) (h : ∃ n m p, d = .number n m p) : Ieee.double.write d.opposite = negw (Ieee.double.write d) := by
  obtain ⟨n, m, p, rfl⟩ := h
  exact map_write_neg n m p
theorem fmul_negl {x y z : Nat} (hx : Wd x) (fx : Fi x) (fy : Fi y) (h : fmul x y = some z) : fmul (fneg x) y = some (fneg z) := by
  rw [fneg_eq hx]
  obtain ⟨m, p, e1, _⟩ := read_fin fx
  obtain ⟨n, q, f1, _⟩ := read_fin fy
  unfold fmul Ieee.Format.mul at *
  rw [read_negw hx]
  rw [e1, f1] at h ⊢
  simp only [Ieee.Datum.opposite, Ieee.Datum.product, Option.map_some, Ieee.Format.write, Option.some.injEq] at h ⊢
  rw [show ((!sg x) ^^ sg y) = !(sg x ^^ sg y) from by cases sg x <;> cases sg y <;> rfl, map_write_neg, h]
  rw [fneg_eq (by rw [← h]; exact (nearest_rnd _ _ _).wd)]
theorem fmul_comm' {x y : Nat} (fx : Fi x) (fy : Fi y) : fmul x y = fmul y x := by
  obtain ⟨m, p, e1, _⟩ := read_fin fx
  obtain ⟨n, q, f1, _⟩ := read_fin fy
  unfold fmul Ieee.Format.mul
  rw [e1, f1]
  simp only [Ieee.Datum.product, Option.map_some, Ieee.Format.write, Option.some.injEq]
  rw [Nat.mul_comm, Int.add_comm, Bool.xor_comm]
theorem fmul_negr {x y z : Nat} (hy : Wd y) (fx : Fi x) (fy : Fi y) (h : fmul x y = some z) : fmul x (fneg y) = some (fneg z) := by
  rw [fmul_comm' fx (fneg_fi hy fy)]
  rw [fmul_comm' fx fy] at h
  exact fmul_negl hy fy fx h
theorem fdiv_negl {x y z : Nat} (hx : Wd x) (fx : Fi x) (fy : Fi y) (h0 : rg y ≠ 0) (h : fdiv x y = some z) : fdiv (fneg x) y = some (fneg z) := by
  rw [fneg_eq hx]
  obtain ⟨m, p, e1, _⟩ := read_fin fx
  obtain ⟨n, q, f1, _, _, _, fz⟩ := read_fin fy
  have hn : n ≠ 0 := fun h => h0 (fz.1 h)
  unfold fdiv Ieee.Format.div at *
  rw [read_negw hx]
  rw [e1, f1] at h ⊢
  simp only [Ieee.Datum.opposite, Ieee.Datum.quotient, if_neg hn, Option.map_some, Ieee.Format.write, Option.some.injEq] at h ⊢
  rw [show ((!sg x) ^^ sg y) = !(sg x ^^ sg y) from by cases sg x <;> cases sg y <;> rfl, map_write_neg, h]
  rw [fneg_eq (by rw [← h]; exact (nearest_rnd _ _ _).wd)]

theorem map_write_neg' (n : Bool) (m : Nat) (p : Int) : Ieee.double.nearest (!n) m p = negw (Ieee.double.nearest n m p) := map_write_neg n m p

end Go.Proofs.Ytnfidnfokfgepaa

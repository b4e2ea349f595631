/- Small facts that every law's frame uses. -/
import Derived.Test.YtojjlkmeicdeeaaOps
import Derived.ProofKit
import Derived.OpenShut
namespace Go.Proofs.Ytojjlkmeicdeeaa
open Go.RowKit F64
theorem wd_of_wf {b : Nat} (h : (Lit.float .f64 b).wf = true) : Wd b := by
  simp only [Lit.wf, decide_eq_true_eq] at h
  unfold Wd
  have e : (18446744073709551616 : Nat) = 2 ^ 64 := by decide
  omega
theorem grown_drewN (w : World) (n : Nat) : Grown w (w.drewN n) := by
  induction n with
  | zero => exact Grown.refl w
  | succ n ih => exact Grown.drew ih
end Go.Proofs.Ytojjlkmeicdeeaa

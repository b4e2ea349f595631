/- What the functions of package spec that build a Due, a struct in memory, give. -/
import Derived.Test.YtojjlkmeicdeeaaMid
import Derived.Test.YtojjlkmeicdeeaaFrame
set_option linter.unusedSimpArgs false
set_option linter.unusedVariables false
namespace Go.Proofs.Ytojjlkmeicdeeaa
open Go.RowKit F64

/-- A Due, as a value. -/
def due (a b : Nat) (fa fb : Bool) : Value := .agg #[.float .f64 a, .float .f64 b, .bool fa, .bool fb]
theorem bcell {W w1 : World} (hb : Below W.heap.size W w1) : (∀ b o, b < W.heap.size → w1.cell? ⟨b, o, none⟩ = W.cell? ⟨b, o, none⟩) ∧ (∀ b o, b < W.heap.size → w1.frozen? ⟨b, o, none⟩ = W.frozen? ⟨b, o, none⟩) :=
  ⟨fun b o h => hb.cell (p := ⟨b, o, none⟩) h, fun b o h => hb.frozen (p := ⟨b, o, none⟩) h⟩

section
variable (P : Program) (w : World) (a : Addr) (m : Mode)
@[go_sem] theorem run_store_float (k : FloatKind) (b : Nat) : (store a (.float k b) m).run P w = stored P w a (.float k b) m := run_store P w a _ m rfl
end
def NoneRet (w : World) (e : Ending) (w' : World) : Prop := ∃ r1 r2, ¬ Num r1 ∧ Wd r1 ∧ ¬ Num r2 ∧ Wd r2 ∧ e = .returned (.tuple #[due r1 r2 false false, .bool true]) ∧ Below w.heap.size w w'
theorem none_any (w : World) : Calls Try.prog 42 #[] w (NoneRet w) := by
  go_enter Try.func42, Try.ntmps42
  go_wp2_with fail
  refine (nan_any _).mono ?_
  rintro e w' ⟨r1, hr1, hw1, rfl, rfl⟩
  go_wp2_with fail
  refine (nan_any _).mono ?_
  rintro e w' ⟨r2, hr2, hw2, rfl, rfl⟩
  go_wp2_with fail
  refine bodyPost_ret (v := .tuple #[.agg #[.float .f64 r1, .float .f64 r2, .bool false, .bool false], .bool true]) (by simp [results, Try.results42, go_sem]) rfl ⟨r1, r2, hr1, hw1, hr2, hw2, rfl, ?_⟩
  exact (((((below_drewN ((Below.refl _ _).alloc (Nat.le_refl _) _) _).setCell (by simp) _).setCell (by simp) _).setCell (by simp) _).setCell (by simp) _)

def partB (x a : Nat) (f : Bool) : Bool := same x a || (f && same x (fneg a))
theorem part_any (x a : Nat) (f : Bool) (w : World) (hx : Wd x) (ha : Wd a) :
    Calls Try.prog 44 #[.float .f64 x, .float .f64 a, .bool f] w fun e w' => e = .returned (.bool (partB x a f)) ∧ w = w' := by
  have H : Hid (partB x a f = (same x a || (f && same x (fneg a)))) := rfl
  have hn := fneg_wd ha
  cases h1 : same x a <;> cases f
  all_goals
    go_enter Try.func44, Try.ntmps44
    go_wp2_with (first | (go_at_call 19; refine (isNan_any _ _).mono ?_; rintro e w' ⟨rfl, rfl⟩) | (go_at_call 20; refine (infinity_any _).mono ?_; rintro e w' ⟨rfl, rfl⟩) | (go_at_call 35; refine (isInf_any _ _ (by assumption)).mono ?_; rintro e w' ⟨rfl, rfl⟩) | (go_at_call 17; refine (isFinite_any _ _ (by assumption)).mono ?_; rintro e w' ⟨rfl, rfl⟩) | (go_at_call 31; refine (minus_any _ _ (by assumption)).mono ?_; rintro e w' ⟨rfl, rfl⟩) | (go_at_call 26; refine (size_any _ _ (by assumption)).mono ?_; rintro e w' ⟨rfl, rfl⟩) | (go_at_call 32; refine (like_any _ _ _ (by assumption) (by assumption)).mono ?_; rintro e w' ⟨rfl, rfl⟩) | (go_at_call 22; refine (same_any _ _ _ (by assumption) (by assumption)).mono ?_; rintro e w' ⟨rfl, rfl⟩) | (go_at_call 21; refine (conj_any _ _ _).mono ?_; rintro e w' ⟨rfl, rfl⟩) | (go_at_call 15; refine (isInf2_any _ _ _ (by assumption) (by assumption)).mono ?_; rintro e w' ⟨rfl, rfl⟩) | (go_at_call 16; refine (isNaN2_any _ _ _ (by assumption) (by assumption)).mono ?_; rintro e w' ⟨rfl, rfl⟩) | (go_at_call 18; refine (abs_any _ _ _).mono ?_; rintro e w' ⟨rfl, rfl⟩) | (go_at_call 27; refine (realHypot_any _ _ _).mono ?_; rintro e w' ⟨rfl, rfl⟩) | (go_at_call 54; refine (mAbs_any _ _ (by assumption)).mono ?_; rintro e w' ⟨rfl, rfl⟩))
    go_ret
    exact ⟨by rw [H.out, h1]; rfl, rfl⟩
/-- Both parts are as due. -/
def MetRet (b : Bool) (w : World) (e : Ending) (w' : World) : Prop := e = .returned (.bool b) ∧ Below w.heap.size w w'
theorem met_any (a b x y : Nat) (fa fb : Bool) (w : World) (ha : Wd a) (hb : Wd b) (hx : Wd x) (hy : Wd y) (h1 : partB x a fa = true) (h2 : partB y b fb = true) :
    Calls Try.prog 30 #[.agg #[.float .f64 a, .float .f64 b, .bool fa, .bool fb], .float .f64 x, .float .f64 y] w (MetRet true w) := by
  go_enter Try.func30, Try.ntmps30
  go_wp2_with (go_at_call 44; refine (part_any _ _ _ _ (by assumption) (by assumption)).mono ?_; rintro e w' ⟨rfl, rfl⟩)
  go_ret
  exact ⟨rfl, (Below.refl _ _).alloc (Nat.le_refl _) _⟩

end Go.Proofs.Ytojjlkmeicdeeaa

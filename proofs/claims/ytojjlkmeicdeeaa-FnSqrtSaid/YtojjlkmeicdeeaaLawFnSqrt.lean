/- Proved: for every two words: wherever the standard names the root (zeros, infinities, what is no number), Sqrt gives both parts as named. No condition. -/
import Derived.Test.YtojjlkmeicdeeaaRows
import Derived.Test.YtojjlkmeicdeeaaDueSqrt
import Derived.Test.YtojjlkmeicdeeaaFrame
set_option linter.unusedSimpArgs false
set_option linter.unusedVariables false
namespace Go.Proofs.Ytojjlkmeicdeeaa.fnSqrt
open Go.ChangeShapes Go.WideShapes Go.ChangeAt Go.RowKit F64

set_option maxRecDepth 100000 in
theorem walk (x y : Nat) (hx : Wd x) (hy : Wd y) (w : World) :
    Calls Try.prog 8 #[.float .f64 x, .float .f64 y] w fun e w' => e = .returned (.bool true) ∧ Below w.heap.size w w' := by
  go_enter Try.func8, Try.ntmps8
  go_wp2_with fail
  refine (specSqrt_any x y _ hx hy).mono ?_
  rintro e w1 ⟨a, b, fa, fb, n, rfl, wa, wb, hs, hb⟩
  have HB := hidd hb
  have hz := hb.size
  cases n
  · clear hs hb
    go_wp2_with (first | (go_at_call 29; refine (sqrt2_any _ _ _ hx hy).mono ?_; rintro e w' ⟨c, d, k, hr, wc, wd, rfl, rfl⟩))
    go_ret
    refine ⟨rfl, ?_⟩
    first
      | exact HB.out.alloc HB.out.size _
      | exact below_drewN (HB.out.alloc HB.out.size _) _
  · have hs2 := hs rfl
    clear hb hs
    go_wp2_with (first | (go_at_call 29; refine (sqrt2_any _ _ _ hx hy).mono ?_; rintro e w' ⟨c, d, k, hr, wc, wd, rfl, rfl⟩))
    obtain ⟨p1, p2⟩ := hs2 c d hr
    refine (met_any a b c d fa fb _ wa wb wc wd p1 p2).mono ?_
    rintro e w2 ⟨rfl, hb2⟩
    go_wp2_with fail
    go_ret
    refine ⟨rfl, ?_⟩
    have h1 : Below w.heap.size w ((w1.alloc (.cells #[.float .f64 a, .float .f64 b, .bool fa, .bool fb] 37)).drewN k) := below_drewN (HB.out.alloc HB.out.size _) _
    exact h1.trans (hb2.mono (by simp; omega))

theorem own : ownKnob Try.prog.godebug = none := by kernel_rfl
set_option maxRecDepth 100000 in
theorem lifted (os : Os) (started : os.Started) (H : Type) (enc : TypeId × Value → H) :
    ReturnsInHanded {} Try.checked os 8 .any (Rows.fnSqrtSpec.pre6 enc Try.prog Try.f8 Rows.fnSqrtRow.domain false) (Rows.fnSqrtSpec.post enc Try.prog Try.f8 false true false false) := by
  refine returnsInHanded_of_change (C := Try.checked) own started (by kernel_rfl) Try.func8
    (ChangeSpec.witness6 (enc := enc) (C := Try.checked) false ⟨#[], #[.float .f64 0, .float .f64 0], []⟩ 8 (by kernel_rfl) (by kernel_rfl) (by kernel_rfl) (by kernel_rfl)) ?_
  intro W base args ds gs before hval0 hW hcnd _
  have hval : ∀ (j : Nat) t v, Try.f8.params[j]? = some t → args[j]? = some v → Value.okWide Try.prog W .any base t v := hval0
  have hW' := hW
  obtain ⟨p, q, hA0, hV, rfl, hfz, hnd⟩ := hW
  have hA : DataW.TrodAll enc Try.prog W 0 (fun _ => true) true Try.f8.params.toList args.toList ds p := hA0
  rw [Try.params8] at hA hval
  obtain ⟨v0, vs0, d0, ds0, p0, q0, hargs, rfl, rfl, h0, r0⟩ := trodAll_cons hA
  obtain ⟨v1, vs1, d1, ds1, p1, q1, rfl, rfl, rfl, h1, r1⟩ := trodAll_cons r0
  obtain ⟨rfl, rfl, rfl⟩ := trodAll_nil r1
  obtain rfl : args = #[v0, v1] := by cases args; simp_all
  obtain ⟨rfl, rfl⟩ := trodVars_none hV
  obtain ⟨a0, rfl, rfl, rfl, w0⟩ := open_float Try.underlying22 (hval 0 22 v0 rfl rfl) h0
  obtain ⟨a1, rfl, rfl, rfl, w1⟩ := open_float Try.underlying22 (hval 1 22 v1 rfl rfl) h1
  clear hA0 hval0
  simp only [List.append_nil] at hW'
  refine (walk a0 a1 (wd_of_wf w0) (wd_of_wf w1) W).mono fun e W' ⟨he, hg⟩ => ?_
  subst he
  exact ⟨_, rfl, _, _, _, [], [], [], hW', trodAll_mk1 (shut_bool Try.underlying4 _), (trodAll_cons_mk (shut_float Try.underlying22 w0) (trodAll_cons_mk (shut_float Try.underlying22 w1) trodAll_mk0)), rfl, hg.frame _, fun h => by cases h⟩
theorem over : Rows.fnSqrtRow.holds Try.pinned (OpenSpec.ofChange Rows.fnSqrtSpec) :=
  OpenClaim.holds_of_wide 8 Try.f8 rfl rfl rfl rfl rfl rfl rfl ⟨rfl, rfl, rfl, rfl, rfl⟩ rfl rfl rfl rfl rfl (by kernel_rfl) Try.func8 (by kernel_rfl)
    (of_decide_eq_true (by kernel_rfl)) (by unfold Func.isWrapper; first | (rw [if_pos (by decide +kernel)]; kernel_rfl) | (rw [if_neg (by decide +kernel)]; exact ⟨rfl, rfl⟩))
    (fun os started H enc _ => lifted os started H enc)
/-- The given statement. -/
theorem proved : Rows.FnSqrtSaid := over
end Go.Proofs.Ytojjlkmeicdeeaa.fnSqrt

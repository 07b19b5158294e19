/-
  For every x of type int32 the law FnExactStep returns true and leaves x as it was: the thin package's Step(x) (Schrage's way to reckon 48271 * x by its remainder by 2147483647 without leaving 32 bits) equals the reference's Step(x) wherever 1 ≤ x and x < 2147483647.
  Conditions: none beyond the given statement's own (any world, any x that fits int32); outside 1 ≤ x < 2147483647 the law itself answers true.
  Parts: 'hi_lo', 'step_low', 'step_high': the plain arithmetic; 'walk': the Go text's run; 'lifted', 'over', 'proved': the row's frame, written by the kit's proof-skeleton.mjs.
-/
import Derived.Test.YtopnpinimhepiaaRows
import Derived.WalkKit
import Derived.ProofKit
import Derived.OpenShut
namespace Go.Proofs.Ytopnpinimhepiaa.fnExactStep
open Go.ChangeShapes Go.WideShapes Go.ChangeAt Go.RowKit
set_option linter.unusedVariables false

theorem own : ownKnob Try.prog.godebug = none := by kernel_rfl

/-! ### STEP 1: the walk -/
theorem hi_lo (x : Int) (h1 : 1 ≤ x) (h2 : x < 2147483647) :
    0 ≤ x / 44488 ∧ x / 44488 ≤ 48271 ∧ 0 ≤ x % 44488 ∧ x % 44488 ≤ 44487 := by omega

theorem step_low (x : Int) (h1 : 1 ≤ x) (h2 : x < 2147483647) (h : 48271 * (x % 44488) - 3399 * (x / 44488) < 0) :
    48271 * (x % 44488) - 3399 * (x / 44488) + 2147483647 = x * 48271 % 2147483647 := by omega

theorem step_high (x : Int) (h1 : 1 ≤ x) (h2 : x < 2147483647) (h : ¬ 48271 * (x % 44488) - 3399 * (x / 44488) < 0) :
    48271 * (x % 44488) - 3399 * (x / 44488) = x * 48271 % 2147483647 := by omega

theorem walk (a0 : Int) (w0 : (Lit.int .i32 a0).wf = true) (w : World) :
    Calls Try.prog 3 #[.int .i32 a0] w fun e w' => e = .returned (.bool true) ∧ Grown w w' := by
  obtain ⟨bd1, bd2⟩ := bounds_i32 w0
  by_cases h1 : a0 < 1
  · go_enter Try.func3, Try.ntmps3
    go_wp2
    go_ret
    exact ⟨rfl, Grown.refl _⟩
  · by_cases h2 : 2147483647 ≤ a0
    · go_enter Try.func3, Try.ntmps3
      go_wp2
      go_ret
      exact ⟨rfl, Grown.refl _⟩
    · have g1 : 1 ≤ a0 := by omega
      have g2 : a0 < 2147483647 := by omega
      obtain ⟨b1, b2, b3, b4⟩ := hi_lo a0 g1 g2
      by_cases h : 48271 * (a0 % 44488) - 3399 * (a0 / 44488) < 0
      · go_enter Try.func3, Try.ntmps3
        go_wp2
        go_ret
        exact ⟨by rw [step_low a0 g1 g2 h]; simp, Grown.refl _⟩
      · go_enter Try.func3, Try.ntmps3
        go_wp2
        go_ret
        exact ⟨by rw [step_high a0 g1 g2 (by omega)]; simp, Grown.refl _⟩

/-! ### The row's step -/
set_option maxRecDepth 100000 in
theorem lifted (os : Os) (started : os.Started) (H : Type) (enc : TypeId × Value → H) :
    ReturnsInHanded {} Try.checked os 3 .any (Rows.fnExactStepSpec.pre6 enc Try.prog Try.f3 Rows.fnExactStepRow.domain false) (Rows.fnExactStepSpec.post enc Try.prog Try.f3 false true false false) := by
  refine returnsInHanded_of_change (C := Try.checked) own started (by kernel_rfl) Try.func3
    (ChangeSpec.witness6 (enc := enc) (C := Try.checked) false ⟨#[], #[.int .i32 0], []⟩ 8 (by kernel_rfl) (by kernel_rfl) (by kernel_rfl) (by kernel_rfl)) ?_
  intro W base args ds gs before hval0 hW hcnd _
  have hval : ∀ (j : Nat) t v, Try.f3.params[j]? = some t → args[j]? = some v → Value.okWide Try.prog W .any base t v := hval0
  have hW' := hW
  obtain ⟨p, q, hA0, hV, rfl, hfz, hnd⟩ := hW
  have hA : DataW.TrodAll enc Try.prog W 0 (fun _ => true) true Try.f3.params.toList args.toList ds p := hA0
  rw [Try.params3] at hA hval
  obtain ⟨v0, vs0, d0, ds0, p0, q0, hargs, rfl, rfl, h0, r0⟩ := trodAll_cons hA
  obtain ⟨rfl, rfl, rfl⟩ := trodAll_nil r0
  obtain rfl : args = #[v0] := by cases args; simp_all
  obtain ⟨rfl, rfl⟩ := trodVars_none hV
  obtain ⟨a0, rfl, rfl, rfl, w0⟩ := open_int Try.underlying21 (hval 0 21 v0 rfl rfl) h0
  clear hA0 hval0
  simp only [List.append_nil] at hW'
  refine (walk a0 w0 W).mono fun e W' ⟨he, hg⟩ => ?_
  subst he
  exact ⟨_, rfl, post_of_same (pa := []) (pv := []) hW' (fun _ _ _ => (trodAll_cons_mk (shut_bool Try.underlying4 _) trodAll_mk0)) (fun sp _ => (trodAll_cons_mk (shut_int Try.underlying21 w0) trodAll_mk0)) (fun _ _ => rfl) rfl
    (hg.frame _) hg.2.1 (ok_one (by kernel_rfl) rfl (okWide_bool_mk Try.underlying4 _))⟩

theorem over : Rows.fnExactStepRow.holds Try.pinned (OpenSpec.ofChange Rows.fnExactStepSpec) :=
  OpenClaim.holds_of_wide 3 Try.f3 rfl rfl rfl rfl rfl rfl rfl ⟨rfl, rfl, rfl, rfl, rfl⟩ rfl rfl rfl rfl rfl (by kernel_rfl) Try.func3 (by kernel_rfl)
    (of_decide_eq_true (by kernel_rfl)) (by unfold Func.isWrapper; first | (rw [if_pos (by decide +kernel)]; kernel_rfl) | (rw [if_neg (by decide +kernel)]; exact ⟨rfl, rfl⟩))
    (fun os started H enc _ => lifted os started H enc)

/-- The given statement. -/
theorem proved : Rows.FnExactStepSaid :=
  over
#print axioms proved
end Go.Proofs.Ytopnpinimhepiaa.fnExactStep

/-
  'FnToBoolAgreesAcrossViews' returns true for every string and every int32: the row, out of the walk in YoefywBoolWalk.
-/
import Derived.Test.YoefywRows
import Derived.Test.YoefywBoolWalk
import Derived.WalkKit
import Derived.ProofKit
import Derived.OpenShut
import Derived.ShutString
import Derived.ChangeOld
import Derived.Below
namespace Go.Proofs.Yoefyw.fnToBoolAgreesAcrossViews
open Go.ChangeShapes Go.WideShapes Go.ChangeAt Go.RowKit
open Go.ChangeMaps (open_string shut_string)
set_option linter.unusedVariables false      -- a walk need not use every 'w<i>' (that an integer argument fits its kind)

theorem own : ownKnob Efyg.prog.godebug = none := by kernel_rfl

/-! ### THE ROW's STEP: WRITTEN OUT: LEAVE IT -/
set_option maxRecDepth 100000 in
theorem lifted (os : Os) (started : os.Started) (H : Type) (enc : TypeId × Value → H) :
    ReturnsInHanded {} Efyg.checked os 3 .any (Rows.fnToBoolAgreesAcrossViewsSpec.pre6 enc Efyg.prog Efyg.f3 Rows.fnToBoolAgreesAcrossViewsRow.domain false) (Rows.fnToBoolAgreesAcrossViewsSpec.post enc Efyg.prog Efyg.f3 false true false false) := by
  refine returnsInHanded_of_change (C := Efyg.checked) own started (by kernel_rfl) Efyg.func3
    (ChangeSpec.witness6 (enc := enc) (C := Efyg.checked) false ⟨#[], #[.string ByteArray.empty, .int .i32 0], []⟩ 8 (by kernel_rfl) (by kernel_rfl) (by kernel_rfl) (by kernel_rfl)) ?_
  intro W base args ds gs before hval0 hW hcnd _
  have hval : ∀ (j : Nat) t v, Efyg.f3.params[j]? = some t → args[j]? = some v → Value.okWide Efyg.prog W .any base t v := hval0
  have hW' := hW
  obtain ⟨p, q, hA0, hV, rfl, hfz, hnd⟩ := hW
  have hA : DataW.TrodAll enc Efyg.prog W 0 (fun _ => true) true Efyg.f3.params.toList args.toList ds p := hA0
  rw [Efyg.params3] at hA hval
  obtain ⟨v0, vs0, d0, ds0, p0, q0, hargs, rfl, rfl, h0, r0⟩ := trodAll_cons hA
  obtain ⟨v1, vs1, d1, ds1, p1, q1, rfl, rfl, rfl, h1, r1⟩ := trodAll_cons r0
  obtain ⟨rfl, rfl, rfl⟩ := trodAll_nil r1
  obtain rfl : args = #[v0, v1] := by cases args; simp_all
  obtain ⟨rfl, rfl⟩ := trodVars_none hV
  obtain ⟨a0, rfl, rfl, rfl, w0⟩ := open_string Efyg.underlying9 (hval 0 9 v0 rfl rfl) h0
  obtain ⟨a1, rfl, rfl, rfl, w1⟩ := open_int Efyg.underlying21 (hval 1 21 v1 rfl rfl) h1
  clear hA0 hval0
  simp only [List.append_nil] at hW'
  refine (ToBool.walk a0 a1 w0 w1 W).mono fun e W' ⟨he, bel⟩ => ?_
  subst he
  exact ⟨_, rfl, _, _, _, [], [], [], hW', trodAll_mk1 (shut_bool Efyg.underlying4 _), (trodAll_cons_mk (shut_string Efyg.underlying9 w0) (trodAll_cons_mk (shut_int Efyg.underlying21 w1) trodAll_mk0)), rfl, bel.frame _, fun h => by cases h⟩

theorem over : Rows.fnToBoolAgreesAcrossViewsRow.holds Efyg.pinned (OpenSpec.ofChange Rows.fnToBoolAgreesAcrossViewsSpec) :=
  OpenClaim.holds_of_wide 3 Efyg.f3 rfl rfl rfl rfl rfl rfl rfl ⟨rfl, rfl, rfl, rfl, rfl⟩ rfl rfl rfl rfl rfl (by kernel_rfl) Efyg.func3 (by kernel_rfl)
    (of_decide_eq_true (by kernel_rfl)) (by unfold Func.isWrapper; first | (rw [if_pos (by decide +kernel)]; kernel_rfl) | (rw [if_neg (by decide +kernel)]; exact ⟨rfl, rfl⟩))
    (fun os started H enc _ => lifted os started H enc)

/-- ████ THE STATEMENT ████ -/
theorem proved : Rows.FnToBoolAgreesAcrossViewsSaid :=
  over
#print axioms proved
end Go.Proofs.Yoefyw.fnToBoolAgreesAcrossViews

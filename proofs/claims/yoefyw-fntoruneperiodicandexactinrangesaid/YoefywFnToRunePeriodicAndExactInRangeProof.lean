/-
  'FnToRunePeriodicAndExactInRange' returns true for every int64: the row, out of the walk in YoefywPeriodicWalk.
-/
import Derived.Test.YoefywRows
import Derived.Test.YoefywPeriodicWalk
import Derived.WalkKit
import Derived.ProofKit
import Derived.OpenShut
import Derived.ShutString
namespace Go.Proofs.Yoefyw.fnToRunePeriodicAndExactInRange
open Go.ChangeShapes Go.WideShapes Go.ChangeAt Go.RowKit
open Go.ChangeMaps (open_string shut_string)
set_option linter.unusedVariables false      -- a walk need not use every 'w<i>' (that an integer argument fits its kind)

theorem own : ownKnob Efyg.prog.godebug = none := by kernel_rfl

/-! ### THE ROW's STEP: WRITTEN OUT: LEAVE IT -/
set_option maxRecDepth 100000 in
theorem lifted (os : Os) (started : os.Started) (H : Type) (enc : TypeId × Value → H) :
    ReturnsInHanded {} Efyg.checked os 5 .any (Rows.fnToRunePeriodicAndExactInRangeSpec.pre6 enc Efyg.prog Efyg.f5 Rows.fnToRunePeriodicAndExactInRangeRow.domain false) (Rows.fnToRunePeriodicAndExactInRangeSpec.post enc Efyg.prog Efyg.f5 false true false false) := by
  refine returnsInHanded_of_change (C := Efyg.checked) own started (by kernel_rfl) Efyg.func5
    (ChangeSpec.witness6 (enc := enc) (C := Efyg.checked) false ⟨#[], #[.int .i64 0], []⟩ 8 (by kernel_rfl) (by kernel_rfl) (by kernel_rfl) (by kernel_rfl)) ?_
  intro W base args ds gs before hval0 hW hcnd _
  have hval : ∀ (j : Nat) t v, Efyg.f5.params[j]? = some t → args[j]? = some v → Value.okWide Efyg.prog W .any base t v := hval0
  have hW' := hW
  obtain ⟨p, q, hA0, hV, rfl, hfz, hnd⟩ := hW
  have hA : DataW.TrodAll enc Efyg.prog W 0 (fun _ => true) true Efyg.f5.params.toList args.toList ds p := hA0
  rw [Efyg.params5] at hA hval
  obtain ⟨v0, vs0, d0, ds0, p0, q0, hargs, rfl, rfl, h0, r0⟩ := trodAll_cons hA
  obtain ⟨rfl, rfl, rfl⟩ := trodAll_nil r0
  obtain rfl : args = #[v0] := by cases args; simp_all
  obtain ⟨rfl, rfl⟩ := trodVars_none hV
  obtain ⟨a0, rfl, rfl, rfl, w0⟩ := open_int Efyg.underlying2 (hval 0 2 v0 rfl rfl) h0
  clear hA0 hval0
  simp only [List.append_nil] at hW'
  refine (Periodic.walk a0 w0 W).mono fun e W' ⟨he, hg⟩ => ?_
  subst he
  exact ⟨_, rfl, post_of_same (pa := []) (pv := []) hW' (fun _ _ _ => (trodAll_cons_mk (shut_bool Efyg.underlying4 _) trodAll_mk0)) (fun sp _ => (trodAll_cons_mk (shut_int Efyg.underlying2 w0) trodAll_mk0)) (fun _ _ => rfl) rfl
    (hg.frame _) hg.2.1 (ok_one (by kernel_rfl) rfl (okWide_bool_mk Efyg.underlying4 _))⟩

theorem over : Rows.fnToRunePeriodicAndExactInRangeRow.holds Efyg.pinned (OpenSpec.ofChange Rows.fnToRunePeriodicAndExactInRangeSpec) :=
  OpenClaim.holds_of_wide 5 Efyg.f5 rfl rfl rfl rfl rfl rfl rfl ⟨rfl, rfl, rfl, rfl, rfl⟩ rfl rfl rfl rfl rfl (by kernel_rfl) Efyg.func5 (by kernel_rfl)
    (of_decide_eq_true (by kernel_rfl)) (by unfold Func.isWrapper; first | (rw [if_pos (by decide +kernel)]; kernel_rfl) | (rw [if_neg (by decide +kernel)]; exact ⟨rfl, rfl⟩))
    (fun os started H enc _ => lifted os started H enc)

/-- ████ THE STATEMENT ████ -/
theorem proved : Rows.FnToRunePeriodicAndExactInRangeSaid :=
  over
#print axioms proved
end Go.Proofs.Yoefyw.fnToRunePeriodicAndExactInRange

/-
  No cell of these rows narrows 'for every input' (looked for: loops, veiled, ifaces, maps, wideKeys, modest, calm, conditions, laid).
  DERIVED. THE GIVEN ROWS OF THIS SEAT. 4 by the template 'for every input the law returns true; each argument reads behind the call as it read before'; 0 by the template 'total and deterministic' (their statements: YoefywTotals.lean).
  GIVEN WITH THE SEED: the statements are not yours to turn. If you find one false, say at which input.
  Laid BY PROGRAM, IN A SANDBOX (cutbox-rows.mjs): the forced cells as the released guide's own fill.sh prints them over the translation 2fd9aaee6771e125… (all of the seat's roots in one cut). By AI agents, Wed Nov 11 2026. No macro, syntax, notation, axiom, sorry.
-/
import Derived.Test.YoefywChecked
import GoSem.Claim
import GoSem.ClaimJoined
import GoSem.ClaimMapViews
import Derived.JoinedTies
import Derived.KernelRfl
namespace Go.Proofs.Yoefyw
/- THE CELL 'sum', in the pinned program and in every row, IS THE sha256 OF THE DUMP (.gsa) THAT YoefywProg.lean LOADS. Nothing in Lean hashes anything: it is a label: what it is worth is what the hold of that sum in a sandbox is worth. -/
noncomputable def Efyg.pinned : Pinned := { name := "yoefyw", sum := "2fd9aaee6771e12558cbdf98cb0d0501ee326c84d9720c5155f8ec149c9ce49a", checked := Efyg.checked }
namespace Rows
def none {H : Type} : Left H := { results := [], args := [] }

/-- 'zzlaws_root_b2.FnToBoolAgreesAcrossViews': WHATEVER THE INPUT: true; the input reads as it did. -/
def fnToBoolAgreesAcrossViewsSpec : ChangeSpec := { name := "fnToBoolAgreesAcrossViews", fn := fun _ => fun
  | [d1, d2] => { results := [.lit (.bool true)], args := [d1, d2] }
  | _ => none }
def fnToBoolAgreesAcrossViewsRow : OpenClaim := { program := "yoefyw", sum := "2fd9aaee6771e12558cbdf98cb0d0501ee326c84d9720c5155f8ec149c9ce49a", func := "github.com/d5/tengo/v2/zzlaws_root_b2.FnToBoolAgreesAcrossViews", spec := "fnToBoolAgreesAcrossViews", unfollowed := true, recurses := true, apart := false }
def FnToBoolAgreesAcrossViewsSaid : Prop := fnToBoolAgreesAcrossViewsRow.holds Efyg.pinned (OpenSpec.ofChange fnToBoolAgreesAcrossViewsSpec)

/-- ITS FALSE NEIGHBOUR: 'it returns false'. Refute it at one input. -/
def fnToBoolAgreesAcrossViewsWrong : ChangeSpec := { name := "fnToBoolAgreesAcrossViews", fn := fun _ => fun
  | [d1, d2] => { results := [.lit (.bool false)], args := [d1, d2] }
  | _ => none }
def FnToBoolAgreesAcrossViewsWrongFalsely : Prop := fnToBoolAgreesAcrossViewsRow.holds Efyg.pinned (OpenSpec.ofChange fnToBoolAgreesAcrossViewsWrong)

/-- 'zzlaws_root_b2.FnToRuneCaseTable': WHATEVER THE INPUT: true; the input reads as it did. -/
def fnToRuneCaseTableSpec : ChangeSpec := { name := "fnToRuneCaseTable", fn := fun _ => fun
  | [d1, d2, d3, d4, d5, d6] => { results := [.lit (.bool true)], args := [d1, d2, d3, d4, d5, d6] }
  | _ => none }
def fnToRuneCaseTableRow : OpenClaim := { program := "yoefyw", sum := "2fd9aaee6771e12558cbdf98cb0d0501ee326c84d9720c5155f8ec149c9ce49a", func := "github.com/d5/tengo/v2/zzlaws_root_b2.FnToRuneCaseTable", spec := "fnToRuneCaseTable", apart := false }
def FnToRuneCaseTableSaid : Prop := fnToRuneCaseTableRow.holds Efyg.pinned (OpenSpec.ofChange fnToRuneCaseTableSpec)

/-- ITS FALSE NEIGHBOUR: 'it returns false'. Refute it at one input. -/
def fnToRuneCaseTableWrong : ChangeSpec := { name := "fnToRuneCaseTable", fn := fun _ => fun
  | [d1, d2, d3, d4, d5, d6] => { results := [.lit (.bool false)], args := [d1, d2, d3, d4, d5, d6] }
  | _ => none }
def FnToRuneCaseTableWrongFalsely : Prop := fnToRuneCaseTableRow.holds Efyg.pinned (OpenSpec.ofChange fnToRuneCaseTableWrong)

/-- 'zzlaws_root_b2.FnToRunePeriodicAndExactInRange': WHATEVER THE INPUT: true; the input reads as it did. -/
def fnToRunePeriodicAndExactInRangeSpec : ChangeSpec := { name := "fnToRunePeriodicAndExactInRange", fn := fun _ => fun
  | [d] => { results := [.lit (.bool true)], args := [d] }
  | _ => none }
def fnToRunePeriodicAndExactInRangeRow : OpenClaim := { program := "yoefyw", sum := "2fd9aaee6771e12558cbdf98cb0d0501ee326c84d9720c5155f8ec149c9ce49a", func := "github.com/d5/tengo/v2/zzlaws_root_b2.FnToRunePeriodicAndExactInRange", spec := "fnToRunePeriodicAndExactInRange", apart := false }
def FnToRunePeriodicAndExactInRangeSaid : Prop := fnToRunePeriodicAndExactInRangeRow.holds Efyg.pinned (OpenSpec.ofChange fnToRunePeriodicAndExactInRangeSpec)

/-- ITS FALSE NEIGHBOUR: 'it returns false'. Refute it at one input. -/
def fnToRunePeriodicAndExactInRangeWrong : ChangeSpec := { name := "fnToRunePeriodicAndExactInRange", fn := fun _ => fun
  | [d] => { results := [.lit (.bool false)], args := [d] }
  | _ => none }
def FnToRunePeriodicAndExactInRangeWrongFalsely : Prop := fnToRunePeriodicAndExactInRangeRow.holds Efyg.pinned (OpenSpec.ofChange fnToRunePeriodicAndExactInRangeWrong)

/-- 'zzlaws_root_b2.FnToByteSliceCopyVersusShare': WHATEVER THE INPUT: true; the input reads as it did. -/
def fnToByteSliceCopyVersusShareSpec : ChangeSpec := { name := "fnToByteSliceCopyVersusShare", fn := fun _ => fun
  | [d1, d2] => { results := [.lit (.bool true)], args := [d1, d2] }
  | _ => none }
def fnToByteSliceCopyVersusShareRow : OpenClaim := { program := "yoefyw", sum := "2fd9aaee6771e12558cbdf98cb0d0501ee326c84d9720c5155f8ec149c9ce49a", func := "github.com/d5/tengo/v2/zzlaws_root_b2.FnToByteSliceCopyVersusShare", spec := "fnToByteSliceCopyVersusShare", apart := false }
def FnToByteSliceCopyVersusShareSaid : Prop := fnToByteSliceCopyVersusShareRow.holds Efyg.pinned (OpenSpec.ofChange fnToByteSliceCopyVersusShareSpec)

/-- ITS FALSE NEIGHBOUR: 'it returns false'. Refute it at one input. -/
def fnToByteSliceCopyVersusShareWrong : ChangeSpec := { name := "fnToByteSliceCopyVersusShare", fn := fun _ => fun
  | [d1, d2] => { results := [.lit (.bool false)], args := [d1, d2] }
  | _ => none }
def FnToByteSliceCopyVersusShareWrongFalsely : Prop := fnToByteSliceCopyVersusShareRow.holds Efyg.pinned (OpenSpec.ofChange fnToByteSliceCopyVersusShareWrong)

end Rows
end Go.Proofs.Yoefyw

/-
  No cell of these rows narrows 'for every input' (looked for: loops, veiled, ifaces, maps, wideKeys, modest, calm, conditions, laid).
  DERIVED. THE GIVEN ROWS OF THIS SEAT. 7 by the template 'for every input the law returns true; each argument reads behind the call as it read before'; 0 by the template 'total and deterministic' (their statements: Qxb6602753aTotals.lean).
  GIVEN WITH THE SEED: the statements are not yours to turn. If you find one false, say at which input.
  Laid BY PROGRAM, IN A SANDBOX (cutbox-rows.mjs): the forced cells as the released guide's own fill.sh prints them over the translation b104c4ac371ca14f… (all of the seat's roots in one cut). By AI agents, Wed Nov 11 2026. No macro, syntax, notation, axiom, sorry.
-/
import Derived.Test.Qxb6602753aChecked
import GoSem.Claim
import GoSem.ClaimJoined
import GoSem.ClaimMapViews
import Derived.JoinedTies
import Derived.KernelRfl
namespace Go.Proofs.Qxb6602753a
/- THE CELL 'sum', in the pinned program and in every row, IS THE sha256 OF THE DUMP (.gsa) THAT Qxb6602753aProg.lean LOADS. Nothing in Lean hashes anything: it is a label: what it is worth is what the hold of that sum in a sandbox is worth. -/
noncomputable def Try.pinned : Pinned := { name := "qxb6602753a", sum := "b104c4ac371ca14f8a057b2b547e79cf3954a96640f163d341981a199898a85b", checked := Try.checked }
namespace Rows
def none {H : Type} : Left H := { results := [], args := [] }

/-- 'zzlaws_internal_engine_b1.FnUvarintAtMatchesHorner': WHATEVER THE INPUT: true; the input reads as it did. -/
def fnUvarintAtMatchesHornerSpec : ChangeSpec := { name := "fnUvarintAtMatchesHorner", fn := fun _ => fun
  | [d1, d2] => { results := [.lit (.bool true)], args := [d1, d2] }
  | _ => none }
def fnUvarintAtMatchesHornerRow : OpenClaim := { program := "qxb6602753a", sum := "b104c4ac371ca14f8a057b2b547e79cf3954a96640f163d341981a199898a85b", func := "example.com/epochwise/epochwise/zzlaws_internal_engine_b1.FnUvarintAtMatchesHorner", spec := "fnUvarintAtMatchesHorner", apart := false }
def FnUvarintAtMatchesHornerSaid : Prop := fnUvarintAtMatchesHornerRow.holds Try.pinned (OpenSpec.ofChange fnUvarintAtMatchesHornerSpec)

/-- ITS FALSE NEIGHBOUR: 'it returns false'. Refute it at one input. -/
def fnUvarintAtMatchesHornerWrong : ChangeSpec := { name := "fnUvarintAtMatchesHorner", fn := fun _ => fun
  | [d1, d2] => { results := [.lit (.bool false)], args := [d1, d2] }
  | _ => none }
def FnUvarintAtMatchesHornerWrongFalsely : Prop := fnUvarintAtMatchesHornerRow.holds Try.pinned (OpenSpec.ofChange fnUvarintAtMatchesHornerWrong)

/-- 'zzlaws_internal_engine_b1.FnUvarintAtInvertsEncoding': WHATEVER THE INPUT: true; the input reads as it did. -/
def fnUvarintAtInvertsEncodingSpec : ChangeSpec := { name := "fnUvarintAtInvertsEncoding", fn := fun _ => fun
  | [d1, d2, d3] => { results := [.lit (.bool true)], args := [d1, d2, d3] }
  | _ => none }
def fnUvarintAtInvertsEncodingRow : OpenClaim := { program := "qxb6602753a", sum := "b104c4ac371ca14f8a057b2b547e79cf3954a96640f163d341981a199898a85b", func := "example.com/epochwise/epochwise/zzlaws_internal_engine_b1.FnUvarintAtInvertsEncoding", spec := "fnUvarintAtInvertsEncoding", apart := false }
def FnUvarintAtInvertsEncodingSaid : Prop := fnUvarintAtInvertsEncodingRow.holds Try.pinned (OpenSpec.ofChange fnUvarintAtInvertsEncodingSpec)

/-- ITS FALSE NEIGHBOUR: 'it returns false'. Refute it at one input. -/
def fnUvarintAtInvertsEncodingWrong : ChangeSpec := { name := "fnUvarintAtInvertsEncoding", fn := fun _ => fun
  | [d1, d2, d3] => { results := [.lit (.bool false)], args := [d1, d2, d3] }
  | _ => none }
def FnUvarintAtInvertsEncodingWrongFalsely : Prop := fnUvarintAtInvertsEncodingRow.holds Try.pinned (OpenSpec.ofChange fnUvarintAtInvertsEncodingWrong)

/-- 'zzlaws_internal_engine_b1.FnUvarintAtReadsOnlyItsOwnBytes': WHATEVER THE INPUT: true; the input reads as it did. -/
def fnUvarintAtReadsOnlyItsOwnBytesSpec : ChangeSpec := { name := "fnUvarintAtReadsOnlyItsOwnBytes", fn := fun _ => fun
  | [d1, d2] => { results := [.lit (.bool true)], args := [d1, d2] }
  | _ => none }
def fnUvarintAtReadsOnlyItsOwnBytesRow : OpenClaim := { program := "qxb6602753a", sum := "b104c4ac371ca14f8a057b2b547e79cf3954a96640f163d341981a199898a85b", func := "example.com/epochwise/epochwise/zzlaws_internal_engine_b1.FnUvarintAtReadsOnlyItsOwnBytes", spec := "fnUvarintAtReadsOnlyItsOwnBytes", apart := false }
def FnUvarintAtReadsOnlyItsOwnBytesSaid : Prop := fnUvarintAtReadsOnlyItsOwnBytesRow.holds Try.pinned (OpenSpec.ofChange fnUvarintAtReadsOnlyItsOwnBytesSpec)

/-- ITS FALSE NEIGHBOUR: 'it returns false'. Refute it at one input. -/
def fnUvarintAtReadsOnlyItsOwnBytesWrong : ChangeSpec := { name := "fnUvarintAtReadsOnlyItsOwnBytes", fn := fun _ => fun
  | [d1, d2] => { results := [.lit (.bool false)], args := [d1, d2] }
  | _ => none }
def FnUvarintAtReadsOnlyItsOwnBytesWrongFalsely : Prop := fnUvarintAtReadsOnlyItsOwnBytesRow.holds Try.pinned (OpenSpec.ofChange fnUvarintAtReadsOnlyItsOwnBytesWrong)

/-- 'zzlaws_internal_engine_b1.FnNextReadsEveryVersionInOrder': WHATEVER THE INPUT: true; the input reads as it did. -/
def fnNextReadsEveryVersionInOrderSpec : ChangeSpec := { name := "fnNextReadsEveryVersionInOrder", fn := fun _ => fun
  | [d1, d2, d3] => { results := [.lit (.bool true)], args := [d1, d2, d3] }
  | _ => none }
def fnNextReadsEveryVersionInOrderRow : OpenClaim := { program := "qxb6602753a", sum := "b104c4ac371ca14f8a057b2b547e79cf3954a96640f163d341981a199898a85b", func := "example.com/epochwise/epochwise/zzlaws_internal_engine_b1.FnNextReadsEveryVersionInOrder", spec := "fnNextReadsEveryVersionInOrder", apart := false }
def FnNextReadsEveryVersionInOrderSaid : Prop := fnNextReadsEveryVersionInOrderRow.holds Try.pinned (OpenSpec.ofChange fnNextReadsEveryVersionInOrderSpec)

/-- ITS FALSE NEIGHBOUR: 'it returns false'. Refute it at one input. -/
def fnNextReadsEveryVersionInOrderWrong : ChangeSpec := { name := "fnNextReadsEveryVersionInOrder", fn := fun _ => fun
  | [d1, d2, d3] => { results := [.lit (.bool false)], args := [d1, d2, d3] }
  | _ => none }
def FnNextReadsEveryVersionInOrderWrongFalsely : Prop := fnNextReadsEveryVersionInOrderRow.holds Try.pinned (OpenSpec.ofChange fnNextReadsEveryVersionInOrderWrong)

/-- 'zzlaws_internal_engine_b1.FnToFirstNeededMatchesStepwiseScan': WHATEVER THE INPUT: true; the input reads as it did. -/
def fnToFirstNeededMatchesStepwiseScanSpec : ChangeSpec := { name := "fnToFirstNeededMatchesStepwiseScan", fn := fun _ => fun
  | [d1, d2, d3, d4, d5] => { results := [.lit (.bool true)], args := [d1, d2, d3, d4, d5] }
  | _ => none }
def fnToFirstNeededMatchesStepwiseScanRow : OpenClaim := { program := "qxb6602753a", sum := "b104c4ac371ca14f8a057b2b547e79cf3954a96640f163d341981a199898a85b", func := "example.com/epochwise/epochwise/zzlaws_internal_engine_b1.FnToFirstNeededMatchesStepwiseScan", spec := "fnToFirstNeededMatchesStepwiseScan", apart := false }
def FnToFirstNeededMatchesStepwiseScanSaid : Prop := fnToFirstNeededMatchesStepwiseScanRow.holds Try.pinned (OpenSpec.ofChange fnToFirstNeededMatchesStepwiseScanSpec)

/-- ITS FALSE NEIGHBOUR: 'it returns false'. Refute it at one input. -/
def fnToFirstNeededMatchesStepwiseScanWrong : ChangeSpec := { name := "fnToFirstNeededMatchesStepwiseScan", fn := fun _ => fun
  | [d1, d2, d3, d4, d5] => { results := [.lit (.bool false)], args := [d1, d2, d3, d4, d5] }
  | _ => none }
def FnToFirstNeededMatchesStepwiseScanWrongFalsely : Prop := fnToFirstNeededMatchesStepwiseScanRow.holds Try.pinned (OpenSpec.ofChange fnToFirstNeededMatchesStepwiseScanWrong)

/-- 'zzlaws_internal_engine_b1.FnToFirstNeededKeepsWhatTheHorizonSees': WHATEVER THE INPUT: true; the input reads as it did. -/
def fnToFirstNeededKeepsWhatTheHorizonSeesSpec : ChangeSpec := { name := "fnToFirstNeededKeepsWhatTheHorizonSees", fn := fun _ => fun
  | [d1, d2, d3, d4, d5] => { results := [.lit (.bool true)], args := [d1, d2, d3, d4, d5] }
  | _ => none }
def fnToFirstNeededKeepsWhatTheHorizonSeesRow : OpenClaim := { program := "qxb6602753a", sum := "b104c4ac371ca14f8a057b2b547e79cf3954a96640f163d341981a199898a85b", func := "example.com/epochwise/epochwise/zzlaws_internal_engine_b1.FnToFirstNeededKeepsWhatTheHorizonSees", spec := "fnToFirstNeededKeepsWhatTheHorizonSees", apart := false }
def FnToFirstNeededKeepsWhatTheHorizonSeesSaid : Prop := fnToFirstNeededKeepsWhatTheHorizonSeesRow.holds Try.pinned (OpenSpec.ofChange fnToFirstNeededKeepsWhatTheHorizonSeesSpec)

/-- ITS FALSE NEIGHBOUR: 'it returns false'. Refute it at one input. -/
def fnToFirstNeededKeepsWhatTheHorizonSeesWrong : ChangeSpec := { name := "fnToFirstNeededKeepsWhatTheHorizonSees", fn := fun _ => fun
  | [d1, d2, d3, d4, d5] => { results := [.lit (.bool false)], args := [d1, d2, d3, d4, d5] }
  | _ => none }
def FnToFirstNeededKeepsWhatTheHorizonSeesWrongFalsely : Prop := fnToFirstNeededKeepsWhatTheHorizonSeesRow.holds Try.pinned (OpenSpec.ofChange fnToFirstNeededKeepsWhatTheHorizonSeesWrong)

/-- 'zzlaws_internal_engine_b1.FnToFirstNeededMonotoneInHorizon': WHATEVER THE INPUT: true; the input reads as it did. -/
def fnToFirstNeededMonotoneInHorizonSpec : ChangeSpec := { name := "fnToFirstNeededMonotoneInHorizon", fn := fun _ => fun
  | [d1, d2, d3, d4, d5, d6] => { results := [.lit (.bool true)], args := [d1, d2, d3, d4, d5, d6] }
  | _ => none }
def fnToFirstNeededMonotoneInHorizonRow : OpenClaim := { program := "qxb6602753a", sum := "b104c4ac371ca14f8a057b2b547e79cf3954a96640f163d341981a199898a85b", func := "example.com/epochwise/epochwise/zzlaws_internal_engine_b1.FnToFirstNeededMonotoneInHorizon", spec := "fnToFirstNeededMonotoneInHorizon", apart := false }
def FnToFirstNeededMonotoneInHorizonSaid : Prop := fnToFirstNeededMonotoneInHorizonRow.holds Try.pinned (OpenSpec.ofChange fnToFirstNeededMonotoneInHorizonSpec)

/-- ITS FALSE NEIGHBOUR: 'it returns false'. Refute it at one input. -/
def fnToFirstNeededMonotoneInHorizonWrong : ChangeSpec := { name := "fnToFirstNeededMonotoneInHorizon", fn := fun _ => fun
  | [d1, d2, d3, d4, d5, d6] => { results := [.lit (.bool false)], args := [d1, d2, d3, d4, d5, d6] }
  | _ => none }
def FnToFirstNeededMonotoneInHorizonWrongFalsely : Prop := fnToFirstNeededMonotoneInHorizonRow.holds Try.pinned (OpenSpec.ofChange fnToFirstNeededMonotoneInHorizonWrong)

end Rows
end Go.Proofs.Qxb6602753a

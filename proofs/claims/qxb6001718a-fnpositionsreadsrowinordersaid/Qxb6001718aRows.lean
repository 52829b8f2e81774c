/-
  No cell of these rows narrows 'for every input' (looked for: loops, veiled, ifaces, maps, wideKeys, modest, calm, conditions, laid).
  DERIVED. THE GIVEN ROWS OF THIS SEAT. 6 by the template 'for every input the law returns true; each argument reads behind the call as it read before'; 0 by the template 'total and deterministic' (their statements: Qxb6001718aTotals.lean).
  GIVEN WITH THE SEED: the statements are not yours to turn. If you find one false, say at which input.
  Laid BY PROGRAM, IN A SANDBOX (cutbox-rows.mjs): the forced cells as the released guide's own fill.sh prints them over the translation aa827f8540e2c6f3… (all of the seat's roots in one cut). By AI agents, Wed Nov 11 2026. No macro, syntax, notation, axiom, sorry.
-/
import Derived.Test.Qxb6001718aChecked
import GoSem.Claim
import GoSem.ClaimJoined
import GoSem.ClaimMapViews
import Derived.JoinedTies
import Derived.KernelRfl
namespace Go.Proofs.Qxb6001718a
/- THE CELL 'sum', in the pinned program and in every row, IS THE sha256 OF THE DUMP (.gsa) THAT Qxb6001718aProg.lean LOADS. Nothing in Lean hashes anything: it is a label: what it is worth is what the hold of that sum in a sandbox is worth. -/
noncomputable def Try.pinned : Pinned := { name := "qxb6001718a", sum := "aa827f8540e2c6f39cced7cb7fbdaeea4b27531bcbb01fc34393f96a71f1a9e4", checked := Try.checked }
namespace Rows
def none {H : Type} : Left H := { results := [], args := [] }

/-- 'zzlaws_engine_b1.FnPositionsAscendingPermutation': WHATEVER THE INPUT: true; the input reads as it did. -/
def fnPositionsAscendingPermutationSpec : ChangeSpec := { name := "fnPositionsAscendingPermutation", fn := fun _ => fun
  | [d] => { results := [.lit (.bool true)], args := [d] }
  | _ => none }
def fnPositionsAscendingPermutationRow : OpenClaim := { program := "qxb6001718a", sum := "aa827f8540e2c6f39cced7cb7fbdaeea4b27531bcbb01fc34393f96a71f1a9e4", func := "example.com/gapwise/gapwise/zzlaws_engine_b1.FnPositionsAscendingPermutation", spec := "fnPositionsAscendingPermutation", apart := false }
def FnPositionsAscendingPermutationSaid : Prop := fnPositionsAscendingPermutationRow.holds Try.pinned (OpenSpec.ofChange fnPositionsAscendingPermutationSpec)

/-- ITS FALSE NEIGHBOUR: 'it returns false'. Refute it at one input. -/
def fnPositionsAscendingPermutationWrong : ChangeSpec := { name := "fnPositionsAscendingPermutation", fn := fun _ => fun
  | [d] => { results := [.lit (.bool false)], args := [d] }
  | _ => none }
def FnPositionsAscendingPermutationWrongFalsely : Prop := fnPositionsAscendingPermutationRow.holds Try.pinned (OpenSpec.ofChange fnPositionsAscendingPermutationWrong)

/-- 'zzlaws_engine_b1.FnPositionsPrefix': WHATEVER THE INPUT: true; the input reads as it did. -/
def fnPositionsPrefixSpec : ChangeSpec := { name := "fnPositionsPrefix", fn := fun _ => fun
  | [d1, d2] => { results := [.lit (.bool true)], args := [d1, d2] }
  | _ => none }
def fnPositionsPrefixRow : OpenClaim := { program := "qxb6001718a", sum := "aa827f8540e2c6f39cced7cb7fbdaeea4b27531bcbb01fc34393f96a71f1a9e4", func := "example.com/gapwise/gapwise/zzlaws_engine_b1.FnPositionsPrefix", spec := "fnPositionsPrefix", apart := false }
def FnPositionsPrefixSaid : Prop := fnPositionsPrefixRow.holds Try.pinned (OpenSpec.ofChange fnPositionsPrefixSpec)

/-- ITS FALSE NEIGHBOUR: 'it returns false'. Refute it at one input. -/
def fnPositionsPrefixWrong : ChangeSpec := { name := "fnPositionsPrefix", fn := fun _ => fun
  | [d1, d2] => { results := [.lit (.bool false)], args := [d1, d2] }
  | _ => none }
def FnPositionsPrefixWrongFalsely : Prop := fnPositionsPrefixRow.holds Try.pinned (OpenSpec.ofChange fnPositionsPrefixWrong)

/-- 'zzlaws_engine_b1.FnCountOfAgreesWithExactOf': WHATEVER THE INPUT: true; the input reads as it did. -/
def fnCountOfAgreesWithExactOfSpec : ChangeSpec := { name := "fnCountOfAgreesWithExactOf", fn := fun _ => fun
  | [d1, d2, d3] => { results := [.lit (.bool true)], args := [d1, d2, d3] }
  | _ => none }
def fnCountOfAgreesWithExactOfRow : OpenClaim := { program := "qxb6001718a", sum := "aa827f8540e2c6f39cced7cb7fbdaeea4b27531bcbb01fc34393f96a71f1a9e4", func := "example.com/gapwise/gapwise/zzlaws_engine_b1.FnCountOfAgreesWithExactOf", spec := "fnCountOfAgreesWithExactOf", apart := false }
def FnCountOfAgreesWithExactOfSaid : Prop := fnCountOfAgreesWithExactOfRow.holds Try.pinned (OpenSpec.ofChange fnCountOfAgreesWithExactOfSpec)

/-- ITS FALSE NEIGHBOUR: 'it returns false'. Refute it at one input. -/
def fnCountOfAgreesWithExactOfWrong : ChangeSpec := { name := "fnCountOfAgreesWithExactOf", fn := fun _ => fun
  | [d1, d2, d3] => { results := [.lit (.bool false)], args := [d1, d2, d3] }
  | _ => none }
def FnCountOfAgreesWithExactOfWrongFalsely : Prop := fnCountOfAgreesWithExactOfRow.holds Try.pinned (OpenSpec.ofChange fnCountOfAgreesWithExactOfWrong)

/-- 'zzlaws_engine_b1.FnPositionsReadsRowInOrder': WHATEVER THE INPUT: true; the input reads as it did. -/
def fnPositionsReadsRowInOrderSpec : ChangeSpec := { name := "fnPositionsReadsRowInOrder", fn := fun _ => fun
  | [d1, d2] => { results := [.lit (.bool true)], args := [d1, d2] }
  | _ => none }
def fnPositionsReadsRowInOrderRow : OpenClaim := { program := "qxb6001718a", sum := "aa827f8540e2c6f39cced7cb7fbdaeea4b27531bcbb01fc34393f96a71f1a9e4", func := "example.com/gapwise/gapwise/zzlaws_engine_b1.FnPositionsReadsRowInOrder", spec := "fnPositionsReadsRowInOrder", apart := false }
def FnPositionsReadsRowInOrderSaid : Prop := fnPositionsReadsRowInOrderRow.holds Try.pinned (OpenSpec.ofChange fnPositionsReadsRowInOrderSpec)

/-- ITS FALSE NEIGHBOUR: 'it returns false'. Refute it at one input. -/
def fnPositionsReadsRowInOrderWrong : ChangeSpec := { name := "fnPositionsReadsRowInOrder", fn := fun _ => fun
  | [d1, d2] => { results := [.lit (.bool false)], args := [d1, d2] }
  | _ => none }
def FnPositionsReadsRowInOrderWrongFalsely : Prop := fnPositionsReadsRowInOrderRow.holds Try.pinned (OpenSpec.ofChange fnPositionsReadsRowInOrderWrong)

/-- 'zzlaws_engine_b1.FnCountOfMonotone': WHATEVER THE INPUT: true; the input reads as it did. -/
def fnCountOfMonotoneSpec : ChangeSpec := { name := "fnCountOfMonotone", fn := fun _ => fun
  | [d1, d2, d3] => { results := [.lit (.bool true)], args := [d1, d2, d3] }
  | _ => none }
def fnCountOfMonotoneRow : OpenClaim := { program := "qxb6001718a", sum := "aa827f8540e2c6f39cced7cb7fbdaeea4b27531bcbb01fc34393f96a71f1a9e4", func := "example.com/gapwise/gapwise/zzlaws_engine_b1.FnCountOfMonotone", spec := "fnCountOfMonotone", apart := false }
def FnCountOfMonotoneSaid : Prop := fnCountOfMonotoneRow.holds Try.pinned (OpenSpec.ofChange fnCountOfMonotoneSpec)

/-- ITS FALSE NEIGHBOUR: 'it returns false'. Refute it at one input. -/
def fnCountOfMonotoneWrong : ChangeSpec := { name := "fnCountOfMonotone", fn := fun _ => fun
  | [d1, d2, d3] => { results := [.lit (.bool false)], args := [d1, d2, d3] }
  | _ => none }
def FnCountOfMonotoneWrongFalsely : Prop := fnCountOfMonotoneRow.holds Try.pinned (OpenSpec.ofChange fnCountOfMonotoneWrong)

/-- 'zzlaws_engine_b1.FnCountOfRoundTrip': WHATEVER THE INPUT: true; the input reads as it did. -/
def fnCountOfRoundTripSpec : ChangeSpec := { name := "fnCountOfRoundTrip", fn := fun _ => fun
  | [d1, d2] => { results := [.lit (.bool true)], args := [d1, d2] }
  | _ => none }
def fnCountOfRoundTripRow : OpenClaim := { program := "qxb6001718a", sum := "aa827f8540e2c6f39cced7cb7fbdaeea4b27531bcbb01fc34393f96a71f1a9e4", func := "example.com/gapwise/gapwise/zzlaws_engine_b1.FnCountOfRoundTrip", spec := "fnCountOfRoundTrip", apart := false }
def FnCountOfRoundTripSaid : Prop := fnCountOfRoundTripRow.holds Try.pinned (OpenSpec.ofChange fnCountOfRoundTripSpec)

/-- ITS FALSE NEIGHBOUR: 'it returns false'. Refute it at one input. -/
def fnCountOfRoundTripWrong : ChangeSpec := { name := "fnCountOfRoundTrip", fn := fun _ => fun
  | [d1, d2] => { results := [.lit (.bool false)], args := [d1, d2] }
  | _ => none }
def FnCountOfRoundTripWrongFalsely : Prop := fnCountOfRoundTripRow.holds Try.pinned (OpenSpec.ofChange fnCountOfRoundTripWrong)

end Rows
end Go.Proofs.Qxb6001718a

/-
  No cell of these rows narrows 'for every input' (looked for: loops, veiled, ifaces, maps, wideKeys, modest, calm, conditions, laid).
  DERIVED. THE GIVEN ROWS OF THIS SEAT. 4 by the template 'for every input the law returns true; each argument reads behind the call as it read before'; 0 by the template 'total and deterministic' (their statements: Qxb6000381aTotals.lean).
  GIVEN WITH THE SEED: the statements are not yours to turn. If you find one false, say at which input.
  Laid BY PROGRAM, IN A SANDBOX (cutbox-rows.mjs): the forced cells as the released guide's own fill.sh prints them over the translation 4a326307d187aec1… (all of the seat's roots in one cut). By AI agents, Wed Nov 11 2026. No macro, syntax, notation, axiom, sorry.
-/
import Derived.Test.Qxb6000381aChecked
import GoSem.Claim
import GoSem.ClaimJoined
import GoSem.ClaimMapViews
import Derived.JoinedTies
import Derived.KernelRfl
namespace Go.Proofs.Qxb6000381a
/- THE CELL 'sum', in the pinned program and in every row, IS THE sha256 OF THE DUMP (.gsa) THAT Qxb6000381aProg.lean LOADS. Nothing in Lean hashes anything: it is a label: what it is worth is what the hold of that sum in a sandbox is worth. -/
noncomputable def Try.pinned : Pinned := { name := "qxb6000381a", sum := "4a326307d187aec15b4efa9d1f0c4538af5866e5c087cabac9d91ee969f7440d", checked := Try.checked }
namespace Rows
def none {H : Type} : Left H := { results := [], args := [] }

/-- 'zzlaws_internal_fund_b1.FnGB18030LengthMatchesStandard': WHATEVER THE INPUT: true; the input reads as it did. -/
def fnGB18030LengthMatchesStandardSpec : ChangeSpec := { name := "fnGB18030LengthMatchesStandard", fn := fun _ => fun
  | [d] => { results := [.lit (.bool true)], args := [d] }
  | _ => none }
def fnGB18030LengthMatchesStandardRow : OpenClaim := { program := "qxb6000381a", sum := "4a326307d187aec15b4efa9d1f0c4538af5866e5c087cabac9d91ee969f7440d", func := "example.com/tuoguan/tuoguan/zzlaws_internal_fund_b1.FnGB18030LengthMatchesStandard", spec := "fnGB18030LengthMatchesStandard", apart := false }
def FnGB18030LengthMatchesStandardSaid : Prop := fnGB18030LengthMatchesStandardRow.holds Try.pinned (OpenSpec.ofChange fnGB18030LengthMatchesStandardSpec)

/-- ITS FALSE NEIGHBOUR: 'it returns false'. Refute it at one input. -/
def fnGB18030LengthMatchesStandardWrong : ChangeSpec := { name := "fnGB18030LengthMatchesStandard", fn := fun _ => fun
  | [d] => { results := [.lit (.bool false)], args := [d] }
  | _ => none }
def FnGB18030LengthMatchesStandardWrongFalsely : Prop := fnGB18030LengthMatchesStandardRow.holds Try.pinned (OpenSpec.ofChange fnGB18030LengthMatchesStandardWrong)

/-- 'zzlaws_internal_fund_b1.FnGB18030LengthSelfDelimiting': WHATEVER THE INPUT: true; the input reads as it did. -/
def fnGB18030LengthSelfDelimitingSpec : ChangeSpec := { name := "fnGB18030LengthSelfDelimiting", fn := fun _ => fun
  | [d1, d2] => { results := [.lit (.bool true)], args := [d1, d2] }
  | _ => none }
def fnGB18030LengthSelfDelimitingRow : OpenClaim := { program := "qxb6000381a", sum := "4a326307d187aec15b4efa9d1f0c4538af5866e5c087cabac9d91ee969f7440d", func := "example.com/tuoguan/tuoguan/zzlaws_internal_fund_b1.FnGB18030LengthSelfDelimiting", spec := "fnGB18030LengthSelfDelimiting", apart := false }
def FnGB18030LengthSelfDelimitingSaid : Prop := fnGB18030LengthSelfDelimitingRow.holds Try.pinned (OpenSpec.ofChange fnGB18030LengthSelfDelimitingSpec)

/-- ITS FALSE NEIGHBOUR: 'it returns false'. Refute it at one input. -/
def fnGB18030LengthSelfDelimitingWrong : ChangeSpec := { name := "fnGB18030LengthSelfDelimiting", fn := fun _ => fun
  | [d1, d2] => { results := [.lit (.bool false)], args := [d1, d2] }
  | _ => none }
def FnGB18030LengthSelfDelimitingWrongFalsely : Prop := fnGB18030LengthSelfDelimitingRow.holds Try.pinned (OpenSpec.ofChange fnGB18030LengthSelfDelimitingWrong)

/-- 'zzlaws_internal_fund_b1.FnDataLinesNextConsumesOneLine': WHATEVER THE INPUT: true; the input reads as it did. -/
def fnDataLinesNextConsumesOneLineSpec : ChangeSpec := { name := "fnDataLinesNextConsumesOneLine", fn := fun _ => fun
  | [d1, d2] => { results := [.lit (.bool true)], args := [d1, d2] }
  | _ => none }
def fnDataLinesNextConsumesOneLineRow : OpenClaim := { program := "qxb6000381a", sum := "4a326307d187aec15b4efa9d1f0c4538af5866e5c087cabac9d91ee969f7440d", func := "example.com/tuoguan/tuoguan/zzlaws_internal_fund_b1.FnDataLinesNextConsumesOneLine", spec := "fnDataLinesNextConsumesOneLine", inPlace := ["internal/bytealg.IndexByte"], apart := false }
def FnDataLinesNextConsumesOneLineSaid : Prop := fnDataLinesNextConsumesOneLineRow.holds Try.pinned (OpenSpec.ofChange fnDataLinesNextConsumesOneLineSpec)

/-- ITS FALSE NEIGHBOUR: 'it returns false'. Refute it at one input. -/
def fnDataLinesNextConsumesOneLineWrong : ChangeSpec := { name := "fnDataLinesNextConsumesOneLine", fn := fun _ => fun
  | [d1, d2] => { results := [.lit (.bool false)], args := [d1, d2] }
  | _ => none }
def FnDataLinesNextConsumesOneLineWrongFalsely : Prop := fnDataLinesNextConsumesOneLineRow.holds Try.pinned (OpenSpec.ofChange fnDataLinesNextConsumesOneLineWrong)

/-- 'zzlaws_internal_fund_b1.FnDataLinesNextCountsLinesAndStaysDone': WHATEVER THE INPUT: true; the input reads as it did. -/
def fnDataLinesNextCountsLinesAndStaysDoneSpec : ChangeSpec := { name := "fnDataLinesNextCountsLinesAndStaysDone", fn := fun _ => fun
  | [d1, d2] => { results := [.lit (.bool true)], args := [d1, d2] }
  | _ => none }
def fnDataLinesNextCountsLinesAndStaysDoneRow : OpenClaim := { program := "qxb6000381a", sum := "4a326307d187aec15b4efa9d1f0c4538af5866e5c087cabac9d91ee969f7440d", func := "example.com/tuoguan/tuoguan/zzlaws_internal_fund_b1.FnDataLinesNextCountsLinesAndStaysDone", spec := "fnDataLinesNextCountsLinesAndStaysDone", inPlace := ["internal/bytealg.IndexByte"], apart := false }
def FnDataLinesNextCountsLinesAndStaysDoneSaid : Prop := fnDataLinesNextCountsLinesAndStaysDoneRow.holds Try.pinned (OpenSpec.ofChange fnDataLinesNextCountsLinesAndStaysDoneSpec)

/-- ITS FALSE NEIGHBOUR: 'it returns false'. Refute it at one input. -/
def fnDataLinesNextCountsLinesAndStaysDoneWrong : ChangeSpec := { name := "fnDataLinesNextCountsLinesAndStaysDone", fn := fun _ => fun
  | [d1, d2] => { results := [.lit (.bool false)], args := [d1, d2] }
  | _ => none }
def FnDataLinesNextCountsLinesAndStaysDoneWrongFalsely : Prop := fnDataLinesNextCountsLinesAndStaysDoneRow.holds Try.pinned (OpenSpec.ofChange fnDataLinesNextCountsLinesAndStaysDoneWrong)

end Rows
end Go.Proofs.Qxb6000381a

/-
  No cell of these rows narrows 'for every input' (looked for: loops, veiled, ifaces, maps, wideKeys, modest, calm, conditions, laid).
  DERIVED. THE GIVEN ROWS OF THIS SEAT. 9 by the template 'for every input the law returns true; each argument reads behind the call as it read before'; 0 by the template 'total and deterministic' (their statements: Qxb6000643aModsTotals.lean).
  GIVEN WITH THE SEED: the statements are not yours to turn. If you find one false, say at which input.
  Laid BY PROGRAM, IN A SANDBOX (cutbox-rows.mjs): the forced cells as the released guide's own fill.sh prints them over the translation 7a0e4eefdcd9a194… (all of the seat's roots in one cut). By AI agents, Wed Nov 11 2026. No macro, syntax, notation, axiom, sorry.
-/
import Derived.Test.Qxb6000643aModsChecked
import GoSem.Claim
import GoSem.ClaimJoined
import GoSem.ClaimMapViews
import Derived.JoinedTies
import Derived.KernelRfl
namespace Go.Proofs.Qxb6000643aMods
/- THE CELL 'sum', in the pinned program and in every row, IS THE sha256 OF THE DUMP (.gsa) THAT Qxb6000643aModsProg.lean LOADS. Nothing in Lean hashes anything: it is a label: what it is worth is what the hold of that sum in a sandbox is worth. -/
noncomputable def Trym.pinned : Pinned := { name := "qxb6000643amods", sum := "7a0e4eefdcd9a194341ae7339bca6c3d7e5852ee38177e5c9d31fb1412d30e6d", checked := Trym.checked }
namespace Rows
def none {H : Type} : Left H := { results := [], args := [] }

/-- 'zzlaws_yamlmanifest_b1.FnNextBlockComposesOverASplit': WHATEVER THE INPUT: true; the input reads as it did. -/
def fnNextBlockComposesOverASplitSpec : ChangeSpec := { name := "fnNextBlockComposesOverASplit", fn := fun _ => fun
  | [d1, d2, d3, d4] => { results := [.lit (.bool true)], args := [d1, d2, d3, d4] }
  | _ => none }
def fnNextBlockComposesOverASplitRow : OpenClaim := { program := "qxb6000643amods", sum := "7a0e4eefdcd9a194341ae7339bca6c3d7e5852ee38177e5c9d31fb1412d30e6d", func := "example.com/rollcall/rollcall/zzlaws_yamlmanifest_b1.FnNextBlockComposesOverASplit", spec := "fnNextBlockComposesOverASplit", make := .lifted ["publicsums"], apart := false }
def FnNextBlockComposesOverASplitSaid : Prop := fnNextBlockComposesOverASplitRow.holds Trym.pinned (OpenSpec.ofChange fnNextBlockComposesOverASplitSpec)

/-- ITS FALSE NEIGHBOUR: 'it returns false'. Refute it at one input. -/
def fnNextBlockComposesOverASplitWrong : ChangeSpec := { name := "fnNextBlockComposesOverASplit", fn := fun _ => fun
  | [d1, d2, d3, d4] => { results := [.lit (.bool false)], args := [d1, d2, d3, d4] }
  | _ => none }
def FnNextBlockComposesOverASplitWrongFalsely : Prop := fnNextBlockComposesOverASplitRow.holds Trym.pinned (OpenSpec.ofChange fnNextBlockComposesOverASplitWrong)

/-- 'zzlaws_yamlmanifest_b1.FnNextBlockHoldsTheByteAfterTheLineAndGrowsWithIt': WHATEVER THE INPUT: true; the input reads as it did. -/
def fnNextBlockHoldsTheByteAfterTheLineAndGrowsWithItSpec : ChangeSpec := { name := "fnNextBlockHoldsTheByteAfterTheLineAndGrowsWithIt", fn := fun _ => fun
  | [d1, d2, d3, d4] => { results := [.lit (.bool true)], args := [d1, d2, d3, d4] }
  | _ => none }
def fnNextBlockHoldsTheByteAfterTheLineAndGrowsWithItRow : OpenClaim := { program := "qxb6000643amods", sum := "7a0e4eefdcd9a194341ae7339bca6c3d7e5852ee38177e5c9d31fb1412d30e6d", func := "example.com/rollcall/rollcall/zzlaws_yamlmanifest_b1.FnNextBlockHoldsTheByteAfterTheLineAndGrowsWithIt", spec := "fnNextBlockHoldsTheByteAfterTheLineAndGrowsWithIt", make := .lifted ["publicsums"], apart := false }
def FnNextBlockHoldsTheByteAfterTheLineAndGrowsWithItSaid : Prop := fnNextBlockHoldsTheByteAfterTheLineAndGrowsWithItRow.holds Trym.pinned (OpenSpec.ofChange fnNextBlockHoldsTheByteAfterTheLineAndGrowsWithItSpec)

/-- ITS FALSE NEIGHBOUR: 'it returns false'. Refute it at one input. -/
def fnNextBlockHoldsTheByteAfterTheLineAndGrowsWithItWrong : ChangeSpec := { name := "fnNextBlockHoldsTheByteAfterTheLineAndGrowsWithIt", fn := fun _ => fun
  | [d1, d2, d3, d4] => { results := [.lit (.bool false)], args := [d1, d2, d3, d4] }
  | _ => none }
def FnNextBlockHoldsTheByteAfterTheLineAndGrowsWithItWrongFalsely : Prop := fnNextBlockHoldsTheByteAfterTheLineAndGrowsWithItRow.holds Trym.pinned (OpenSpec.ofChange fnNextBlockHoldsTheByteAfterTheLineAndGrowsWithItWrong)

/-- 'zzlaws_yamlmanifest_b1.FnNextBlockOverSingleByteTextIsArithmetic': WHATEVER THE INPUT: true; the input reads as it did. -/
def fnNextBlockOverSingleByteTextIsArithmeticSpec : ChangeSpec := { name := "fnNextBlockOverSingleByteTextIsArithmetic", fn := fun _ => fun
  | [d1, d2, d3] => { results := [.lit (.bool true)], args := [d1, d2, d3] }
  | _ => none }
def fnNextBlockOverSingleByteTextIsArithmeticRow : OpenClaim := { program := "qxb6000643amods", sum := "7a0e4eefdcd9a194341ae7339bca6c3d7e5852ee38177e5c9d31fb1412d30e6d", func := "example.com/rollcall/rollcall/zzlaws_yamlmanifest_b1.FnNextBlockOverSingleByteTextIsArithmetic", spec := "fnNextBlockOverSingleByteTextIsArithmetic", make := .lifted ["publicsums"], apart := false }
def FnNextBlockOverSingleByteTextIsArithmeticSaid : Prop := fnNextBlockOverSingleByteTextIsArithmeticRow.holds Trym.pinned (OpenSpec.ofChange fnNextBlockOverSingleByteTextIsArithmeticSpec)

/-- ITS FALSE NEIGHBOUR: 'it returns false'. Refute it at one input. -/
def fnNextBlockOverSingleByteTextIsArithmeticWrong : ChangeSpec := { name := "fnNextBlockOverSingleByteTextIsArithmetic", fn := fun _ => fun
  | [d1, d2, d3] => { results := [.lit (.bool false)], args := [d1, d2, d3] }
  | _ => none }
def FnNextBlockOverSingleByteTextIsArithmeticWrongFalsely : Prop := fnNextBlockOverSingleByteTextIsArithmeticRow.holds Trym.pinned (OpenSpec.ofChange fnNextBlockOverSingleByteTextIsArithmeticWrong)

/-- 'zzlaws_yamlmanifest_b1.FnCutAtLineFeedsIsFreeOfEveryBreak': WHATEVER THE INPUT: true; the input reads as it did. -/
def fnCutAtLineFeedsIsFreeOfEveryBreakSpec : ChangeSpec := { name := "fnCutAtLineFeedsIsFreeOfEveryBreak", fn := fun _ => fun
  | [d] => { results := [.lit (.bool true)], args := [d] }
  | _ => none }
def fnCutAtLineFeedsIsFreeOfEveryBreakRow : OpenClaim := { program := "qxb6000643amods", sum := "7a0e4eefdcd9a194341ae7339bca6c3d7e5852ee38177e5c9d31fb1412d30e6d", func := "example.com/rollcall/rollcall/zzlaws_yamlmanifest_b1.FnCutAtLineFeedsIsFreeOfEveryBreak", spec := "fnCutAtLineFeedsIsFreeOfEveryBreak", make := .lifted ["publicsums"], apart := false }
def FnCutAtLineFeedsIsFreeOfEveryBreakSaid : Prop := fnCutAtLineFeedsIsFreeOfEveryBreakRow.holds Trym.pinned (OpenSpec.ofChange fnCutAtLineFeedsIsFreeOfEveryBreakSpec)

/-- ITS FALSE NEIGHBOUR: 'it returns false'. Refute it at one input. -/
def fnCutAtLineFeedsIsFreeOfEveryBreakWrong : ChangeSpec := { name := "fnCutAtLineFeedsIsFreeOfEveryBreak", fn := fun _ => fun
  | [d] => { results := [.lit (.bool false)], args := [d] }
  | _ => none }
def FnCutAtLineFeedsIsFreeOfEveryBreakWrongFalsely : Prop := fnCutAtLineFeedsIsFreeOfEveryBreakRow.holds Trym.pinned (OpenSpec.ofChange fnCutAtLineFeedsIsFreeOfEveryBreakWrong)

/-- 'zzlaws_yamlmanifest_b1.FnCutAtLineFeedsRefusesAnInsertedBreak': WHATEVER THE INPUT: true; the input reads as it did. -/
def fnCutAtLineFeedsRefusesAnInsertedBreakSpec : ChangeSpec := { name := "fnCutAtLineFeedsRefusesAnInsertedBreak", fn := fun _ => fun
  | [d1, d2, d3] => { results := [.lit (.bool true)], args := [d1, d2, d3] }
  | _ => none }
def fnCutAtLineFeedsRefusesAnInsertedBreakRow : OpenClaim := { program := "qxb6000643amods", sum := "7a0e4eefdcd9a194341ae7339bca6c3d7e5852ee38177e5c9d31fb1412d30e6d", func := "example.com/rollcall/rollcall/zzlaws_yamlmanifest_b1.FnCutAtLineFeedsRefusesAnInsertedBreak", spec := "fnCutAtLineFeedsRefusesAnInsertedBreak", make := .lifted ["publicsums"], apart := false }
def FnCutAtLineFeedsRefusesAnInsertedBreakSaid : Prop := fnCutAtLineFeedsRefusesAnInsertedBreakRow.holds Trym.pinned (OpenSpec.ofChange fnCutAtLineFeedsRefusesAnInsertedBreakSpec)

/-- ITS FALSE NEIGHBOUR: 'it returns false'. Refute it at one input. -/
def fnCutAtLineFeedsRefusesAnInsertedBreakWrong : ChangeSpec := { name := "fnCutAtLineFeedsRefusesAnInsertedBreak", fn := fun _ => fun
  | [d1, d2, d3] => { results := [.lit (.bool false)], args := [d1, d2, d3] }
  | _ => none }
def FnCutAtLineFeedsRefusesAnInsertedBreakWrongFalsely : Prop := fnCutAtLineFeedsRefusesAnInsertedBreakRow.holds Trym.pinned (OpenSpec.ofChange fnCutAtLineFeedsRefusesAnInsertedBreakWrong)

/-- 'zzlaws_yamlmanifest_b1.FnCutAtLineFeedsSplitsAtAnASCIIByte': WHATEVER THE INPUT: true; the input reads as it did. -/
def fnCutAtLineFeedsSplitsAtAnASCIIByteSpec : ChangeSpec := { name := "fnCutAtLineFeedsSplitsAtAnASCIIByte", fn := fun _ => fun
  | [d1, d2, d3] => { results := [.lit (.bool true)], args := [d1, d2, d3] }
  | _ => none }
def fnCutAtLineFeedsSplitsAtAnASCIIByteRow : OpenClaim := { program := "qxb6000643amods", sum := "7a0e4eefdcd9a194341ae7339bca6c3d7e5852ee38177e5c9d31fb1412d30e6d", func := "example.com/rollcall/rollcall/zzlaws_yamlmanifest_b1.FnCutAtLineFeedsSplitsAtAnASCIIByte", spec := "fnCutAtLineFeedsSplitsAtAnASCIIByte", make := .lifted ["publicsums"], apart := false }
def FnCutAtLineFeedsSplitsAtAnASCIIByteSaid : Prop := fnCutAtLineFeedsSplitsAtAnASCIIByteRow.holds Trym.pinned (OpenSpec.ofChange fnCutAtLineFeedsSplitsAtAnASCIIByteSpec)

/-- ITS FALSE NEIGHBOUR: 'it returns false'. Refute it at one input. -/
def fnCutAtLineFeedsSplitsAtAnASCIIByteWrong : ChangeSpec := { name := "fnCutAtLineFeedsSplitsAtAnASCIIByte", fn := fun _ => fun
  | [d1, d2, d3] => { results := [.lit (.bool false)], args := [d1, d2, d3] }
  | _ => none }
def FnCutAtLineFeedsSplitsAtAnASCIIByteWrongFalsely : Prop := fnCutAtLineFeedsSplitsAtAnASCIIByteRow.holds Trym.pinned (OpenSpec.ofChange fnCutAtLineFeedsSplitsAtAnASCIIByteWrong)

/-- 'zzlaws_yamlmanifest_b1.FnIndentIsJudgedPastTheLeadingBlanks': WHATEVER THE INPUT: true; the input reads as it did. -/
def fnIndentIsJudgedPastTheLeadingBlanksSpec : ChangeSpec := { name := "fnIndentIsJudgedPastTheLeadingBlanks", fn := fun _ => fun
  | [d1, d2] => { results := [.lit (.bool true)], args := [d1, d2] }
  | _ => none }
def fnIndentIsJudgedPastTheLeadingBlanksRow : OpenClaim := { program := "qxb6000643amods", sum := "7a0e4eefdcd9a194341ae7339bca6c3d7e5852ee38177e5c9d31fb1412d30e6d", func := "example.com/rollcall/rollcall/zzlaws_yamlmanifest_b1.FnIndentIsJudgedPastTheLeadingBlanks", spec := "fnIndentIsJudgedPastTheLeadingBlanks", make := .lifted ["publicsums"], apart := false }
def FnIndentIsJudgedPastTheLeadingBlanksSaid : Prop := fnIndentIsJudgedPastTheLeadingBlanksRow.holds Trym.pinned (OpenSpec.ofChange fnIndentIsJudgedPastTheLeadingBlanksSpec)

/-- ITS FALSE NEIGHBOUR: 'it returns false'. Refute it at one input. -/
def fnIndentIsJudgedPastTheLeadingBlanksWrong : ChangeSpec := { name := "fnIndentIsJudgedPastTheLeadingBlanks", fn := fun _ => fun
  | [d1, d2] => { results := [.lit (.bool false)], args := [d1, d2] }
  | _ => none }
def FnIndentIsJudgedPastTheLeadingBlanksWrongFalsely : Prop := fnIndentIsJudgedPastTheLeadingBlanksRow.holds Trym.pinned (OpenSpec.ofChange fnIndentIsJudgedPastTheLeadingBlanksWrong)

/-- 'zzlaws_yamlmanifest_b1.FnIndentAnswersByTheFirstByteAfterTheBlanks': WHATEVER THE INPUT: true; the input reads as it did. -/
def fnIndentAnswersByTheFirstByteAfterTheBlanksSpec : ChangeSpec := { name := "fnIndentAnswersByTheFirstByteAfterTheBlanks", fn := fun _ => fun
  | [d1, d2, d3, d4] => { results := [.lit (.bool true)], args := [d1, d2, d3, d4] }
  | _ => none }
def fnIndentAnswersByTheFirstByteAfterTheBlanksRow : OpenClaim := { program := "qxb6000643amods", sum := "7a0e4eefdcd9a194341ae7339bca6c3d7e5852ee38177e5c9d31fb1412d30e6d", func := "example.com/rollcall/rollcall/zzlaws_yamlmanifest_b1.FnIndentAnswersByTheFirstByteAfterTheBlanks", spec := "fnIndentAnswersByTheFirstByteAfterTheBlanks", make := .lifted ["publicsums"], apart := false }
def FnIndentAnswersByTheFirstByteAfterTheBlanksSaid : Prop := fnIndentAnswersByTheFirstByteAfterTheBlanksRow.holds Trym.pinned (OpenSpec.ofChange fnIndentAnswersByTheFirstByteAfterTheBlanksSpec)

/-- ITS FALSE NEIGHBOUR: 'it returns false'. Refute it at one input. -/
def fnIndentAnswersByTheFirstByteAfterTheBlanksWrong : ChangeSpec := { name := "fnIndentAnswersByTheFirstByteAfterTheBlanks", fn := fun _ => fun
  | [d1, d2, d3, d4] => { results := [.lit (.bool false)], args := [d1, d2, d3, d4] }
  | _ => none }
def FnIndentAnswersByTheFirstByteAfterTheBlanksWrongFalsely : Prop := fnIndentAnswersByTheFirstByteAfterTheBlanksRow.holds Trym.pinned (OpenSpec.ofChange fnIndentAnswersByTheFirstByteAfterTheBlanksWrong)

/-- 'zzlaws_yamlmanifest_b1.FnIndentVerdictOutlivesWhatFollows': WHATEVER THE INPUT: true; the input reads as it did. -/
def fnIndentVerdictOutlivesWhatFollowsSpec : ChangeSpec := { name := "fnIndentVerdictOutlivesWhatFollows", fn := fun _ => fun
  | [d1, d2] => { results := [.lit (.bool true)], args := [d1, d2] }
  | _ => none }
def fnIndentVerdictOutlivesWhatFollowsRow : OpenClaim := { program := "qxb6000643amods", sum := "7a0e4eefdcd9a194341ae7339bca6c3d7e5852ee38177e5c9d31fb1412d30e6d", func := "example.com/rollcall/rollcall/zzlaws_yamlmanifest_b1.FnIndentVerdictOutlivesWhatFollows", spec := "fnIndentVerdictOutlivesWhatFollows", make := .lifted ["publicsums"], apart := false }
def FnIndentVerdictOutlivesWhatFollowsSaid : Prop := fnIndentVerdictOutlivesWhatFollowsRow.holds Trym.pinned (OpenSpec.ofChange fnIndentVerdictOutlivesWhatFollowsSpec)

/-- ITS FALSE NEIGHBOUR: 'it returns false'. Refute it at one input. -/
def fnIndentVerdictOutlivesWhatFollowsWrong : ChangeSpec := { name := "fnIndentVerdictOutlivesWhatFollows", fn := fun _ => fun
  | [d1, d2] => { results := [.lit (.bool false)], args := [d1, d2] }
  | _ => none }
def FnIndentVerdictOutlivesWhatFollowsWrongFalsely : Prop := fnIndentVerdictOutlivesWhatFollowsRow.holds Trym.pinned (OpenSpec.ofChange fnIndentVerdictOutlivesWhatFollowsWrong)

end Rows
end Go.Proofs.Qxb6000643aMods

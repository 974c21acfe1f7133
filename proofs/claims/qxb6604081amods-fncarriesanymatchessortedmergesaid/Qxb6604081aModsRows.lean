/-
  No cell of these rows narrows 'for every input' (looked for: loops, veiled, ifaces, maps, wideKeys, modest, calm, conditions, laid).
  DERIVED. THE GIVEN ROWS OF THIS SEAT. 5 by the template 'for every input the law returns true; each argument reads behind the call as it read before'; 0 by the template 'total and deterministic' (their statements: Qxb6604081aModsTotals.lean).
  GIVEN WITH THE SEED: the statements are not yours to turn. If you find one false, say at which input.
  Laid BY PROGRAM, IN A SANDBOX (cutbox-rows.mjs): the forced cells as the released guide's own fill.sh prints them over the translation 67c3e2a5837c9817… (all of the seat's roots in one cut). By AI agents, Wed Nov 11 2026. No macro, syntax, notation, axiom, sorry.
-/
import Derived.Test.Qxb6604081aModsChecked
import GoSem.Claim
import GoSem.ClaimJoined
import GoSem.ClaimMapViews
import Derived.JoinedTies
import Derived.KernelRfl
namespace Go.Proofs.Qxb6604081aMods
/- THE CELL 'sum', in the pinned program and in every row, IS THE sha256 OF THE DUMP (.gsa) THAT Qxb6604081aModsProg.lean LOADS. Nothing in Lean hashes anything: it is a label: what it is worth is what the hold of that sum in a sandbox is worth. -/
noncomputable def Trym.pinned : Pinned := { name := "qxb6604081amods", sum := "67c3e2a5837c98171864b474404cd65ef56f9547cd06b7e3dc6927d485f2fd30", checked := Trym.checked }
namespace Rows
def none {H : Type} : Left H := { results := [], args := [] }

/-- 'zzlaws_fund_b1.FnListedMatchesSortedSearch': WHATEVER THE INPUT: true; the input reads as it did. -/
def fnListedMatchesSortedSearchSpec : ChangeSpec := { name := "fnListedMatchesSortedSearch", fn := fun _ => fun
  | [d1, d2] => { results := [.lit (.bool true)], args := [d1, d2] }
  | _ => none }
def fnListedMatchesSortedSearchRow : OpenClaim := { program := "qxb6604081amods", sum := "67c3e2a5837c98171864b474404cd65ef56f9547cd06b7e3dc6927d485f2fd30", func := "example.com/tuoguan/tuoguan/zzlaws_fund_b1.FnListedMatchesSortedSearch", spec := "fnListedMatchesSortedSearch", make := .lifted ["publicsums"], apart := false }
def FnListedMatchesSortedSearchSaid : Prop := fnListedMatchesSortedSearchRow.holds Trym.pinned (OpenSpec.ofChange fnListedMatchesSortedSearchSpec)

/-- ITS FALSE NEIGHBOUR: 'it returns false'. Refute it at one input. -/
def fnListedMatchesSortedSearchWrong : ChangeSpec := { name := "fnListedMatchesSortedSearch", fn := fun _ => fun
  | [d1, d2] => { results := [.lit (.bool false)], args := [d1, d2] }
  | _ => none }
def FnListedMatchesSortedSearchWrongFalsely : Prop := fnListedMatchesSortedSearchRow.holds Trym.pinned (OpenSpec.ofChange fnListedMatchesSortedSearchWrong)

/-- 'zzlaws_fund_b1.FnListedFindsEveryMember': WHATEVER THE INPUT: true; the input reads as it did. -/
def fnListedFindsEveryMemberSpec : ChangeSpec := { name := "fnListedFindsEveryMember", fn := fun _ => fun
  | [d1, d2] => { results := [.lit (.bool true)], args := [d1, d2] }
  | _ => none }
def fnListedFindsEveryMemberRow : OpenClaim := { program := "qxb6604081amods", sum := "67c3e2a5837c98171864b474404cd65ef56f9547cd06b7e3dc6927d485f2fd30", func := "example.com/tuoguan/tuoguan/zzlaws_fund_b1.FnListedFindsEveryMember", spec := "fnListedFindsEveryMember", make := .lifted ["publicsums"], apart := false }
def FnListedFindsEveryMemberSaid : Prop := fnListedFindsEveryMemberRow.holds Trym.pinned (OpenSpec.ofChange fnListedFindsEveryMemberSpec)

/-- ITS FALSE NEIGHBOUR: 'it returns false'. Refute it at one input. -/
def fnListedFindsEveryMemberWrong : ChangeSpec := { name := "fnListedFindsEveryMember", fn := fun _ => fun
  | [d1, d2] => { results := [.lit (.bool false)], args := [d1, d2] }
  | _ => none }
def FnListedFindsEveryMemberWrongFalsely : Prop := fnListedFindsEveryMemberRow.holds Trym.pinned (OpenSpec.ofChange fnListedFindsEveryMemberWrong)

/-- 'zzlaws_fund_b1.FnCarriesAnyMatchesSortedMerge': WHATEVER THE INPUT: true; the input reads as it did. -/
def fnCarriesAnyMatchesSortedMergeSpec : ChangeSpec := { name := "fnCarriesAnyMatchesSortedMerge", fn := fun _ => fun
  | [d1, d2] => { results := [.lit (.bool true)], args := [d1, d2] }
  | _ => none }
def fnCarriesAnyMatchesSortedMergeRow : OpenClaim := { program := "qxb6604081amods", sum := "67c3e2a5837c98171864b474404cd65ef56f9547cd06b7e3dc6927d485f2fd30", func := "example.com/tuoguan/tuoguan/zzlaws_fund_b1.FnCarriesAnyMatchesSortedMerge", spec := "fnCarriesAnyMatchesSortedMerge", make := .lifted ["publicsums"], apart := false }
def FnCarriesAnyMatchesSortedMergeSaid : Prop := fnCarriesAnyMatchesSortedMergeRow.holds Trym.pinned (OpenSpec.ofChange fnCarriesAnyMatchesSortedMergeSpec)

/-- ITS FALSE NEIGHBOUR: 'it returns false'. Refute it at one input. -/
def fnCarriesAnyMatchesSortedMergeWrong : ChangeSpec := { name := "fnCarriesAnyMatchesSortedMerge", fn := fun _ => fun
  | [d1, d2] => { results := [.lit (.bool false)], args := [d1, d2] }
  | _ => none }
def FnCarriesAnyMatchesSortedMergeWrongFalsely : Prop := fnCarriesAnyMatchesSortedMergeRow.holds Trym.pinned (OpenSpec.ofChange fnCarriesAnyMatchesSortedMergeWrong)

/-- 'zzlaws_fund_b1.FnAllDigitsMatchesModel': WHATEVER THE INPUT: true; the input reads as it did. -/
def fnAllDigitsMatchesModelSpec : ChangeSpec := { name := "fnAllDigitsMatchesModel", fn := fun _ => fun
  | [d] => { results := [.lit (.bool true)], args := [d] }
  | _ => none }
def fnAllDigitsMatchesModelRow : OpenClaim := { program := "qxb6604081amods", sum := "67c3e2a5837c98171864b474404cd65ef56f9547cd06b7e3dc6927d485f2fd30", func := "example.com/tuoguan/tuoguan/zzlaws_fund_b1.FnAllDigitsMatchesModel", spec := "fnAllDigitsMatchesModel", make := .lifted ["publicsums"], apart := false }
def FnAllDigitsMatchesModelSaid : Prop := fnAllDigitsMatchesModelRow.holds Trym.pinned (OpenSpec.ofChange fnAllDigitsMatchesModelSpec)

/-- ITS FALSE NEIGHBOUR: 'it returns false'. Refute it at one input. -/
def fnAllDigitsMatchesModelWrong : ChangeSpec := { name := "fnAllDigitsMatchesModel", fn := fun _ => fun
  | [d] => { results := [.lit (.bool false)], args := [d] }
  | _ => none }
def FnAllDigitsMatchesModelWrongFalsely : Prop := fnAllDigitsMatchesModelRow.holds Trym.pinned (OpenSpec.ofChange fnAllDigitsMatchesModelWrong)

/-- 'zzlaws_fund_b1.FnAllDigitsAcceptsEveryDecimal': WHATEVER THE INPUT: true; the input reads as it did. -/
def fnAllDigitsAcceptsEveryDecimalSpec : ChangeSpec := { name := "fnAllDigitsAcceptsEveryDecimal", fn := fun _ => fun
  | [d] => { results := [.lit (.bool true)], args := [d] }
  | _ => none }
def fnAllDigitsAcceptsEveryDecimalRow : OpenClaim := { program := "qxb6604081amods", sum := "67c3e2a5837c98171864b474404cd65ef56f9547cd06b7e3dc6927d485f2fd30", func := "example.com/tuoguan/tuoguan/zzlaws_fund_b1.FnAllDigitsAcceptsEveryDecimal", spec := "fnAllDigitsAcceptsEveryDecimal", make := .lifted ["publicsums"], apart := false }
def FnAllDigitsAcceptsEveryDecimalSaid : Prop := fnAllDigitsAcceptsEveryDecimalRow.holds Trym.pinned (OpenSpec.ofChange fnAllDigitsAcceptsEveryDecimalSpec)

/-- ITS FALSE NEIGHBOUR: 'it returns false'. Refute it at one input. -/
def fnAllDigitsAcceptsEveryDecimalWrong : ChangeSpec := { name := "fnAllDigitsAcceptsEveryDecimal", fn := fun _ => fun
  | [d] => { results := [.lit (.bool false)], args := [d] }
  | _ => none }
def FnAllDigitsAcceptsEveryDecimalWrongFalsely : Prop := fnAllDigitsAcceptsEveryDecimalRow.holds Trym.pinned (OpenSpec.ofChange fnAllDigitsAcceptsEveryDecimalWrong)

end Rows
end Go.Proofs.Qxb6604081aMods

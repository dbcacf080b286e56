/-
  No cell of these rows narrows 'for every input' (looked for: loops, veiled, ifaces, maps, wideKeys, modest, calm, conditions, laid).
  DERIVED. THE GIVEN ROWS OF THIS SEAT. 9 by the template 'for every input the law returns true; each argument reads behind the call as it read before'; 0 by the template 'total and deterministic' (their statements: Qxb6001341aModsTotals.lean).
  GIVEN WITH THE SEED: the statements are not yours to turn. If you find one false, say at which input.
  Laid BY PROGRAM, IN A SANDBOX (cutbox-rows.mjs): the forced cells as the released guide's own fill.sh prints them over the translation 9e111604416464a7… (all of the seat's roots in one cut). By AI agents, Wed Nov 11 2026. No macro, syntax, notation, axiom, sorry.
-/
import Derived.Test.Qxb6001341aModsChecked
import GoSem.Claim
import GoSem.ClaimJoined
import GoSem.ClaimMapViews
import Derived.JoinedTies
import Derived.KernelRfl
namespace Go.Proofs.Qxb6001341aMods
/- THE CELL 'sum', in the pinned program and in every row, IS THE sha256 OF THE DUMP (.gsa) THAT Qxb6001341aModsProg.lean LOADS. Nothing in Lean hashes anything: it is a label: what it is worth is what the hold of that sum in a sandbox is worth. -/
noncomputable def Trym.pinned : Pinned := { name := "qxb6001341amods", sum := "9e111604416464a7af8b22700960b9285ddfd84c5ec6414234f225f4bec4268f", checked := Trym.checked }
namespace Rows
def none {H : Type} : Left H := { results := [], args := [] }

/-- 'zzlaws_pkg_openai_b1.FnStringEndRoundTrip': WHATEVER THE INPUT: true; the input reads as it did. -/
def fnStringEndRoundTripSpec : ChangeSpec := { name := "fnStringEndRoundTrip", fn := fun _ => fun
  | [d1, d2, d3] => { results := [.lit (.bool true)], args := [d1, d2, d3] }
  | _ => none }
def fnStringEndRoundTripRow : OpenClaim := { program := "qxb6001341amods", sum := "9e111604416464a7af8b22700960b9285ddfd84c5ec6414234f225f4bec4268f", func := "example.com/ennuste/ennuste/zzlaws_pkg_openai_b1.FnStringEndRoundTrip", spec := "fnStringEndRoundTrip", make := .lifted ["publicsums"], apart := false }
def FnStringEndRoundTripSaid : Prop := fnStringEndRoundTripRow.holds Trym.pinned (OpenSpec.ofChange fnStringEndRoundTripSpec)

/-- ITS FALSE NEIGHBOUR: 'it returns false'. Refute it at one input. -/
def fnStringEndRoundTripWrong : ChangeSpec := { name := "fnStringEndRoundTrip", fn := fun _ => fun
  | [d1, d2, d3] => { results := [.lit (.bool false)], args := [d1, d2, d3] }
  | _ => none }
def FnStringEndRoundTripWrongFalsely : Prop := fnStringEndRoundTripRow.holds Trym.pinned (OpenSpec.ofChange fnStringEndRoundTripWrong)

/-- 'zzlaws_pkg_openai_b1.FnStringEndRefusesRawControl': WHATEVER THE INPUT: true; the input reads as it did. -/
def fnStringEndRefusesRawControlSpec : ChangeSpec := { name := "fnStringEndRefusesRawControl", fn := fun _ => fun
  | [d1, d2, d3, d4] => { results := [.lit (.bool true)], args := [d1, d2, d3, d4] }
  | _ => none }
def fnStringEndRefusesRawControlRow : OpenClaim := { program := "qxb6001341amods", sum := "9e111604416464a7af8b22700960b9285ddfd84c5ec6414234f225f4bec4268f", func := "example.com/ennuste/ennuste/zzlaws_pkg_openai_b1.FnStringEndRefusesRawControl", spec := "fnStringEndRefusesRawControl", make := .lifted ["publicsums"], apart := false }
def FnStringEndRefusesRawControlSaid : Prop := fnStringEndRefusesRawControlRow.holds Trym.pinned (OpenSpec.ofChange fnStringEndRefusesRawControlSpec)

/-- ITS FALSE NEIGHBOUR: 'it returns false'. Refute it at one input. -/
def fnStringEndRefusesRawControlWrong : ChangeSpec := { name := "fnStringEndRefusesRawControl", fn := fun _ => fun
  | [d1, d2, d3, d4] => { results := [.lit (.bool false)], args := [d1, d2, d3, d4] }
  | _ => none }
def FnStringEndRefusesRawControlWrongFalsely : Prop := fnStringEndRefusesRawControlRow.holds Trym.pinned (OpenSpec.ofChange fnStringEndRefusesRawControlWrong)

/-- 'zzlaws_pkg_openai_b1.FnNumberEndGrammarRoundTrip': WHATEVER THE INPUT: true; the input reads as it did. -/
def fnNumberEndGrammarRoundTripSpec : ChangeSpec := { name := "fnNumberEndGrammarRoundTrip", fn := fun _ => fun
  | [d1, d2, d3, d4, d5, d6, d7, d8, d9, d10, d11] => { results := [.lit (.bool true)], args := [d1, d2, d3, d4, d5, d6, d7, d8, d9, d10, d11] }
  | _ => none }
def fnNumberEndGrammarRoundTripRow : OpenClaim := { program := "qxb6001341amods", sum := "9e111604416464a7af8b22700960b9285ddfd84c5ec6414234f225f4bec4268f", func := "example.com/ennuste/ennuste/zzlaws_pkg_openai_b1.FnNumberEndGrammarRoundTrip", spec := "fnNumberEndGrammarRoundTrip", make := .lifted ["publicsums"], apart := false }
def FnNumberEndGrammarRoundTripSaid : Prop := fnNumberEndGrammarRoundTripRow.holds Trym.pinned (OpenSpec.ofChange fnNumberEndGrammarRoundTripSpec)

/-- ITS FALSE NEIGHBOUR: 'it returns false'. Refute it at one input. -/
def fnNumberEndGrammarRoundTripWrong : ChangeSpec := { name := "fnNumberEndGrammarRoundTrip", fn := fun _ => fun
  | [d1, d2, d3, d4, d5, d6, d7, d8, d9, d10, d11] => { results := [.lit (.bool false)], args := [d1, d2, d3, d4, d5, d6, d7, d8, d9, d10, d11] }
  | _ => none }
def FnNumberEndGrammarRoundTripWrongFalsely : Prop := fnNumberEndGrammarRoundTripRow.holds Trym.pinned (OpenSpec.ofChange fnNumberEndGrammarRoundTripWrong)

/-- 'zzlaws_pkg_openai_b1.FnNumberEndShape': WHATEVER THE INPUT: true; the input reads as it did. -/
def fnNumberEndShapeSpec : ChangeSpec := { name := "fnNumberEndShape", fn := fun _ => fun
  | [d1, d2] => { results := [.lit (.bool true)], args := [d1, d2] }
  | _ => none }
def fnNumberEndShapeRow : OpenClaim := { program := "qxb6001341amods", sum := "9e111604416464a7af8b22700960b9285ddfd84c5ec6414234f225f4bec4268f", func := "example.com/ennuste/ennuste/zzlaws_pkg_openai_b1.FnNumberEndShape", spec := "fnNumberEndShape", make := .lifted ["publicsums"], apart := false }
def FnNumberEndShapeSaid : Prop := fnNumberEndShapeRow.holds Trym.pinned (OpenSpec.ofChange fnNumberEndShapeSpec)

/-- ITS FALSE NEIGHBOUR: 'it returns false'. Refute it at one input. -/
def fnNumberEndShapeWrong : ChangeSpec := { name := "fnNumberEndShape", fn := fun _ => fun
  | [d1, d2] => { results := [.lit (.bool false)], args := [d1, d2] }
  | _ => none }
def FnNumberEndShapeWrongFalsely : Prop := fnNumberEndShapeRow.holds Trym.pinned (OpenSpec.ofChange fnNumberEndShapeWrong)

/-- 'zzlaws_pkg_openai_b1.FnMemberNameRoundTrip': WHATEVER THE INPUT: true; the input reads as it did. -/
def fnMemberNameRoundTripSpec : ChangeSpec := { name := "fnMemberNameRoundTrip", fn := fun _ => fun
  | [d1, d2, d3, d4, d5] => { results := [.lit (.bool true)], args := [d1, d2, d3, d4, d5] }
  | _ => none }
def fnMemberNameRoundTripRow : OpenClaim := { program := "qxb6001341amods", sum := "9e111604416464a7af8b22700960b9285ddfd84c5ec6414234f225f4bec4268f", func := "example.com/ennuste/ennuste/zzlaws_pkg_openai_b1.FnMemberNameRoundTrip", spec := "fnMemberNameRoundTrip", make := .lifted ["publicsums"], apart := false }
def FnMemberNameRoundTripSaid : Prop := fnMemberNameRoundTripRow.holds Trym.pinned (OpenSpec.ofChange fnMemberNameRoundTripSpec)

/-- ITS FALSE NEIGHBOUR: 'it returns false'. Refute it at one input. -/
def fnMemberNameRoundTripWrong : ChangeSpec := { name := "fnMemberNameRoundTrip", fn := fun _ => fun
  | [d1, d2, d3, d4, d5] => { results := [.lit (.bool false)], args := [d1, d2, d3, d4, d5] }
  | _ => none }
def FnMemberNameRoundTripWrongFalsely : Prop := fnMemberNameRoundTripRow.holds Trym.pinned (OpenSpec.ofChange fnMemberNameRoundTripWrong)

/-- 'zzlaws_pkg_openai_b1.FnMemberNameRefusesMissingColon': WHATEVER THE INPUT: true; the input reads as it did. -/
def fnMemberNameRefusesMissingColonSpec : ChangeSpec := { name := "fnMemberNameRefusesMissingColon", fn := fun _ => fun
  | [d1, d2, d3, d4, d5] => { results := [.lit (.bool true)], args := [d1, d2, d3, d4, d5] }
  | _ => none }
def fnMemberNameRefusesMissingColonRow : OpenClaim := { program := "qxb6001341amods", sum := "9e111604416464a7af8b22700960b9285ddfd84c5ec6414234f225f4bec4268f", func := "example.com/ennuste/ennuste/zzlaws_pkg_openai_b1.FnMemberNameRefusesMissingColon", spec := "fnMemberNameRefusesMissingColon", make := .lifted ["publicsums"], apart := false }
def FnMemberNameRefusesMissingColonSaid : Prop := fnMemberNameRefusesMissingColonRow.holds Trym.pinned (OpenSpec.ofChange fnMemberNameRefusesMissingColonSpec)

/-- ITS FALSE NEIGHBOUR: 'it returns false'. Refute it at one input. -/
def fnMemberNameRefusesMissingColonWrong : ChangeSpec := { name := "fnMemberNameRefusesMissingColon", fn := fun _ => fun
  | [d1, d2, d3, d4, d5] => { results := [.lit (.bool false)], args := [d1, d2, d3, d4, d5] }
  | _ => none }
def FnMemberNameRefusesMissingColonWrongFalsely : Prop := fnMemberNameRefusesMissingColonRow.holds Trym.pinned (OpenSpec.ofChange fnMemberNameRefusesMissingColonWrong)

/-- 'zzlaws_pkg_openai_b1.FnShiftByPrefix': WHATEVER THE INPUT: true; the input reads as it did. -/
def fnShiftByPrefixSpec : ChangeSpec := { name := "fnShiftByPrefix", fn := fun _ => fun
  | [d1, d2, d3] => { results := [.lit (.bool true)], args := [d1, d2, d3] }
  | _ => none }
def fnShiftByPrefixRow : OpenClaim := { program := "qxb6001341amods", sum := "9e111604416464a7af8b22700960b9285ddfd84c5ec6414234f225f4bec4268f", func := "example.com/ennuste/ennuste/zzlaws_pkg_openai_b1.FnShiftByPrefix", spec := "fnShiftByPrefix", make := .lifted ["publicsums"], apart := false }
def FnShiftByPrefixSaid : Prop := fnShiftByPrefixRow.holds Trym.pinned (OpenSpec.ofChange fnShiftByPrefixSpec)

/-- ITS FALSE NEIGHBOUR: 'it returns false'. Refute it at one input. -/
def fnShiftByPrefixWrong : ChangeSpec := { name := "fnShiftByPrefix", fn := fun _ => fun
  | [d1, d2, d3] => { results := [.lit (.bool false)], args := [d1, d2, d3] }
  | _ => none }
def FnShiftByPrefixWrongFalsely : Prop := fnShiftByPrefixRow.holds Trym.pinned (OpenSpec.ofChange fnShiftByPrefixWrong)

/-- 'zzlaws_pkg_openai_b1.FnTruncateAtEnd': WHATEVER THE INPUT: true; the input reads as it did. -/
def fnTruncateAtEndSpec : ChangeSpec := { name := "fnTruncateAtEnd", fn := fun _ => fun
  | [d1, d2] => { results := [.lit (.bool true)], args := [d1, d2] }
  | _ => none }
def fnTruncateAtEndRow : OpenClaim := { program := "qxb6001341amods", sum := "9e111604416464a7af8b22700960b9285ddfd84c5ec6414234f225f4bec4268f", func := "example.com/ennuste/ennuste/zzlaws_pkg_openai_b1.FnTruncateAtEnd", spec := "fnTruncateAtEnd", make := .lifted ["publicsums"], apart := false }
def FnTruncateAtEndSaid : Prop := fnTruncateAtEndRow.holds Trym.pinned (OpenSpec.ofChange fnTruncateAtEndSpec)

/-- ITS FALSE NEIGHBOUR: 'it returns false'. Refute it at one input. -/
def fnTruncateAtEndWrong : ChangeSpec := { name := "fnTruncateAtEnd", fn := fun _ => fun
  | [d1, d2] => { results := [.lit (.bool false)], args := [d1, d2] }
  | _ => none }
def FnTruncateAtEndWrongFalsely : Prop := fnTruncateAtEndRow.holds Trym.pinned (OpenSpec.ofChange fnTruncateAtEndWrong)

/-- 'zzlaws_pkg_openai_b1.FnAcceptedIsSelfDelimiting': WHATEVER THE INPUT: true; the input reads as it did. -/
def fnAcceptedIsSelfDelimitingSpec : ChangeSpec := { name := "fnAcceptedIsSelfDelimiting", fn := fun _ => fun
  | [d1, d2, d3] => { results := [.lit (.bool true)], args := [d1, d2, d3] }
  | _ => none }
def fnAcceptedIsSelfDelimitingRow : OpenClaim := { program := "qxb6001341amods", sum := "9e111604416464a7af8b22700960b9285ddfd84c5ec6414234f225f4bec4268f", func := "example.com/ennuste/ennuste/zzlaws_pkg_openai_b1.FnAcceptedIsSelfDelimiting", spec := "fnAcceptedIsSelfDelimiting", make := .lifted ["publicsums"], apart := false }
def FnAcceptedIsSelfDelimitingSaid : Prop := fnAcceptedIsSelfDelimitingRow.holds Trym.pinned (OpenSpec.ofChange fnAcceptedIsSelfDelimitingSpec)

/-- ITS FALSE NEIGHBOUR: 'it returns false'. Refute it at one input. -/
def fnAcceptedIsSelfDelimitingWrong : ChangeSpec := { name := "fnAcceptedIsSelfDelimiting", fn := fun _ => fun
  | [d1, d2, d3] => { results := [.lit (.bool false)], args := [d1, d2, d3] }
  | _ => none }
def FnAcceptedIsSelfDelimitingWrongFalsely : Prop := fnAcceptedIsSelfDelimitingRow.holds Trym.pinned (OpenSpec.ofChange fnAcceptedIsSelfDelimitingWrong)

end Rows
end Go.Proofs.Qxb6001341aMods

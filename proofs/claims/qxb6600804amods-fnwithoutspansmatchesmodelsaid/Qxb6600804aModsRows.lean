/-
  No cell of these rows narrows 'for every input' (looked for: loops, veiled, ifaces, maps, wideKeys, modest, calm, conditions, laid).
  DERIVED. THE GIVEN ROWS OF THIS SEAT. 7 by the template 'for every input the law returns true; each argument reads behind the call as it read before'; 0 by the template 'total and deterministic' (their statements: Qxb6600804aModsTotals.lean).
  GIVEN WITH THE SEED: the statements are not yours to turn. If you find one false, say at which input.
  Laid BY PROGRAM, IN A SANDBOX (cutbox-rows.mjs): the forced cells as the released guide's own fill.sh prints them over the translation 91d85b5432c5de27… (all of the seat's roots in one cut). By AI agents, Wed Nov 11 2026. No macro, syntax, notation, axiom, sorry.
-/
import Derived.Test.Qxb6600804aModsChecked
import GoSem.Claim
import GoSem.ClaimJoined
import GoSem.ClaimMapViews
import Derived.JoinedTies
import Derived.KernelRfl
namespace Go.Proofs.Qxb6600804aMods
/- THE CELL 'sum', in the pinned program and in every row, IS THE sha256 OF THE DUMP (.gsa) THAT Qxb6600804aModsProg.lean LOADS. Nothing in Lean hashes anything: it is a label: what it is worth is what the hold of that sum in a sandbox is worth. -/
noncomputable def Trym.pinned : Pinned := { name := "qxb6600804amods", sum := "91d85b5432c5de27729b6e39996cd749744c8c992e57051dd4ec211c36af6406", checked := Trym.checked }
namespace Rows
def none {H : Type} : Left H := { results := [], args := [] }

/-- 'zzlaws_internal_manifest_b1.FnLineBreakMatchesDecodedRune': WHATEVER THE INPUT: true; the input reads as it did. -/
def fnLineBreakMatchesDecodedRuneSpec : ChangeSpec := { name := "fnLineBreakMatchesDecodedRune", fn := fun _ => fun
  | [d1, d2] => { results := [.lit (.bool true)], args := [d1, d2] }
  | _ => none }
def fnLineBreakMatchesDecodedRuneRow : OpenClaim := { program := "qxb6600804amods", sum := "91d85b5432c5de27729b6e39996cd749744c8c992e57051dd4ec211c36af6406", func := "example.com/homeostat/homeostat/zzlaws_internal_manifest_b1.FnLineBreakMatchesDecodedRune", spec := "fnLineBreakMatchesDecodedRune", make := .lifted ["publicsums"], apart := false }
def FnLineBreakMatchesDecodedRuneSaid : Prop := fnLineBreakMatchesDecodedRuneRow.holds Trym.pinned (OpenSpec.ofChange fnLineBreakMatchesDecodedRuneSpec)

/-- ITS FALSE NEIGHBOUR: 'it returns false'. Refute it at one input. -/
def fnLineBreakMatchesDecodedRuneWrong : ChangeSpec := { name := "fnLineBreakMatchesDecodedRune", fn := fun _ => fun
  | [d1, d2] => { results := [.lit (.bool false)], args := [d1, d2] }
  | _ => none }
def FnLineBreakMatchesDecodedRuneWrongFalsely : Prop := fnLineBreakMatchesDecodedRuneRow.holds Trym.pinned (OpenSpec.ofChange fnLineBreakMatchesDecodedRuneWrong)

/-- 'zzlaws_internal_manifest_b1.FnLineBreakStaysInText': WHATEVER THE INPUT: true; the input reads as it did. -/
def fnLineBreakStaysInTextSpec : ChangeSpec := { name := "fnLineBreakStaysInText", fn := fun _ => fun
  | [d1, d2] => { results := [.lit (.bool true)], args := [d1, d2] }
  | _ => none }
def fnLineBreakStaysInTextRow : OpenClaim := { program := "qxb6600804amods", sum := "91d85b5432c5de27729b6e39996cd749744c8c992e57051dd4ec211c36af6406", func := "example.com/homeostat/homeostat/zzlaws_internal_manifest_b1.FnLineBreakStaysInText", spec := "fnLineBreakStaysInText", make := .lifted ["publicsums"], apart := false }
def FnLineBreakStaysInTextSaid : Prop := fnLineBreakStaysInTextRow.holds Trym.pinned (OpenSpec.ofChange fnLineBreakStaysInTextSpec)

/-- ITS FALSE NEIGHBOUR: 'it returns false'. Refute it at one input. -/
def fnLineBreakStaysInTextWrong : ChangeSpec := { name := "fnLineBreakStaysInText", fn := fun _ => fun
  | [d1, d2] => { results := [.lit (.bool false)], args := [d1, d2] }
  | _ => none }
def FnLineBreakStaysInTextWrongFalsely : Prop := fnLineBreakStaysInTextRow.holds Trym.pinned (OpenSpec.ofChange fnLineBreakStaysInTextWrong)

/-- 'zzlaws_internal_manifest_b1.FnLineBreakReadsAtMostThreeBytes': WHATEVER THE INPUT: true; the input reads as it did. -/
def fnLineBreakReadsAtMostThreeBytesSpec : ChangeSpec := { name := "fnLineBreakReadsAtMostThreeBytes", fn := fun _ => fun
  | [d1, d2] => { results := [.lit (.bool true)], args := [d1, d2] }
  | _ => none }
def fnLineBreakReadsAtMostThreeBytesRow : OpenClaim := { program := "qxb6600804amods", sum := "91d85b5432c5de27729b6e39996cd749744c8c992e57051dd4ec211c36af6406", func := "example.com/homeostat/homeostat/zzlaws_internal_manifest_b1.FnLineBreakReadsAtMostThreeBytes", spec := "fnLineBreakReadsAtMostThreeBytes", make := .lifted ["publicsums"], apart := false }
def FnLineBreakReadsAtMostThreeBytesSaid : Prop := fnLineBreakReadsAtMostThreeBytesRow.holds Trym.pinned (OpenSpec.ofChange fnLineBreakReadsAtMostThreeBytesSpec)

/-- ITS FALSE NEIGHBOUR: 'it returns false'. Refute it at one input. -/
def fnLineBreakReadsAtMostThreeBytesWrong : ChangeSpec := { name := "fnLineBreakReadsAtMostThreeBytes", fn := fun _ => fun
  | [d1, d2] => { results := [.lit (.bool false)], args := [d1, d2] }
  | _ => none }
def FnLineBreakReadsAtMostThreeBytesWrongFalsely : Prop := fnLineBreakReadsAtMostThreeBytesRow.holds Trym.pinned (OpenSpec.ofChange fnLineBreakReadsAtMostThreeBytesWrong)

/-- 'zzlaws_internal_manifest_b1.FnWithoutSpansMatchesModel': WHATEVER THE INPUT: true; the input reads as it did. -/
def fnWithoutSpansMatchesModelSpec : ChangeSpec := { name := "fnWithoutSpansMatchesModel", fn := fun _ => fun
  | [d1, d2, d3] => { results := [.lit (.bool true)], args := [d1, d2, d3] }
  | _ => none }
def fnWithoutSpansMatchesModelRow : OpenClaim := { program := "qxb6600804amods", sum := "91d85b5432c5de27729b6e39996cd749744c8c992e57051dd4ec211c36af6406", func := "example.com/homeostat/homeostat/zzlaws_internal_manifest_b1.FnWithoutSpansMatchesModel", spec := "fnWithoutSpansMatchesModel", make := .lifted ["publicsums"], apart := false }
def FnWithoutSpansMatchesModelSaid : Prop := fnWithoutSpansMatchesModelRow.holds Trym.pinned (OpenSpec.ofChange fnWithoutSpansMatchesModelSpec)

/-- ITS FALSE NEIGHBOUR: 'it returns false'. Refute it at one input. -/
def fnWithoutSpansMatchesModelWrong : ChangeSpec := { name := "fnWithoutSpansMatchesModel", fn := fun _ => fun
  | [d1, d2, d3] => { results := [.lit (.bool false)], args := [d1, d2, d3] }
  | _ => none }
def FnWithoutSpansMatchesModelWrongFalsely : Prop := fnWithoutSpansMatchesModelRow.holds Trym.pinned (OpenSpec.ofChange fnWithoutSpansMatchesModelWrong)

/-- 'zzlaws_internal_manifest_b1.FnWithoutSpansNeverLongerAndKeepsSpanFreeText': WHATEVER THE INPUT: true; the input reads as it did. -/
def fnWithoutSpansNeverLongerAndKeepsSpanFreeTextSpec : ChangeSpec := { name := "fnWithoutSpansNeverLongerAndKeepsSpanFreeText", fn := fun _ => fun
  | [d1, d2, d3] => { results := [.lit (.bool true)], args := [d1, d2, d3] }
  | _ => none }
def fnWithoutSpansNeverLongerAndKeepsSpanFreeTextRow : OpenClaim := { program := "qxb6600804amods", sum := "91d85b5432c5de27729b6e39996cd749744c8c992e57051dd4ec211c36af6406", func := "example.com/homeostat/homeostat/zzlaws_internal_manifest_b1.FnWithoutSpansNeverLongerAndKeepsSpanFreeText", spec := "fnWithoutSpansNeverLongerAndKeepsSpanFreeText", make := .lifted ["publicsums"], apart := false }
def FnWithoutSpansNeverLongerAndKeepsSpanFreeTextSaid : Prop := fnWithoutSpansNeverLongerAndKeepsSpanFreeTextRow.holds Trym.pinned (OpenSpec.ofChange fnWithoutSpansNeverLongerAndKeepsSpanFreeTextSpec)

/-- ITS FALSE NEIGHBOUR: 'it returns false'. Refute it at one input. -/
def fnWithoutSpansNeverLongerAndKeepsSpanFreeTextWrong : ChangeSpec := { name := "fnWithoutSpansNeverLongerAndKeepsSpanFreeText", fn := fun _ => fun
  | [d1, d2, d3] => { results := [.lit (.bool false)], args := [d1, d2, d3] }
  | _ => none }
def FnWithoutSpansNeverLongerAndKeepsSpanFreeTextWrongFalsely : Prop := fnWithoutSpansNeverLongerAndKeepsSpanFreeTextRow.holds Trym.pinned (OpenSpec.ofChange fnWithoutSpansNeverLongerAndKeepsSpanFreeTextWrong)

/-- 'zzlaws_internal_manifest_b1.FnWithoutSpansSplitSpanSameText': WHATEVER THE INPUT: true; the input reads as it did. -/
def fnWithoutSpansSplitSpanSameTextSpec : ChangeSpec := { name := "fnWithoutSpansSplitSpanSameText", fn := fun _ => fun
  | [d1, d2, d3, d4] => { results := [.lit (.bool true)], args := [d1, d2, d3, d4] }
  | _ => none }
def fnWithoutSpansSplitSpanSameTextRow : OpenClaim := { program := "qxb6600804amods", sum := "91d85b5432c5de27729b6e39996cd749744c8c992e57051dd4ec211c36af6406", func := "example.com/homeostat/homeostat/zzlaws_internal_manifest_b1.FnWithoutSpansSplitSpanSameText", spec := "fnWithoutSpansSplitSpanSameText", make := .lifted ["publicsums"], apart := false }
def FnWithoutSpansSplitSpanSameTextSaid : Prop := fnWithoutSpansSplitSpanSameTextRow.holds Trym.pinned (OpenSpec.ofChange fnWithoutSpansSplitSpanSameTextSpec)

/-- ITS FALSE NEIGHBOUR: 'it returns false'. Refute it at one input. -/
def fnWithoutSpansSplitSpanSameTextWrong : ChangeSpec := { name := "fnWithoutSpansSplitSpanSameText", fn := fun _ => fun
  | [d1, d2, d3, d4] => { results := [.lit (.bool false)], args := [d1, d2, d3, d4] }
  | _ => none }
def FnWithoutSpansSplitSpanSameTextWrongFalsely : Prop := fnWithoutSpansSplitSpanSameTextRow.holds Trym.pinned (OpenSpec.ofChange fnWithoutSpansSplitSpanSameTextWrong)

/-- 'zzlaws_internal_manifest_b1.FnValueKeepsIndentStackIncreasing': WHATEVER THE INPUT: true; the input reads as it did. -/
def fnValueKeepsIndentStackIncreasingSpec : ChangeSpec := { name := "fnValueKeepsIndentStackIncreasing", fn := fun _ => fun
  | [d1, d2, d3, d4, d5, d6, d7, d8] => { results := [.lit (.bool true)], args := [d1, d2, d3, d4, d5, d6, d7, d8] }
  | _ => none }
def fnValueKeepsIndentStackIncreasingRow : OpenClaim := { program := "qxb6600804amods", sum := "91d85b5432c5de27729b6e39996cd749744c8c992e57051dd4ec211c36af6406", func := "example.com/homeostat/homeostat/zzlaws_internal_manifest_b1.FnValueKeepsIndentStackIncreasing", spec := "fnValueKeepsIndentStackIncreasing", make := .lifted ["publicsums"], apart := false }
def FnValueKeepsIndentStackIncreasingSaid : Prop := fnValueKeepsIndentStackIncreasingRow.holds Trym.pinned (OpenSpec.ofChange fnValueKeepsIndentStackIncreasingSpec)

/-- ITS FALSE NEIGHBOUR: 'it returns false'. Refute it at one input. -/
def fnValueKeepsIndentStackIncreasingWrong : ChangeSpec := { name := "fnValueKeepsIndentStackIncreasing", fn := fun _ => fun
  | [d1, d2, d3, d4, d5, d6, d7, d8] => { results := [.lit (.bool false)], args := [d1, d2, d3, d4, d5, d6, d7, d8] }
  | _ => none }
def FnValueKeepsIndentStackIncreasingWrongFalsely : Prop := fnValueKeepsIndentStackIncreasingRow.holds Trym.pinned (OpenSpec.ofChange fnValueKeepsIndentStackIncreasingWrong)

end Rows
end Go.Proofs.Qxb6600804aMods

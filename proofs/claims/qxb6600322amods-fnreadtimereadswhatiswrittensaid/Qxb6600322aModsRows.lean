/-
  No cell of these rows narrows 'for every input' (looked for: loops, veiled, ifaces, maps, wideKeys, modest, calm, conditions, laid).
  DERIVED. THE GIVEN ROWS OF THIS SEAT. 6 by the template 'for every input the law returns true; each argument reads behind the call as it read before'; 0 by the template 'total and deterministic' (their statements: Qxb6600322aModsTotals.lean).
  GIVEN WITH THE SEED: the statements are not yours to turn. If you find one false, say at which input.
  Laid BY PROGRAM, IN A SANDBOX (cutbox-rows.mjs): the forced cells as the released guide's own fill.sh prints them over the translation 4f3ade673118de54… (all of the seat's roots in one cut). By AI agents, Wed Nov 11 2026. No macro, syntax, notation, axiom, sorry.
-/
import Derived.Test.Qxb6600322aModsChecked
import GoSem.Claim
import GoSem.ClaimJoined
import GoSem.ClaimMapViews
import Derived.JoinedTies
import Derived.KernelRfl
namespace Go.Proofs.Qxb6600322aMods
/- THE CELL 'sum', in the pinned program and in every row, IS THE sha256 OF THE DUMP (.gsa) THAT Qxb6600322aModsProg.lean LOADS. Nothing in Lean hashes anything: it is a label: what it is worth is what the hold of that sum in a sandbox is worth. -/
noncomputable def Trym.pinned : Pinned := { name := "qxb6600322amods", sum := "4f3ade673118de548b2549205e8af8727ad09b10c9e6f650dd9a79d522af6f95", checked := Trym.checked }
namespace Rows
def none {H : Type} : Left H := { results := [], args := [] }

/-- 'zzlaws_internal_toml_b1.FnKindStringWordsTellKindsApart': WHATEVER THE INPUT: true; the input reads as it did. -/
def fnKindStringWordsTellKindsApartSpec : ChangeSpec := { name := "fnKindStringWordsTellKindsApart", fn := fun _ => fun
  | [d1, d2] => { results := [.lit (.bool true)], args := [d1, d2] }
  | _ => none }
def fnKindStringWordsTellKindsApartRow : OpenClaim := { program := "qxb6600322amods", sum := "4f3ade673118de548b2549205e8af8727ad09b10c9e6f650dd9a79d522af6f95", func := "example.com/vestwright/vestwright/zzlaws_internal_toml_b1.FnKindStringWordsTellKindsApart", spec := "fnKindStringWordsTellKindsApart", make := .lifted ["publicsums"], apart := false }
def FnKindStringWordsTellKindsApartSaid : Prop := fnKindStringWordsTellKindsApartRow.holds Trym.pinned (OpenSpec.ofChange fnKindStringWordsTellKindsApartSpec)

/-- ITS FALSE NEIGHBOUR: 'it returns false'. Refute it at one input. -/
def fnKindStringWordsTellKindsApartWrong : ChangeSpec := { name := "fnKindStringWordsTellKindsApart", fn := fun _ => fun
  | [d1, d2] => { results := [.lit (.bool false)], args := [d1, d2] }
  | _ => none }
def FnKindStringWordsTellKindsApartWrongFalsely : Prop := fnKindStringWordsTellKindsApartRow.holds Trym.pinned (OpenSpec.ofChange fnKindStringWordsTellKindsApartWrong)

/-- 'zzlaws_internal_toml_b1.FnReadTimeMatchesLexicalModel': WHATEVER THE INPUT: true; the input reads as it did. -/
def fnReadTimeMatchesLexicalModelSpec : ChangeSpec := { name := "fnReadTimeMatchesLexicalModel", fn := fun _ => fun
  | [d] => { results := [.lit (.bool true)], args := [d] }
  | _ => none }
def fnReadTimeMatchesLexicalModelRow : OpenClaim := { program := "qxb6600322amods", sum := "4f3ade673118de548b2549205e8af8727ad09b10c9e6f650dd9a79d522af6f95", func := "example.com/vestwright/vestwright/zzlaws_internal_toml_b1.FnReadTimeMatchesLexicalModel", spec := "fnReadTimeMatchesLexicalModel", make := .lifted ["publicsums"], apart := false }
def FnReadTimeMatchesLexicalModelSaid : Prop := fnReadTimeMatchesLexicalModelRow.holds Trym.pinned (OpenSpec.ofChange fnReadTimeMatchesLexicalModelSpec)

/-- ITS FALSE NEIGHBOUR: 'it returns false'. Refute it at one input. -/
def fnReadTimeMatchesLexicalModelWrong : ChangeSpec := { name := "fnReadTimeMatchesLexicalModel", fn := fun _ => fun
  | [d] => { results := [.lit (.bool false)], args := [d] }
  | _ => none }
def FnReadTimeMatchesLexicalModelWrongFalsely : Prop := fnReadTimeMatchesLexicalModelRow.holds Trym.pinned (OpenSpec.ofChange fnReadTimeMatchesLexicalModelWrong)

/-- 'zzlaws_internal_toml_b1.FnReadTimeReadsWhatIsWritten': WHATEVER THE INPUT: true; the input reads as it did. -/
def fnReadTimeReadsWhatIsWrittenSpec : ChangeSpec := { name := "fnReadTimeReadsWhatIsWritten", fn := fun _ => fun
  | [d1, d2, d3, d4, d5] => { results := [.lit (.bool true)], args := [d1, d2, d3, d4, d5] }
  | _ => none }
def fnReadTimeReadsWhatIsWrittenRow : OpenClaim := { program := "qxb6600322amods", sum := "4f3ade673118de548b2549205e8af8727ad09b10c9e6f650dd9a79d522af6f95", func := "example.com/vestwright/vestwright/zzlaws_internal_toml_b1.FnReadTimeReadsWhatIsWritten", spec := "fnReadTimeReadsWhatIsWritten", make := .lifted ["publicsums"], apart := false }
def FnReadTimeReadsWhatIsWrittenSaid : Prop := fnReadTimeReadsWhatIsWrittenRow.holds Trym.pinned (OpenSpec.ofChange fnReadTimeReadsWhatIsWrittenSpec)

/-- ITS FALSE NEIGHBOUR: 'it returns false'. Refute it at one input. -/
def fnReadTimeReadsWhatIsWrittenWrong : ChangeSpec := { name := "fnReadTimeReadsWhatIsWritten", fn := fun _ => fun
  | [d1, d2, d3, d4, d5] => { results := [.lit (.bool false)], args := [d1, d2, d3, d4, d5] }
  | _ => none }
def FnReadTimeReadsWhatIsWrittenWrongFalsely : Prop := fnReadTimeReadsWhatIsWrittenRow.holds Trym.pinned (OpenSpec.ofChange fnReadTimeReadsWhatIsWrittenWrong)

/-- 'zzlaws_internal_toml_b1.FnQuotedEndMatchesRunModel': WHATEVER THE INPUT: true; the input reads as it did. -/
def fnQuotedEndMatchesRunModelSpec : ChangeSpec := { name := "fnQuotedEndMatchesRunModel", fn := fun _ => fun
  | [d1, d2] => { results := [.lit (.bool true)], args := [d1, d2] }
  | _ => none }
def fnQuotedEndMatchesRunModelRow : OpenClaim := { program := "qxb6600322amods", sum := "4f3ade673118de548b2549205e8af8727ad09b10c9e6f650dd9a79d522af6f95", func := "example.com/vestwright/vestwright/zzlaws_internal_toml_b1.FnQuotedEndMatchesRunModel", spec := "fnQuotedEndMatchesRunModel", make := .lifted ["publicsums"], apart := false }
def FnQuotedEndMatchesRunModelSaid : Prop := fnQuotedEndMatchesRunModelRow.holds Trym.pinned (OpenSpec.ofChange fnQuotedEndMatchesRunModelSpec)

/-- ITS FALSE NEIGHBOUR: 'it returns false'. Refute it at one input. -/
def fnQuotedEndMatchesRunModelWrong : ChangeSpec := { name := "fnQuotedEndMatchesRunModel", fn := fun _ => fun
  | [d1, d2] => { results := [.lit (.bool false)], args := [d1, d2] }
  | _ => none }
def FnQuotedEndMatchesRunModelWrongFalsely : Prop := fnQuotedEndMatchesRunModelRow.holds Trym.pinned (OpenSpec.ofChange fnQuotedEndMatchesRunModelWrong)

/-- 'zzlaws_internal_toml_b1.FnQuotedEndStaysInsideAndClosesOnItsQuote': WHATEVER THE INPUT: true; the input reads as it did. -/
def fnQuotedEndStaysInsideAndClosesOnItsQuoteSpec : ChangeSpec := { name := "fnQuotedEndStaysInsideAndClosesOnItsQuote", fn := fun _ => fun
  | [d1, d2] => { results := [.lit (.bool true)], args := [d1, d2] }
  | _ => none }
def fnQuotedEndStaysInsideAndClosesOnItsQuoteRow : OpenClaim := { program := "qxb6600322amods", sum := "4f3ade673118de548b2549205e8af8727ad09b10c9e6f650dd9a79d522af6f95", func := "example.com/vestwright/vestwright/zzlaws_internal_toml_b1.FnQuotedEndStaysInsideAndClosesOnItsQuote", spec := "fnQuotedEndStaysInsideAndClosesOnItsQuote", make := .lifted ["publicsums"], apart := false }
def FnQuotedEndStaysInsideAndClosesOnItsQuoteSaid : Prop := fnQuotedEndStaysInsideAndClosesOnItsQuoteRow.holds Trym.pinned (OpenSpec.ofChange fnQuotedEndStaysInsideAndClosesOnItsQuoteSpec)

/-- ITS FALSE NEIGHBOUR: 'it returns false'. Refute it at one input. -/
def fnQuotedEndStaysInsideAndClosesOnItsQuoteWrong : ChangeSpec := { name := "fnQuotedEndStaysInsideAndClosesOnItsQuote", fn := fun _ => fun
  | [d1, d2] => { results := [.lit (.bool false)], args := [d1, d2] }
  | _ => none }
def FnQuotedEndStaysInsideAndClosesOnItsQuoteWrongFalsely : Prop := fnQuotedEndStaysInsideAndClosesOnItsQuoteRow.holds Trym.pinned (OpenSpec.ofChange fnQuotedEndStaysInsideAndClosesOnItsQuoteWrong)

/-- 'zzlaws_internal_toml_b1.FnQuotedEndIgnoresWhatFollows': WHATEVER THE INPUT: true; the input reads as it did. -/
def fnQuotedEndIgnoresWhatFollowsSpec : ChangeSpec := { name := "fnQuotedEndIgnoresWhatFollows", fn := fun _ => fun
  | [d1, d2, d3] => { results := [.lit (.bool true)], args := [d1, d2, d3] }
  | _ => none }
def fnQuotedEndIgnoresWhatFollowsRow : OpenClaim := { program := "qxb6600322amods", sum := "4f3ade673118de548b2549205e8af8727ad09b10c9e6f650dd9a79d522af6f95", func := "example.com/vestwright/vestwright/zzlaws_internal_toml_b1.FnQuotedEndIgnoresWhatFollows", spec := "fnQuotedEndIgnoresWhatFollows", make := .lifted ["publicsums"], apart := false }
def FnQuotedEndIgnoresWhatFollowsSaid : Prop := fnQuotedEndIgnoresWhatFollowsRow.holds Trym.pinned (OpenSpec.ofChange fnQuotedEndIgnoresWhatFollowsSpec)

/-- ITS FALSE NEIGHBOUR: 'it returns false'. Refute it at one input. -/
def fnQuotedEndIgnoresWhatFollowsWrong : ChangeSpec := { name := "fnQuotedEndIgnoresWhatFollows", fn := fun _ => fun
  | [d1, d2, d3] => { results := [.lit (.bool false)], args := [d1, d2, d3] }
  | _ => none }
def FnQuotedEndIgnoresWhatFollowsWrongFalsely : Prop := fnQuotedEndIgnoresWhatFollowsRow.holds Trym.pinned (OpenSpec.ofChange fnQuotedEndIgnoresWhatFollowsWrong)

end Rows
end Go.Proofs.Qxb6600322aMods

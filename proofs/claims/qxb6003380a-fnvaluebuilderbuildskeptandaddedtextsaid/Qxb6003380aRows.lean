/-
  No cell of these rows narrows 'for every input' (looked for: loops, veiled, ifaces, maps, wideKeys, modest, calm, conditions, laid).
  DERIVED. THE GIVEN ROWS OF THIS SEAT. 7 by the template 'for every input the law returns true; each argument reads behind the call as it read before'; 0 by the template 'total and deterministic' (their statements: Qxb6003380aTotals.lean).
  GIVEN WITH THE SEED: the statements are not yours to turn. If you find one false, say at which input.
  Laid BY PROGRAM, IN A SANDBOX (cutbox-rows.mjs): the forced cells as the released guide's own fill.sh prints them over the translation 0937621ee3abc2de… (all of the seat's roots in one cut). By AI agents, Wed Nov 11 2026. No macro, syntax, notation, axiom, sorry.
-/
import Derived.Test.Qxb6003380aChecked
import GoSem.Claim
import GoSem.ClaimJoined
import GoSem.ClaimMapViews
import Derived.JoinedTies
import Derived.KernelRfl
namespace Go.Proofs.Qxb6003380a
/- THE CELL 'sum', in the pinned program and in every row, IS THE sha256 OF THE DUMP (.gsa) THAT Qxb6003380aProg.lean LOADS. Nothing in Lean hashes anything: it is a label: what it is worth is what the hold of that sum in a sandbox is worth. -/
noncomputable def Try.pinned : Pinned := { name := "qxb6003380a", sum := "0937621ee3abc2de6a663571ef09a470bf8d69310bca231f0a447cd126bf3868", checked := Try.checked }
namespace Rows
def none {H : Type} : Left H := { results := [], args := [] }

/-- 'zzlaws_tdl_g1.FnCloseOfFindsTheLeastCloseAndRemembersIt': WHATEVER THE INPUT: true; the input reads as it did. -/
def fnCloseOfFindsTheLeastCloseAndRemembersItSpec : ChangeSpec := { name := "fnCloseOfFindsTheLeastCloseAndRemembersIt", fn := fun _ => fun
  | [d1, d2, d3, d4] => { results := [.lit (.bool true)], args := [d1, d2, d3, d4] }
  | _ => none }
def fnCloseOfFindsTheLeastCloseAndRemembersItRow : OpenClaim := { program := "qxb6003380a", sum := "0937621ee3abc2de6a663571ef09a470bf8d69310bca231f0a447cd126bf3868", func := "example.com/lineform/lineform/zzlaws_tdl_g1.FnCloseOfFindsTheLeastCloseAndRemembersIt", spec := "fnCloseOfFindsTheLeastCloseAndRemembersIt", apart := false }
def FnCloseOfFindsTheLeastCloseAndRemembersItSaid : Prop := fnCloseOfFindsTheLeastCloseAndRemembersItRow.holds Try.pinned (OpenSpec.ofChange fnCloseOfFindsTheLeastCloseAndRemembersItSpec)

/-- ITS FALSE NEIGHBOUR: 'it returns false'. Refute it at one input. -/
def fnCloseOfFindsTheLeastCloseAndRemembersItWrong : ChangeSpec := { name := "fnCloseOfFindsTheLeastCloseAndRemembersIt", fn := fun _ => fun
  | [d1, d2, d3, d4] => { results := [.lit (.bool false)], args := [d1, d2, d3, d4] }
  | _ => none }
def FnCloseOfFindsTheLeastCloseAndRemembersItWrongFalsely : Prop := fnCloseOfFindsTheLeastCloseAndRemembersItRow.holds Try.pinned (OpenSpec.ofChange fnCloseOfFindsTheLeastCloseAndRemembersItWrong)

/-- 'zzlaws_tdl_g1.FnValueBuilderBuildsKeptAndAddedText': WHATEVER THE INPUT: true; the input reads as it did. -/
def fnValueBuilderBuildsKeptAndAddedTextSpec : ChangeSpec := { name := "fnValueBuilderBuildsKeptAndAddedText", fn := fun _ => fun
  | [d1, d2, d3, d4, d5] => { results := [.lit (.bool true)], args := [d1, d2, d3, d4, d5] }
  | _ => none }
def fnValueBuilderBuildsKeptAndAddedTextRow : OpenClaim := { program := "qxb6003380a", sum := "0937621ee3abc2de6a663571ef09a470bf8d69310bca231f0a447cd126bf3868", func := "example.com/lineform/lineform/zzlaws_tdl_g1.FnValueBuilderBuildsKeptAndAddedText", spec := "fnValueBuilderBuildsKeptAndAddedText", apart := false }
def FnValueBuilderBuildsKeptAndAddedTextSaid : Prop := fnValueBuilderBuildsKeptAndAddedTextRow.holds Try.pinned (OpenSpec.ofChange fnValueBuilderBuildsKeptAndAddedTextSpec)

/-- ITS FALSE NEIGHBOUR: 'it returns false'. Refute it at one input. -/
def fnValueBuilderBuildsKeptAndAddedTextWrong : ChangeSpec := { name := "fnValueBuilderBuildsKeptAndAddedText", fn := fun _ => fun
  | [d1, d2, d3, d4, d5] => { results := [.lit (.bool false)], args := [d1, d2, d3, d4, d5] }
  | _ => none }
def FnValueBuilderBuildsKeptAndAddedTextWrongFalsely : Prop := fnValueBuilderBuildsKeptAndAddedTextRow.holds Try.pinned (OpenSpec.ofChange fnValueBuilderBuildsKeptAndAddedTextWrong)

/-- 'zzlaws_tdl_g1.FnElementNameIsLocalAndWrittenBare': WHATEVER THE INPUT: true; the input reads as it did. -/
def fnElementNameIsLocalAndWrittenBareSpec : ChangeSpec := { name := "fnElementNameIsLocalAndWrittenBare", fn := fun _ => fun
  | [d] => { results := [.lit (.bool true)], args := [d] }
  | _ => none }
def fnElementNameIsLocalAndWrittenBareRow : OpenClaim := { program := "qxb6003380a", sum := "0937621ee3abc2de6a663571ef09a470bf8d69310bca231f0a447cd126bf3868", func := "example.com/lineform/lineform/zzlaws_tdl_g1.FnElementNameIsLocalAndWrittenBare", spec := "fnElementNameIsLocalAndWrittenBare", apart := false }
def FnElementNameIsLocalAndWrittenBareSaid : Prop := fnElementNameIsLocalAndWrittenBareRow.holds Try.pinned (OpenSpec.ofChange fnElementNameIsLocalAndWrittenBareSpec)

/-- ITS FALSE NEIGHBOUR: 'it returns false'. Refute it at one input. -/
def fnElementNameIsLocalAndWrittenBareWrong : ChangeSpec := { name := "fnElementNameIsLocalAndWrittenBare", fn := fun _ => fun
  | [d] => { results := [.lit (.bool false)], args := [d] }
  | _ => none }
def FnElementNameIsLocalAndWrittenBareWrongFalsely : Prop := fnElementNameIsLocalAndWrittenBareRow.holds Try.pinned (OpenSpec.ofChange fnElementNameIsLocalAndWrittenBareWrong)

/-- 'zzlaws_tdl_g2.FnUnescapedLineEndIsFirstEvenRun': WHATEVER THE INPUT: true; the input reads as it did. -/
def fnUnescapedLineEndIsFirstEvenRunSpec : ChangeSpec := { name := "fnUnescapedLineEndIsFirstEvenRun", fn := fun _ => fun
  | [d] => { results := [.lit (.bool true)], args := [d] }
  | _ => none }
def fnUnescapedLineEndIsFirstEvenRunRow : OpenClaim := { program := "qxb6003380a", sum := "0937621ee3abc2de6a663571ef09a470bf8d69310bca231f0a447cd126bf3868", func := "example.com/lineform/lineform/zzlaws_tdl_g2.FnUnescapedLineEndIsFirstEvenRun", spec := "fnUnescapedLineEndIsFirstEvenRun", apart := false }
def FnUnescapedLineEndIsFirstEvenRunSaid : Prop := fnUnescapedLineEndIsFirstEvenRunRow.holds Try.pinned (OpenSpec.ofChange fnUnescapedLineEndIsFirstEvenRunSpec)

/-- ITS FALSE NEIGHBOUR: 'it returns false'. Refute it at one input. -/
def fnUnescapedLineEndIsFirstEvenRunWrong : ChangeSpec := { name := "fnUnescapedLineEndIsFirstEvenRun", fn := fun _ => fun
  | [d] => { results := [.lit (.bool false)], args := [d] }
  | _ => none }
def FnUnescapedLineEndIsFirstEvenRunWrongFalsely : Prop := fnUnescapedLineEndIsFirstEvenRunRow.holds Try.pinned (OpenSpec.ofChange fnUnescapedLineEndIsFirstEvenRunWrong)

/-- 'zzlaws_tdl_g2.FnContinuationIsMaximalAndLocal': WHATEVER THE INPUT: true; the input reads as it did. -/
def fnContinuationIsMaximalAndLocalSpec : ChangeSpec := { name := "fnContinuationIsMaximalAndLocal", fn := fun _ => fun
  | [d1, d2, d3] => { results := [.lit (.bool true)], args := [d1, d2, d3] }
  | _ => none }
def fnContinuationIsMaximalAndLocalRow : OpenClaim := { program := "qxb6003380a", sum := "0937621ee3abc2de6a663571ef09a470bf8d69310bca231f0a447cd126bf3868", func := "example.com/lineform/lineform/zzlaws_tdl_g2.FnContinuationIsMaximalAndLocal", spec := "fnContinuationIsMaximalAndLocal", apart := false }
def FnContinuationIsMaximalAndLocalSaid : Prop := fnContinuationIsMaximalAndLocalRow.holds Try.pinned (OpenSpec.ofChange fnContinuationIsMaximalAndLocalSpec)

/-- ITS FALSE NEIGHBOUR: 'it returns false'. Refute it at one input. -/
def fnContinuationIsMaximalAndLocalWrong : ChangeSpec := { name := "fnContinuationIsMaximalAndLocal", fn := fun _ => fun
  | [d1, d2, d3] => { results := [.lit (.bool false)], args := [d1, d2, d3] }
  | _ => none }
def FnContinuationIsMaximalAndLocalWrongFalsely : Prop := fnContinuationIsMaximalAndLocalRow.holds Try.pinned (OpenSpec.ofChange fnContinuationIsMaximalAndLocalWrong)

/-- 'zzlaws_tdl_g2.FnValueBuilderPlainWordIsItsText': WHATEVER THE INPUT: true; the input reads as it did. -/
def fnValueBuilderPlainWordIsItsTextSpec : ChangeSpec := { name := "fnValueBuilderPlainWordIsItsText", fn := fun _ => fun
  | [d1, d2, d3] => { results := [.lit (.bool true)], args := [d1, d2, d3] }
  | _ => none }
def fnValueBuilderPlainWordIsItsTextRow : OpenClaim := { program := "qxb6003380a", sum := "0937621ee3abc2de6a663571ef09a470bf8d69310bca231f0a447cd126bf3868", func := "example.com/lineform/lineform/zzlaws_tdl_g2.FnValueBuilderPlainWordIsItsText", spec := "fnValueBuilderPlainWordIsItsText", apart := false }
def FnValueBuilderPlainWordIsItsTextSaid : Prop := fnValueBuilderPlainWordIsItsTextRow.holds Try.pinned (OpenSpec.ofChange fnValueBuilderPlainWordIsItsTextSpec)

/-- ITS FALSE NEIGHBOUR: 'it returns false'. Refute it at one input. -/
def fnValueBuilderPlainWordIsItsTextWrong : ChangeSpec := { name := "fnValueBuilderPlainWordIsItsText", fn := fun _ => fun
  | [d1, d2, d3] => { results := [.lit (.bool false)], args := [d1, d2, d3] }
  | _ => none }
def FnValueBuilderPlainWordIsItsTextWrongFalsely : Prop := fnValueBuilderPlainWordIsItsTextRow.holds Try.pinned (OpenSpec.ofChange fnValueBuilderPlainWordIsItsTextWrong)

/-- 'zzlaws_tdl_g2.FnValueBuilderScriptMatchesModel': WHATEVER THE INPUT: true; the input reads as it did. -/
def fnValueBuilderScriptMatchesModelSpec : ChangeSpec := { name := "fnValueBuilderScriptMatchesModel", fn := fun _ => fun
  | [d1, d2, d3, d4] => { results := [.lit (.bool true)], args := [d1, d2, d3, d4] }
  | _ => none }
def fnValueBuilderScriptMatchesModelRow : OpenClaim := { program := "qxb6003380a", sum := "0937621ee3abc2de6a663571ef09a470bf8d69310bca231f0a447cd126bf3868", func := "example.com/lineform/lineform/zzlaws_tdl_g2.FnValueBuilderScriptMatchesModel", spec := "fnValueBuilderScriptMatchesModel", apart := false }
def FnValueBuilderScriptMatchesModelSaid : Prop := fnValueBuilderScriptMatchesModelRow.holds Try.pinned (OpenSpec.ofChange fnValueBuilderScriptMatchesModelSpec)

/-- ITS FALSE NEIGHBOUR: 'it returns false'. Refute it at one input. -/
def fnValueBuilderScriptMatchesModelWrong : ChangeSpec := { name := "fnValueBuilderScriptMatchesModel", fn := fun _ => fun
  | [d1, d2, d3, d4] => { results := [.lit (.bool false)], args := [d1, d2, d3, d4] }
  | _ => none }
def FnValueBuilderScriptMatchesModelWrongFalsely : Prop := fnValueBuilderScriptMatchesModelRow.holds Try.pinned (OpenSpec.ofChange fnValueBuilderScriptMatchesModelWrong)

end Rows
end Go.Proofs.Qxb6003380a

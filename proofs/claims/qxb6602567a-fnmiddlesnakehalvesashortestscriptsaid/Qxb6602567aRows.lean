/-
  No cell of these rows narrows 'for every input' (looked for: loops, veiled, ifaces, maps, wideKeys, modest, calm, conditions, laid).
  DERIVED. THE GIVEN ROWS OF THIS SEAT. 2 by the template 'for every input the law returns true; each argument reads behind the call as it read before'; 0 by the template 'total and deterministic' (their statements: Qxb6602567aTotals.lean).
  GIVEN WITH THE SEED: the statements are not yours to turn. If you find one false, say at which input.
  Laid BY PROGRAM, IN A SANDBOX (cutbox-rows.mjs): the forced cells as the released guide's own fill.sh prints them over the translation c241f35c3cf1cda3… (all of the seat's roots in one cut). By AI agents, Wed Nov 11 2026. No macro, syntax, notation, axiom, sorry.
-/
import Derived.Test.Qxb6602567aChecked
import GoSem.Claim
import GoSem.ClaimJoined
import GoSem.ClaimMapViews
import Derived.JoinedTies
import Derived.KernelRfl
namespace Go.Proofs.Qxb6602567a
/- THE CELL 'sum', in the pinned program and in every row, IS THE sha256 OF THE DUMP (.gsa) THAT Qxb6602567aProg.lean LOADS. Nothing in Lean hashes anything: it is a label: what it is worth is what the hold of that sum in a sandbox is worth. -/
noncomputable def Try.pinned : Pinned := { name := "qxb6602567a", sum := "c241f35c3cf1cda34c8750bc1d9284d990f08b3d5b2b4883d08da81da4e30f63", checked := Try.checked }
namespace Rows
def none {H : Type} : Left H := { results := [], args := [] }

/-- 'zzlaws_internal_textdiff_b1.FnMiddleSnakeHalvesAShortestScript': WHATEVER THE INPUT: true; the input reads as it did. -/
def fnMiddleSnakeHalvesAShortestScriptSpec : ChangeSpec := { name := "fnMiddleSnakeHalvesAShortestScript", fn := fun _ => fun
  | [d1, d2, d3, d4, d5, d6] => { results := [.lit (.bool true)], args := [d1, d2, d3, d4, d5, d6] }
  | _ => none }
def fnMiddleSnakeHalvesAShortestScriptRow : OpenClaim := { program := "qxb6602567a", sum := "c241f35c3cf1cda34c8750bc1d9284d990f08b3d5b2b4883d08da81da4e30f63", func := "example.com/castwright/castwright/zzlaws_internal_textdiff_b1.FnMiddleSnakeHalvesAShortestScript", spec := "fnMiddleSnakeHalvesAShortestScript", apart := false }
def FnMiddleSnakeHalvesAShortestScriptSaid : Prop := fnMiddleSnakeHalvesAShortestScriptRow.holds Try.pinned (OpenSpec.ofChange fnMiddleSnakeHalvesAShortestScriptSpec)

/-- ITS FALSE NEIGHBOUR: 'it returns false'. Refute it at one input. -/
def fnMiddleSnakeHalvesAShortestScriptWrong : ChangeSpec := { name := "fnMiddleSnakeHalvesAShortestScript", fn := fun _ => fun
  | [d1, d2, d3, d4, d5, d6] => { results := [.lit (.bool false)], args := [d1, d2, d3, d4, d5, d6] }
  | _ => none }
def FnMiddleSnakeHalvesAShortestScriptWrongFalsely : Prop := fnMiddleSnakeHalvesAShortestScriptRow.holds Try.pinned (OpenSpec.ofChange fnMiddleSnakeHalvesAShortestScriptWrong)

/-- 'zzlaws_internal_textdiff_b1.FnMiddleSnakeAlwaysSplitsTheWindow': WHATEVER THE INPUT: true; the input reads as it did. -/
def fnMiddleSnakeAlwaysSplitsTheWindowSpec : ChangeSpec := { name := "fnMiddleSnakeAlwaysSplitsTheWindow", fn := fun _ => fun
  | [d1, d2, d3, d4, d5, d6] => { results := [.lit (.bool true)], args := [d1, d2, d3, d4, d5, d6] }
  | _ => none }
def fnMiddleSnakeAlwaysSplitsTheWindowRow : OpenClaim := { program := "qxb6602567a", sum := "c241f35c3cf1cda34c8750bc1d9284d990f08b3d5b2b4883d08da81da4e30f63", func := "example.com/castwright/castwright/zzlaws_internal_textdiff_b1.FnMiddleSnakeAlwaysSplitsTheWindow", spec := "fnMiddleSnakeAlwaysSplitsTheWindow", apart := false }
def FnMiddleSnakeAlwaysSplitsTheWindowSaid : Prop := fnMiddleSnakeAlwaysSplitsTheWindowRow.holds Try.pinned (OpenSpec.ofChange fnMiddleSnakeAlwaysSplitsTheWindowSpec)

/-- ITS FALSE NEIGHBOUR: 'it returns false'. Refute it at one input. -/
def fnMiddleSnakeAlwaysSplitsTheWindowWrong : ChangeSpec := { name := "fnMiddleSnakeAlwaysSplitsTheWindow", fn := fun _ => fun
  | [d1, d2, d3, d4, d5, d6] => { results := [.lit (.bool false)], args := [d1, d2, d3, d4, d5, d6] }
  | _ => none }
def FnMiddleSnakeAlwaysSplitsTheWindowWrongFalsely : Prop := fnMiddleSnakeAlwaysSplitsTheWindowRow.holds Try.pinned (OpenSpec.ofChange fnMiddleSnakeAlwaysSplitsTheWindowWrong)

end Rows
end Go.Proofs.Qxb6602567a

/-
  No cell of these rows narrows 'for every input' (looked for: loops, veiled, ifaces, maps, wideKeys, modest, calm, conditions, laid).
  DERIVED. THE GIVEN ROWS OF THIS SEAT. 2 by the template 'for every input the law returns true; each argument reads behind the call as it read before'; 0 by the template 'total and deterministic' (their statements: Qxb6604309aTotals.lean).
  GIVEN WITH THE SEED: the statements are not yours to turn. If you find one false, say at which input.
  Laid BY PROGRAM, IN A SANDBOX (cutbox-rows.mjs): the forced cells as the released guide's own fill.sh prints them over the translation d815dc523422b3b9… (all of the seat's roots in one cut). By AI agents, Wed Nov 11 2026. No macro, syntax, notation, axiom, sorry.
-/
import Derived.Test.Qxb6604309aChecked
import GoSem.Claim
import GoSem.ClaimJoined
import GoSem.ClaimMapViews
import Derived.JoinedTies
import Derived.KernelRfl
namespace Go.Proofs.Qxb6604309a
/- THE CELL 'sum', in the pinned program and in every row, IS THE sha256 OF THE DUMP (.gsa) THAT Qxb6604309aProg.lean LOADS. Nothing in Lean hashes anything: it is a label: what it is worth is what the hold of that sum in a sandbox is worth. -/
noncomputable def Try.pinned : Pinned := { name := "qxb6604309a", sum := "d815dc523422b3b9504a5800b15f1c0f4dbb93cd1aa151abb67979352b6e488d", checked := Try.checked }
namespace Rows
def none {H : Type} : Left H := { results := [], args := [] }

/-- 'zzlaws_internal_figure_b1.FnReadFigureMatchesSplitGrammar': WHATEVER THE INPUT: true; the input reads as it did. -/
def fnReadFigureMatchesSplitGrammarSpec : ChangeSpec := { name := "fnReadFigureMatchesSplitGrammar", fn := fun _ => fun
  | [d] => { results := [.lit (.bool true)], args := [d] }
  | _ => none }
def fnReadFigureMatchesSplitGrammarRow : OpenClaim := { program := "qxb6604309a", sum := "d815dc523422b3b9504a5800b15f1c0f4dbb93cd1aa151abb67979352b6e488d", func := "example.com/bidqueue/bidqueue/zzlaws_internal_figure_b1.FnReadFigureMatchesSplitGrammar", spec := "fnReadFigureMatchesSplitGrammar", apart := false }
def FnReadFigureMatchesSplitGrammarSaid : Prop := fnReadFigureMatchesSplitGrammarRow.holds Try.pinned (OpenSpec.ofChange fnReadFigureMatchesSplitGrammarSpec)

/-- ITS FALSE NEIGHBOUR: 'it returns false'. Refute it at one input. -/
def fnReadFigureMatchesSplitGrammarWrong : ChangeSpec := { name := "fnReadFigureMatchesSplitGrammar", fn := fun _ => fun
  | [d] => { results := [.lit (.bool false)], args := [d] }
  | _ => none }
def FnReadFigureMatchesSplitGrammarWrongFalsely : Prop := fnReadFigureMatchesSplitGrammarRow.holds Try.pinned (OpenSpec.ofChange fnReadFigureMatchesSplitGrammarWrong)

/-- 'zzlaws_internal_figure_b1.FnMicroRoundsHalfUpToMicros': WHATEVER THE INPUT: true; the input reads as it did. -/
def fnMicroRoundsHalfUpToMicrosSpec : ChangeSpec := { name := "fnMicroRoundsHalfUpToMicros", fn := fun _ => fun
  | [d1, d2, d3, d4] => { results := [.lit (.bool true)], args := [d1, d2, d3, d4] }
  | _ => none }
def fnMicroRoundsHalfUpToMicrosRow : OpenClaim := { program := "qxb6604309a", sum := "d815dc523422b3b9504a5800b15f1c0f4dbb93cd1aa151abb67979352b6e488d", func := "example.com/bidqueue/bidqueue/zzlaws_internal_figure_b1.FnMicroRoundsHalfUpToMicros", spec := "fnMicroRoundsHalfUpToMicros", apart := false }
def FnMicroRoundsHalfUpToMicrosSaid : Prop := fnMicroRoundsHalfUpToMicrosRow.holds Try.pinned (OpenSpec.ofChange fnMicroRoundsHalfUpToMicrosSpec)

/-- ITS FALSE NEIGHBOUR: 'it returns false'. Refute it at one input. -/
def fnMicroRoundsHalfUpToMicrosWrong : ChangeSpec := { name := "fnMicroRoundsHalfUpToMicros", fn := fun _ => fun
  | [d1, d2, d3, d4] => { results := [.lit (.bool false)], args := [d1, d2, d3, d4] }
  | _ => none }
def FnMicroRoundsHalfUpToMicrosWrongFalsely : Prop := fnMicroRoundsHalfUpToMicrosRow.holds Try.pinned (OpenSpec.ofChange fnMicroRoundsHalfUpToMicrosWrong)

end Rows
end Go.Proofs.Qxb6604309a

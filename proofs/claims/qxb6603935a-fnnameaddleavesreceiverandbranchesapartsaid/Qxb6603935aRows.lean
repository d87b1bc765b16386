/-
  No cell of these rows narrows 'for every input' (looked for: loops, veiled, ifaces, maps, wideKeys, modest, calm, conditions, laid).
  DERIVED. THE GIVEN ROWS OF THIS SEAT. 4 by the template 'for every input the law returns true; each argument reads behind the call as it read before'; 0 by the template 'total and deterministic' (their statements: Qxb6603935aTotals.lean).
  GIVEN WITH THE SEED: the statements are not yours to turn. If you find one false, say at which input.
  Laid BY PROGRAM, IN A SANDBOX (cutbox-rows.mjs): the forced cells as the released guide's own fill.sh prints them over the translation 39e0091707f3b80f… (all of the seat's roots in one cut). By AI agents, Wed Nov 11 2026. No macro, syntax, notation, axiom, sorry.
-/
import Derived.Test.Qxb6603935aChecked
import GoSem.Claim
import GoSem.ClaimJoined
import GoSem.ClaimMapViews
import Derived.JoinedTies
import Derived.KernelRfl
namespace Go.Proofs.Qxb6603935a
/- THE CELL 'sum', in the pinned program and in every row, IS THE sha256 OF THE DUMP (.gsa) THAT Qxb6603935aProg.lean LOADS. Nothing in Lean hashes anything: it is a label: what it is worth is what the hold of that sum in a sandbox is worth. -/
noncomputable def Try.pinned : Pinned := { name := "qxb6603935a", sum := "39e0091707f3b80f46c06a32070986ae97ba48f2cc817b235dd0d30f09c2de06", checked := Try.checked }
namespace Rows
def none {H : Type} : Left H := { results := [], args := [] }

/-- 'zzlaws_internal_ir_b1.FnNameHasPrefixMatchesSpelledModel': WHATEVER THE INPUT: true; the input reads as it did. -/
def fnNameHasPrefixMatchesSpelledModelSpec : ChangeSpec := { name := "fnNameHasPrefixMatchesSpelledModel", fn := fun _ => fun
  | [d1, d2, d3] => { results := [.lit (.bool true)], args := [d1, d2, d3] }
  | _ => none }
def fnNameHasPrefixMatchesSpelledModelRow : OpenClaim := { program := "qxb6603935a", sum := "39e0091707f3b80f46c06a32070986ae97ba48f2cc817b235dd0d30f09c2de06", func := "example.com/taintrunnel/taintrunnel/zzlaws_internal_ir_b1.FnNameHasPrefixMatchesSpelledModel", spec := "fnNameHasPrefixMatchesSpelledModel", apart := false }
def FnNameHasPrefixMatchesSpelledModelSaid : Prop := fnNameHasPrefixMatchesSpelledModelRow.holds Try.pinned (OpenSpec.ofChange fnNameHasPrefixMatchesSpelledModelSpec)

/-- ITS FALSE NEIGHBOUR: 'it returns false'. Refute it at one input. -/
def fnNameHasPrefixMatchesSpelledModelWrong : ChangeSpec := { name := "fnNameHasPrefixMatchesSpelledModel", fn := fun _ => fun
  | [d1, d2, d3] => { results := [.lit (.bool false)], args := [d1, d2, d3] }
  | _ => none }
def FnNameHasPrefixMatchesSpelledModelWrongFalsely : Prop := fnNameHasPrefixMatchesSpelledModelRow.holds Try.pinned (OpenSpec.ofChange fnNameHasPrefixMatchesSpelledModelWrong)

/-- 'zzlaws_internal_ir_b1.FnNameAddSpellsConcatenation': WHATEVER THE INPUT: true; the input reads as it did. -/
def fnNameAddSpellsConcatenationSpec : ChangeSpec := { name := "fnNameAddSpellsConcatenation", fn := fun _ => fun
  | [d1, d2, d3, d4] => { results := [.lit (.bool true)], args := [d1, d2, d3, d4] }
  | _ => none }
def fnNameAddSpellsConcatenationRow : OpenClaim := { program := "qxb6603935a", sum := "39e0091707f3b80f46c06a32070986ae97ba48f2cc817b235dd0d30f09c2de06", func := "example.com/taintrunnel/taintrunnel/zzlaws_internal_ir_b1.FnNameAddSpellsConcatenation", spec := "fnNameAddSpellsConcatenation", apart := false }
def FnNameAddSpellsConcatenationSaid : Prop := fnNameAddSpellsConcatenationRow.holds Try.pinned (OpenSpec.ofChange fnNameAddSpellsConcatenationSpec)

/-- ITS FALSE NEIGHBOUR: 'it returns false'. Refute it at one input. -/
def fnNameAddSpellsConcatenationWrong : ChangeSpec := { name := "fnNameAddSpellsConcatenation", fn := fun _ => fun
  | [d1, d2, d3, d4] => { results := [.lit (.bool false)], args := [d1, d2, d3, d4] }
  | _ => none }
def FnNameAddSpellsConcatenationWrongFalsely : Prop := fnNameAddSpellsConcatenationRow.holds Try.pinned (OpenSpec.ofChange fnNameAddSpellsConcatenationWrong)

/-- 'zzlaws_internal_ir_b1.FnNameAddLeavesReceiverAndBranchesApart': WHATEVER THE INPUT: true; the input reads as it did. -/
def fnNameAddLeavesReceiverAndBranchesApartSpec : ChangeSpec := { name := "fnNameAddLeavesReceiverAndBranchesApart", fn := fun _ => fun
  | [d1, d2, d3, d4] => { results := [.lit (.bool true)], args := [d1, d2, d3, d4] }
  | _ => none }
def fnNameAddLeavesReceiverAndBranchesApartRow : OpenClaim := { program := "qxb6603935a", sum := "39e0091707f3b80f46c06a32070986ae97ba48f2cc817b235dd0d30f09c2de06", func := "example.com/taintrunnel/taintrunnel/zzlaws_internal_ir_b1.FnNameAddLeavesReceiverAndBranchesApart", spec := "fnNameAddLeavesReceiverAndBranchesApart", apart := false }
def FnNameAddLeavesReceiverAndBranchesApartSaid : Prop := fnNameAddLeavesReceiverAndBranchesApartRow.holds Try.pinned (OpenSpec.ofChange fnNameAddLeavesReceiverAndBranchesApartSpec)

/-- ITS FALSE NEIGHBOUR: 'it returns false'. Refute it at one input. -/
def fnNameAddLeavesReceiverAndBranchesApartWrong : ChangeSpec := { name := "fnNameAddLeavesReceiverAndBranchesApart", fn := fun _ => fun
  | [d1, d2, d3, d4] => { results := [.lit (.bool false)], args := [d1, d2, d3, d4] }
  | _ => none }
def FnNameAddLeavesReceiverAndBranchesApartWrongFalsely : Prop := fnNameAddLeavesReceiverAndBranchesApartRow.holds Try.pinned (OpenSpec.ofChange fnNameAddLeavesReceiverAndBranchesApartWrong)

/-- 'zzlaws_internal_ir_b1.FnNameLinkFindsCoveringTail': WHATEVER THE INPUT: true; the input reads as it did. -/
def fnNameLinkFindsCoveringTailSpec : ChangeSpec := { name := "fnNameLinkFindsCoveringTail", fn := fun _ => fun
  | [d1, d2, d3] => { results := [.lit (.bool true)], args := [d1, d2, d3] }
  | _ => none }
def fnNameLinkFindsCoveringTailRow : OpenClaim := { program := "qxb6603935a", sum := "39e0091707f3b80f46c06a32070986ae97ba48f2cc817b235dd0d30f09c2de06", func := "example.com/taintrunnel/taintrunnel/zzlaws_internal_ir_b1.FnNameLinkFindsCoveringTail", spec := "fnNameLinkFindsCoveringTail", apart := false }
def FnNameLinkFindsCoveringTailSaid : Prop := fnNameLinkFindsCoveringTailRow.holds Try.pinned (OpenSpec.ofChange fnNameLinkFindsCoveringTailSpec)

/-- ITS FALSE NEIGHBOUR: 'it returns false'. Refute it at one input. -/
def fnNameLinkFindsCoveringTailWrong : ChangeSpec := { name := "fnNameLinkFindsCoveringTail", fn := fun _ => fun
  | [d1, d2, d3] => { results := [.lit (.bool false)], args := [d1, d2, d3] }
  | _ => none }
def FnNameLinkFindsCoveringTailWrongFalsely : Prop := fnNameLinkFindsCoveringTailRow.holds Try.pinned (OpenSpec.ofChange fnNameLinkFindsCoveringTailWrong)

end Rows
end Go.Proofs.Qxb6603935a

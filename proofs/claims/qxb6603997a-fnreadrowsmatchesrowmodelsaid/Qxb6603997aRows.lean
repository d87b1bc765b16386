/-
  No cell of these rows narrows 'for every input' (looked for: loops, veiled, ifaces, maps, wideKeys, modest, calm, conditions, laid).
  DERIVED. THE GIVEN ROWS OF THIS SEAT. 2 by the template 'for every input the law returns true; each argument reads behind the call as it read before'; 0 by the template 'total and deterministic' (their statements: Qxb6603997aTotals.lean).
  GIVEN WITH THE SEED: the statements are not yours to turn. If you find one false, say at which input.
  Laid BY PROGRAM, IN A SANDBOX (cutbox-rows.mjs): the forced cells as the released guide's own fill.sh prints them over the translation 5edb02c21feca7ad… (all of the seat's roots in one cut). By AI agents, Wed Nov 11 2026. No macro, syntax, notation, axiom, sorry.
-/
import Derived.Test.Qxb6603997aChecked
import GoSem.Claim
import GoSem.ClaimJoined
import GoSem.ClaimMapViews
import Derived.JoinedTies
import Derived.KernelRfl
namespace Go.Proofs.Qxb6603997a
/- THE CELL 'sum', in the pinned program and in every row, IS THE sha256 OF THE DUMP (.gsa) THAT Qxb6603997aProg.lean LOADS. Nothing in Lean hashes anything: it is a label: what it is worth is what the hold of that sum in a sandbox is worth. -/
noncomputable def Try.pinned : Pinned := { name := "qxb6603997a", sum := "5edb02c21feca7ad2e672db86d84170a2c6b0562f081e694d6f9cb5353087abe", checked := Try.checked }
namespace Rows
def none {H : Type} : Left H := { results := [], args := [] }

/-- 'zzlaws_internal_sqlparse_b1.FnNumberLenIsLongestNumberPrefix': WHATEVER THE INPUT: true; the input reads as it did. -/
def fnNumberLenIsLongestNumberPrefixSpec : ChangeSpec := { name := "fnNumberLenIsLongestNumberPrefix", fn := fun _ => fun
  | [d] => { results := [.lit (.bool true)], args := [d] }
  | _ => none }
def fnNumberLenIsLongestNumberPrefixRow : OpenClaim := { program := "qxb6603997a", sum := "5edb02c21feca7ad2e672db86d84170a2c6b0562f081e694d6f9cb5353087abe", func := "example.com/shardweave/shardweave/zzlaws_internal_sqlparse_b1.FnNumberLenIsLongestNumberPrefix", spec := "fnNumberLenIsLongestNumberPrefix", apart := false }
def FnNumberLenIsLongestNumberPrefixSaid : Prop := fnNumberLenIsLongestNumberPrefixRow.holds Try.pinned (OpenSpec.ofChange fnNumberLenIsLongestNumberPrefixSpec)

/-- ITS FALSE NEIGHBOUR: 'it returns false'. Refute it at one input. -/
def fnNumberLenIsLongestNumberPrefixWrong : ChangeSpec := { name := "fnNumberLenIsLongestNumberPrefix", fn := fun _ => fun
  | [d] => { results := [.lit (.bool false)], args := [d] }
  | _ => none }
def FnNumberLenIsLongestNumberPrefixWrongFalsely : Prop := fnNumberLenIsLongestNumberPrefixRow.holds Try.pinned (OpenSpec.ofChange fnNumberLenIsLongestNumberPrefixWrong)

/-- 'zzlaws_internal_sqlparse_b1.FnReadRowsMatchesRowModel': WHATEVER THE INPUT: true; the input reads as it did. -/
def fnReadRowsMatchesRowModelSpec : ChangeSpec := { name := "fnReadRowsMatchesRowModel", fn := fun _ => fun
  | [d1, d2, d3, d4, d5, d6, d7, d8, d9, d10] => { results := [.lit (.bool true)], args := [d1, d2, d3, d4, d5, d6, d7, d8, d9, d10] }
  | _ => none }
def fnReadRowsMatchesRowModelRow : OpenClaim := { program := "qxb6603997a", sum := "5edb02c21feca7ad2e672db86d84170a2c6b0562f081e694d6f9cb5353087abe", func := "example.com/shardweave/shardweave/zzlaws_internal_sqlparse_b1.FnReadRowsMatchesRowModel", spec := "fnReadRowsMatchesRowModel", apart := false }
def FnReadRowsMatchesRowModelSaid : Prop := fnReadRowsMatchesRowModelRow.holds Try.pinned (OpenSpec.ofChange fnReadRowsMatchesRowModelSpec)

/-- ITS FALSE NEIGHBOUR: 'it returns false'. Refute it at one input. -/
def fnReadRowsMatchesRowModelWrong : ChangeSpec := { name := "fnReadRowsMatchesRowModel", fn := fun _ => fun
  | [d1, d2, d3, d4, d5, d6, d7, d8, d9, d10] => { results := [.lit (.bool false)], args := [d1, d2, d3, d4, d5, d6, d7, d8, d9, d10] }
  | _ => none }
def FnReadRowsMatchesRowModelWrongFalsely : Prop := fnReadRowsMatchesRowModelRow.holds Try.pinned (OpenSpec.ofChange fnReadRowsMatchesRowModelWrong)

end Rows
end Go.Proofs.Qxb6603997a

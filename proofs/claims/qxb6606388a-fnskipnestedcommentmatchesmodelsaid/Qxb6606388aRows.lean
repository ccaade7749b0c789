/-
  No cell of these rows narrows 'for every input' (looked for: loops, veiled, ifaces, maps, wideKeys, modest, calm, conditions, laid).
  DERIVED. THE GIVEN ROWS OF THIS SEAT. 3 by the template 'for every input the law returns true; each argument reads behind the call as it read before'; 0 by the template 'total and deterministic' (their statements: Qxb6606388aTotals.lean).
  GIVEN WITH THE SEED: the statements are not yours to turn. If you find one false, say at which input.
  Laid BY PROGRAM, IN A SANDBOX (cutbox-rows.mjs): the forced cells as the released guide's own fill.sh prints them over the translation f75bc0dd4b4739ff… (all of the seat's roots in one cut). By AI agents, Wed Nov 11 2026. No macro, syntax, notation, axiom, sorry.
-/
import Derived.Test.Qxb6606388aChecked
import GoSem.Claim
import GoSem.ClaimJoined
import GoSem.ClaimMapViews
import Derived.JoinedTies
import Derived.KernelRfl
namespace Go.Proofs.Qxb6606388a
/- THE CELL 'sum', in the pinned program and in every row, IS THE sha256 OF THE DUMP (.gsa) THAT Qxb6606388aProg.lean LOADS. Nothing in Lean hashes anything: it is a label: what it is worth is what the hold of that sum in a sandbox is worth. -/
noncomputable def Try.pinned : Pinned := { name := "qxb6606388a", sum := "f75bc0dd4b4739ffb1264ede8c63db2def08a68e566cfcf09dcd94da25ad1bca", checked := Try.checked }
namespace Rows
def none {H : Type} : Left H := { results := [], args := [] }

/-- 'zzlaws_sqlstore_b1.FnSkipNestedCommentMatchesModel': WHATEVER THE INPUT: true; the input reads as it did. -/
def fnSkipNestedCommentMatchesModelSpec : ChangeSpec := { name := "fnSkipNestedCommentMatchesModel", fn := fun _ => fun
  | [d1, d2] => { results := [.lit (.bool true)], args := [d1, d2] }
  | _ => none }
def fnSkipNestedCommentMatchesModelRow : OpenClaim := { program := "qxb6606388a", sum := "f75bc0dd4b4739ffb1264ede8c63db2def08a68e566cfcf09dcd94da25ad1bca", func := "example.com/ribbonmark/ribbonmark/zzlaws_sqlstore_b1.FnSkipNestedCommentMatchesModel", spec := "fnSkipNestedCommentMatchesModel", recurses := true, apart := false }
def FnSkipNestedCommentMatchesModelSaid : Prop := fnSkipNestedCommentMatchesModelRow.holds Try.pinned (OpenSpec.ofChange fnSkipNestedCommentMatchesModelSpec)

/-- ITS FALSE NEIGHBOUR: 'it returns false'. Refute it at one input. -/
def fnSkipNestedCommentMatchesModelWrong : ChangeSpec := { name := "fnSkipNestedCommentMatchesModel", fn := fun _ => fun
  | [d1, d2] => { results := [.lit (.bool false)], args := [d1, d2] }
  | _ => none }
def FnSkipNestedCommentMatchesModelWrongFalsely : Prop := fnSkipNestedCommentMatchesModelRow.holds Try.pinned (OpenSpec.ofChange fnSkipNestedCommentMatchesModelWrong)

/-- 'zzlaws_sqlstore_b1.FnSkipNestedCommentShift': WHATEVER THE INPUT: true; the input reads as it did. -/
def fnSkipNestedCommentShiftSpec : ChangeSpec := { name := "fnSkipNestedCommentShift", fn := fun _ => fun
  | [d1, d2, d3] => { results := [.lit (.bool true)], args := [d1, d2, d3] }
  | _ => none }
def fnSkipNestedCommentShiftRow : OpenClaim := { program := "qxb6606388a", sum := "f75bc0dd4b4739ffb1264ede8c63db2def08a68e566cfcf09dcd94da25ad1bca", func := "example.com/ribbonmark/ribbonmark/zzlaws_sqlstore_b1.FnSkipNestedCommentShift", spec := "fnSkipNestedCommentShift", apart := false }
def FnSkipNestedCommentShiftSaid : Prop := fnSkipNestedCommentShiftRow.holds Try.pinned (OpenSpec.ofChange fnSkipNestedCommentShiftSpec)

/-- ITS FALSE NEIGHBOUR: 'it returns false'. Refute it at one input. -/
def fnSkipNestedCommentShiftWrong : ChangeSpec := { name := "fnSkipNestedCommentShift", fn := fun _ => fun
  | [d1, d2, d3] => { results := [.lit (.bool false)], args := [d1, d2, d3] }
  | _ => none }
def FnSkipNestedCommentShiftWrongFalsely : Prop := fnSkipNestedCommentShiftRow.holds Try.pinned (OpenSpec.ofChange fnSkipNestedCommentShiftWrong)

/-- 'zzlaws_sqlstore_b1.FnSkipNestedCommentClosedIgnoresWhatFollows': WHATEVER THE INPUT: true; the input reads as it did. -/
def fnSkipNestedCommentClosedIgnoresWhatFollowsSpec : ChangeSpec := { name := "fnSkipNestedCommentClosedIgnoresWhatFollows", fn := fun _ => fun
  | [d1, d2, d3] => { results := [.lit (.bool true)], args := [d1, d2, d3] }
  | _ => none }
def fnSkipNestedCommentClosedIgnoresWhatFollowsRow : OpenClaim := { program := "qxb6606388a", sum := "f75bc0dd4b4739ffb1264ede8c63db2def08a68e566cfcf09dcd94da25ad1bca", func := "example.com/ribbonmark/ribbonmark/zzlaws_sqlstore_b1.FnSkipNestedCommentClosedIgnoresWhatFollows", spec := "fnSkipNestedCommentClosedIgnoresWhatFollows", apart := false }
def FnSkipNestedCommentClosedIgnoresWhatFollowsSaid : Prop := fnSkipNestedCommentClosedIgnoresWhatFollowsRow.holds Try.pinned (OpenSpec.ofChange fnSkipNestedCommentClosedIgnoresWhatFollowsSpec)

/-- ITS FALSE NEIGHBOUR: 'it returns false'. Refute it at one input. -/
def fnSkipNestedCommentClosedIgnoresWhatFollowsWrong : ChangeSpec := { name := "fnSkipNestedCommentClosedIgnoresWhatFollows", fn := fun _ => fun
  | [d1, d2, d3] => { results := [.lit (.bool false)], args := [d1, d2, d3] }
  | _ => none }
def FnSkipNestedCommentClosedIgnoresWhatFollowsWrongFalsely : Prop := fnSkipNestedCommentClosedIgnoresWhatFollowsRow.holds Try.pinned (OpenSpec.ofChange fnSkipNestedCommentClosedIgnoresWhatFollowsWrong)

end Rows
end Go.Proofs.Qxb6606388a

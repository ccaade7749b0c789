/-
  No cell of these rows narrows 'for every input' (looked for: loops, veiled, ifaces, maps, wideKeys, modest, calm, conditions, laid).
  DERIVED. THE GIVEN ROWS OF THIS SEAT. 2 by the template 'for every input the law returns true; each argument reads behind the call as it read before'; 0 by the template 'total and deterministic' (their statements: Qxb6605578aTotals.lean).
  GIVEN WITH THE SEED: the statements are not yours to turn. If you find one false, say at which input.
  Laid BY PROGRAM, IN A SANDBOX (cutbox-rows.mjs): the forced cells as the released guide's own fill.sh prints them over the translation 4e83dcc80a3fe8d5… (all of the seat's roots in one cut). By AI agents, Wed Nov 11 2026. No macro, syntax, notation, axiom, sorry.
-/
import Derived.Test.Qxb6605578aChecked
import GoSem.Claim
import GoSem.ClaimJoined
import GoSem.ClaimMapViews
import Derived.JoinedTies
import Derived.KernelRfl
namespace Go.Proofs.Qxb6605578a
/- THE CELL 'sum', in the pinned program and in every row, IS THE sha256 OF THE DUMP (.gsa) THAT Qxb6605578aProg.lean LOADS. Nothing in Lean hashes anything: it is a label: what it is worth is what the hold of that sum in a sandbox is worth. -/
noncomputable def Try.pinned : Pinned := { name := "qxb6605578a", sum := "4e83dcc80a3fe8d5f16c80ca3dd71db8d8f57a62bc51a429b042820816569167", checked := Try.checked }
namespace Rows
def none {H : Type} : Left H := { results := [], args := [] }

/-- 'zzlaws_internal_jsonobject_b1.FnSkipSpaceStopsAtFirstNonSpace': WHATEVER THE INPUT: true; the input reads as it did. -/
def fnSkipSpaceStopsAtFirstNonSpaceSpec : ChangeSpec := { name := "fnSkipSpaceStopsAtFirstNonSpace", fn := fun _ => fun
  | [d1, d2] => { results := [.lit (.bool true)], args := [d1, d2] }
  | _ => none }
def fnSkipSpaceStopsAtFirstNonSpaceRow : OpenClaim := { program := "qxb6605578a", sum := "4e83dcc80a3fe8d5f16c80ca3dd71db8d8f57a62bc51a429b042820816569167", func := "example.com/holdfast/holdfast/zzlaws_internal_jsonobject_b1.FnSkipSpaceStopsAtFirstNonSpace", spec := "fnSkipSpaceStopsAtFirstNonSpace", apart := false }
def FnSkipSpaceStopsAtFirstNonSpaceSaid : Prop := fnSkipSpaceStopsAtFirstNonSpaceRow.holds Try.pinned (OpenSpec.ofChange fnSkipSpaceStopsAtFirstNonSpaceSpec)

/-- ITS FALSE NEIGHBOUR: 'it returns false'. Refute it at one input. -/
def fnSkipSpaceStopsAtFirstNonSpaceWrong : ChangeSpec := { name := "fnSkipSpaceStopsAtFirstNonSpace", fn := fun _ => fun
  | [d1, d2] => { results := [.lit (.bool false)], args := [d1, d2] }
  | _ => none }
def FnSkipSpaceStopsAtFirstNonSpaceWrongFalsely : Prop := fnSkipSpaceStopsAtFirstNonSpaceRow.holds Try.pinned (OpenSpec.ofChange fnSkipSpaceStopsAtFirstNonSpaceWrong)

/-- 'zzlaws_internal_jsonobject_b1.FnEndsIsSkippedSpaceOrSeparator': WHATEVER THE INPUT: true; the input reads as it did. -/
def fnEndsIsSkippedSpaceOrSeparatorSpec : ChangeSpec := { name := "fnEndsIsSkippedSpaceOrSeparator", fn := fun _ => fun
  | [d] => { results := [.lit (.bool true)], args := [d] }
  | _ => none }
def fnEndsIsSkippedSpaceOrSeparatorRow : OpenClaim := { program := "qxb6605578a", sum := "4e83dcc80a3fe8d5f16c80ca3dd71db8d8f57a62bc51a429b042820816569167", func := "example.com/holdfast/holdfast/zzlaws_internal_jsonobject_b1.FnEndsIsSkippedSpaceOrSeparator", spec := "fnEndsIsSkippedSpaceOrSeparator", apart := false }
def FnEndsIsSkippedSpaceOrSeparatorSaid : Prop := fnEndsIsSkippedSpaceOrSeparatorRow.holds Try.pinned (OpenSpec.ofChange fnEndsIsSkippedSpaceOrSeparatorSpec)

/-- ITS FALSE NEIGHBOUR: 'it returns false'. Refute it at one input. -/
def fnEndsIsSkippedSpaceOrSeparatorWrong : ChangeSpec := { name := "fnEndsIsSkippedSpaceOrSeparator", fn := fun _ => fun
  | [d] => { results := [.lit (.bool false)], args := [d] }
  | _ => none }
def FnEndsIsSkippedSpaceOrSeparatorWrongFalsely : Prop := fnEndsIsSkippedSpaceOrSeparatorRow.holds Try.pinned (OpenSpec.ofChange fnEndsIsSkippedSpaceOrSeparatorWrong)

end Rows
end Go.Proofs.Qxb6605578a

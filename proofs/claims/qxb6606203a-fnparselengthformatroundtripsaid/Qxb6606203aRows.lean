/-
  No cell of these rows narrows 'for every input' (looked for: loops, veiled, ifaces, maps, wideKeys, modest, calm, conditions, laid).
  DERIVED. THE GIVEN ROWS OF THIS SEAT. 4 by the template 'for every input the law returns true; each argument reads behind the call as it read before'; 0 by the template 'total and deterministic' (their statements: Qxb6606203aTotals.lean).
  GIVEN WITH THE SEED: the statements are not yours to turn. If you find one false, say at which input.
  Laid BY PROGRAM, IN A SANDBOX (cutbox-rows.mjs): the forced cells as the released guide's own fill.sh prints them over the translation 10523c1d92f61004… (all of the seat's roots in one cut). By AI agents, Wed Nov 11 2026. No macro, syntax, notation, axiom, sorry.
-/
import Derived.Test.Qxb6606203aChecked
import GoSem.Claim
import GoSem.ClaimJoined
import GoSem.ClaimMapViews
import Derived.JoinedTies
import Derived.KernelRfl
namespace Go.Proofs.Qxb6606203a
/- THE CELL 'sum', in the pinned program and in every row, IS THE sha256 OF THE DUMP (.gsa) THAT Qxb6606203aProg.lean LOADS. Nothing in Lean hashes anything: it is a label: what it is worth is what the hold of that sum in a sandbox is worth. -/
noncomputable def Try.pinned : Pinned := { name := "qxb6606203a", sum := "10523c1d92f6100458898d93c054714d205355769ca11ef6df35f97001914861", checked := Try.checked }
namespace Rows
def none {H : Type} : Left H := { results := [], args := [] }

/-- 'zzlaws_http1_b1.FnHexValueMatchesDigitTable': WHATEVER THE INPUT: true; the input reads as it did. -/
def fnHexValueMatchesDigitTableSpec : ChangeSpec := { name := "fnHexValueMatchesDigitTable", fn := fun _ => fun
  | [d] => { results := [.lit (.bool true)], args := [d] }
  | _ => none }
def fnHexValueMatchesDigitTableRow : OpenClaim := { program := "qxb6606203a", sum := "10523c1d92f6100458898d93c054714d205355769ca11ef6df35f97001914861", func := "example.com/service-circuit-breaker/service-circuit-breaker/zzlaws_http1_b1.FnHexValueMatchesDigitTable", spec := "fnHexValueMatchesDigitTable", apart := false }
def FnHexValueMatchesDigitTableSaid : Prop := fnHexValueMatchesDigitTableRow.holds Try.pinned (OpenSpec.ofChange fnHexValueMatchesDigitTableSpec)

/-- ITS FALSE NEIGHBOUR: 'it returns false'. Refute it at one input. -/
def fnHexValueMatchesDigitTableWrong : ChangeSpec := { name := "fnHexValueMatchesDigitTable", fn := fun _ => fun
  | [d] => { results := [.lit (.bool false)], args := [d] }
  | _ => none }
def FnHexValueMatchesDigitTableWrongFalsely : Prop := fnHexValueMatchesDigitTableRow.holds Try.pinned (OpenSpec.ofChange fnHexValueMatchesDigitTableWrong)

/-- 'zzlaws_http1_b1.FnHexValueDecodesTwoDigitHex': WHATEVER THE INPUT: true; the input reads as it did. -/
def fnHexValueDecodesTwoDigitHexSpec : ChangeSpec := { name := "fnHexValueDecodesTwoDigitHex", fn := fun _ => fun
  | [d1, d2] => { results := [.lit (.bool true)], args := [d1, d2] }
  | _ => none }
def fnHexValueDecodesTwoDigitHexRow : OpenClaim := { program := "qxb6606203a", sum := "10523c1d92f6100458898d93c054714d205355769ca11ef6df35f97001914861", func := "example.com/service-circuit-breaker/service-circuit-breaker/zzlaws_http1_b1.FnHexValueDecodesTwoDigitHex", spec := "fnHexValueDecodesTwoDigitHex", apart := false }
def FnHexValueDecodesTwoDigitHexSaid : Prop := fnHexValueDecodesTwoDigitHexRow.holds Try.pinned (OpenSpec.ofChange fnHexValueDecodesTwoDigitHexSpec)

/-- ITS FALSE NEIGHBOUR: 'it returns false'. Refute it at one input. -/
def fnHexValueDecodesTwoDigitHexWrong : ChangeSpec := { name := "fnHexValueDecodesTwoDigitHex", fn := fun _ => fun
  | [d1, d2] => { results := [.lit (.bool false)], args := [d1, d2] }
  | _ => none }
def FnHexValueDecodesTwoDigitHexWrongFalsely : Prop := fnHexValueDecodesTwoDigitHexRow.holds Try.pinned (OpenSpec.ofChange fnHexValueDecodesTwoDigitHexWrong)

/-- 'zzlaws_http1_b1.FnParseLengthMatchesPlaceValue': WHATEVER THE INPUT: true; the input reads as it did. -/
def fnParseLengthMatchesPlaceValueSpec : ChangeSpec := { name := "fnParseLengthMatchesPlaceValue", fn := fun _ => fun
  | [d] => { results := [.lit (.bool true)], args := [d] }
  | _ => none }
def fnParseLengthMatchesPlaceValueRow : OpenClaim := { program := "qxb6606203a", sum := "10523c1d92f6100458898d93c054714d205355769ca11ef6df35f97001914861", func := "example.com/service-circuit-breaker/service-circuit-breaker/zzlaws_http1_b1.FnParseLengthMatchesPlaceValue", spec := "fnParseLengthMatchesPlaceValue", apart := false }
def FnParseLengthMatchesPlaceValueSaid : Prop := fnParseLengthMatchesPlaceValueRow.holds Try.pinned (OpenSpec.ofChange fnParseLengthMatchesPlaceValueSpec)

/-- ITS FALSE NEIGHBOUR: 'it returns false'. Refute it at one input. -/
def fnParseLengthMatchesPlaceValueWrong : ChangeSpec := { name := "fnParseLengthMatchesPlaceValue", fn := fun _ => fun
  | [d] => { results := [.lit (.bool false)], args := [d] }
  | _ => none }
def FnParseLengthMatchesPlaceValueWrongFalsely : Prop := fnParseLengthMatchesPlaceValueRow.holds Try.pinned (OpenSpec.ofChange fnParseLengthMatchesPlaceValueWrong)

/-- 'zzlaws_http1_b1.FnParseLengthFormatRoundTrip': WHATEVER THE INPUT: true; the input reads as it did. -/
def fnParseLengthFormatRoundTripSpec : ChangeSpec := { name := "fnParseLengthFormatRoundTrip", fn := fun _ => fun
  | [d1, d2] => { results := [.lit (.bool true)], args := [d1, d2] }
  | _ => none }
def fnParseLengthFormatRoundTripRow : OpenClaim := { program := "qxb6606203a", sum := "10523c1d92f6100458898d93c054714d205355769ca11ef6df35f97001914861", func := "example.com/service-circuit-breaker/service-circuit-breaker/zzlaws_http1_b1.FnParseLengthFormatRoundTrip", spec := "fnParseLengthFormatRoundTrip", apart := false }
def FnParseLengthFormatRoundTripSaid : Prop := fnParseLengthFormatRoundTripRow.holds Try.pinned (OpenSpec.ofChange fnParseLengthFormatRoundTripSpec)

/-- ITS FALSE NEIGHBOUR: 'it returns false'. Refute it at one input. -/
def fnParseLengthFormatRoundTripWrong : ChangeSpec := { name := "fnParseLengthFormatRoundTrip", fn := fun _ => fun
  | [d1, d2] => { results := [.lit (.bool false)], args := [d1, d2] }
  | _ => none }
def FnParseLengthFormatRoundTripWrongFalsely : Prop := fnParseLengthFormatRoundTripRow.holds Try.pinned (OpenSpec.ofChange fnParseLengthFormatRoundTripWrong)

end Rows
end Go.Proofs.Qxb6606203a

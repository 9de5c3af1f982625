/-
  No cell of these rows narrows 'for every input' (looked for: loops, veiled, ifaces, maps, wideKeys, modest, calm, conditions, laid).
  DERIVED. THE GIVEN ROWS OF THIS SEAT. 6 by the template 'for every input the law returns true; each argument reads behind the call as it read before'; 0 by the template 'total and deterministic' (their statements: Qxb6600432aTotals.lean).
  GIVEN WITH THE SEED: the statements are not yours to turn. If you find one false, say at which input.
  Laid BY PROGRAM, IN A SANDBOX (cutbox-rows.mjs): the forced cells as the released guide's own fill.sh prints them over the translation 5e6967d2af45ffef… (all of the seat's roots in one cut). By AI agents, Wed Nov 11 2026. No macro, syntax, notation, axiom, sorry.
-/
import Derived.Test.Qxb6600432aChecked
import GoSem.Claim
import GoSem.ClaimJoined
import GoSem.ClaimMapViews
import Derived.JoinedTies
import Derived.KernelRfl
namespace Go.Proofs.Qxb6600432a
/- THE CELL 'sum', in the pinned program and in every row, IS THE sha256 OF THE DUMP (.gsa) THAT Qxb6600432aProg.lean LOADS. Nothing in Lean hashes anything: it is a label: what it is worth is what the hold of that sum in a sandbox is worth. -/
noncomputable def Try.pinned : Pinned := { name := "qxb6600432a", sum := "5e6967d2af45ffefa95abc335927c59707fa767c77d2801c9a2f765f5884e0be", checked := Try.checked }
namespace Rows
def none {H : Type} : Left H := { results := [], args := [] }

/-- 'zzlaws_internal_checkpoint_b1.FnQuotedReadsEncodedStringAndLeavesTail': WHATEVER THE INPUT: true; the input reads as it did. -/
def fnQuotedReadsEncodedStringAndLeavesTailSpec : ChangeSpec := { name := "fnQuotedReadsEncodedStringAndLeavesTail", fn := fun _ => fun
  | [d1, d2, d3] => { results := [.lit (.bool true)], args := [d1, d2, d3] }
  | _ => none }
def fnQuotedReadsEncodedStringAndLeavesTailRow : OpenClaim := { program := "qxb6600432a", sum := "5e6967d2af45ffefa95abc335927c59707fa767c77d2801c9a2f765f5884e0be", func := "example.com/cairn/cairn/zzlaws_internal_checkpoint_b1.FnQuotedReadsEncodedStringAndLeavesTail", spec := "fnQuotedReadsEncodedStringAndLeavesTail", apart := false }
def FnQuotedReadsEncodedStringAndLeavesTailSaid : Prop := fnQuotedReadsEncodedStringAndLeavesTailRow.holds Try.pinned (OpenSpec.ofChange fnQuotedReadsEncodedStringAndLeavesTailSpec)

/-- ITS FALSE NEIGHBOUR: 'it returns false'. Refute it at one input. -/
def fnQuotedReadsEncodedStringAndLeavesTailWrong : ChangeSpec := { name := "fnQuotedReadsEncodedStringAndLeavesTail", fn := fun _ => fun
  | [d1, d2, d3] => { results := [.lit (.bool false)], args := [d1, d2, d3] }
  | _ => none }
def FnQuotedReadsEncodedStringAndLeavesTailWrongFalsely : Prop := fnQuotedReadsEncodedStringAndLeavesTailRow.holds Try.pinned (OpenSpec.ofChange fnQuotedReadsEncodedStringAndLeavesTailWrong)

/-- 'zzlaws_internal_checkpoint_b1.FnQuotedRefusesUnterminatedString': WHATEVER THE INPUT: true; the input reads as it did. -/
def fnQuotedRefusesUnterminatedStringSpec : ChangeSpec := { name := "fnQuotedRefusesUnterminatedString", fn := fun _ => fun
  | [d1, d2, d3] => { results := [.lit (.bool true)], args := [d1, d2, d3] }
  | _ => none }
def fnQuotedRefusesUnterminatedStringRow : OpenClaim := { program := "qxb6600432a", sum := "5e6967d2af45ffefa95abc335927c59707fa767c77d2801c9a2f765f5884e0be", func := "example.com/cairn/cairn/zzlaws_internal_checkpoint_b1.FnQuotedRefusesUnterminatedString", spec := "fnQuotedRefusesUnterminatedString", apart := false }
def FnQuotedRefusesUnterminatedStringSaid : Prop := fnQuotedRefusesUnterminatedStringRow.holds Try.pinned (OpenSpec.ofChange fnQuotedRefusesUnterminatedStringSpec)

/-- ITS FALSE NEIGHBOUR: 'it returns false'. Refute it at one input. -/
def fnQuotedRefusesUnterminatedStringWrong : ChangeSpec := { name := "fnQuotedRefusesUnterminatedString", fn := fun _ => fun
  | [d1, d2, d3] => { results := [.lit (.bool false)], args := [d1, d2, d3] }
  | _ => none }
def FnQuotedRefusesUnterminatedStringWrongFalsely : Prop := fnQuotedRefusesUnterminatedStringRow.holds Try.pinned (OpenSpec.ofChange fnQuotedRefusesUnterminatedStringWrong)

/-- 'zzlaws_internal_checkpoint_b1.FnQuotedSplitsInputOrLeavesIt': WHATEVER THE INPUT: true; the input reads as it did. -/
def fnQuotedSplitsInputOrLeavesItSpec : ChangeSpec := { name := "fnQuotedSplitsInputOrLeavesIt", fn := fun _ => fun
  | [d1, d2] => { results := [.lit (.bool true)], args := [d1, d2] }
  | _ => none }
def fnQuotedSplitsInputOrLeavesItRow : OpenClaim := { program := "qxb6600432a", sum := "5e6967d2af45ffefa95abc335927c59707fa767c77d2801c9a2f765f5884e0be", func := "example.com/cairn/cairn/zzlaws_internal_checkpoint_b1.FnQuotedSplitsInputOrLeavesIt", spec := "fnQuotedSplitsInputOrLeavesIt", apart := false }
def FnQuotedSplitsInputOrLeavesItSaid : Prop := fnQuotedSplitsInputOrLeavesItRow.holds Try.pinned (OpenSpec.ofChange fnQuotedSplitsInputOrLeavesItSpec)

/-- ITS FALSE NEIGHBOUR: 'it returns false'. Refute it at one input. -/
def fnQuotedSplitsInputOrLeavesItWrong : ChangeSpec := { name := "fnQuotedSplitsInputOrLeavesIt", fn := fun _ => fun
  | [d1, d2] => { results := [.lit (.bool false)], args := [d1, d2] }
  | _ => none }
def FnQuotedSplitsInputOrLeavesItWrongFalsely : Prop := fnQuotedSplitsInputOrLeavesItRow.holds Try.pinned (OpenSpec.ofChange fnQuotedSplitsInputOrLeavesItWrong)

/-- 'zzlaws_internal_checkpoint_b1.FnChangedVariablesIsTheSortedSetOfChangedNames': WHATEVER THE INPUT: true; the input reads as it did. -/
def fnChangedVariablesIsTheSortedSetOfChangedNamesSpec : ChangeSpec := { name := "fnChangedVariablesIsTheSortedSetOfChangedNames", fn := fun _ => fun
  | [d1, d2, d3, d4] => { results := [.lit (.bool true)], args := [d1, d2, d3, d4] }
  | _ => none }
def fnChangedVariablesIsTheSortedSetOfChangedNamesRow : OpenClaim := { program := "qxb6600432a", sum := "5e6967d2af45ffefa95abc335927c59707fa767c77d2801c9a2f765f5884e0be", func := "example.com/cairn/cairn/zzlaws_internal_checkpoint_b1.FnChangedVariablesIsTheSortedSetOfChangedNames", spec := "fnChangedVariablesIsTheSortedSetOfChangedNames", recurses := true, apart := false }
def FnChangedVariablesIsTheSortedSetOfChangedNamesSaid : Prop := fnChangedVariablesIsTheSortedSetOfChangedNamesRow.holds Try.pinned (OpenSpec.ofChange fnChangedVariablesIsTheSortedSetOfChangedNamesSpec)

/-- ITS FALSE NEIGHBOUR: 'it returns false'. Refute it at one input. -/
def fnChangedVariablesIsTheSortedSetOfChangedNamesWrong : ChangeSpec := { name := "fnChangedVariablesIsTheSortedSetOfChangedNames", fn := fun _ => fun
  | [d1, d2, d3, d4] => { results := [.lit (.bool false)], args := [d1, d2, d3, d4] }
  | _ => none }
def FnChangedVariablesIsTheSortedSetOfChangedNamesWrongFalsely : Prop := fnChangedVariablesIsTheSortedSetOfChangedNamesRow.holds Try.pinned (OpenSpec.ofChange fnChangedVariablesIsTheSortedSetOfChangedNamesWrong)

/-- 'zzlaws_internal_checkpoint_b1.FnChangedVariablesIsSymmetric': WHATEVER THE INPUT: true; the input reads as it did. -/
def fnChangedVariablesIsSymmetricSpec : ChangeSpec := { name := "fnChangedVariablesIsSymmetric", fn := fun _ => fun
  | [d1, d2, d3, d4] => { results := [.lit (.bool true)], args := [d1, d2, d3, d4] }
  | _ => none }
def fnChangedVariablesIsSymmetricRow : OpenClaim := { program := "qxb6600432a", sum := "5e6967d2af45ffefa95abc335927c59707fa767c77d2801c9a2f765f5884e0be", func := "example.com/cairn/cairn/zzlaws_internal_checkpoint_b1.FnChangedVariablesIsSymmetric", spec := "fnChangedVariablesIsSymmetric", recurses := true, apart := false }
def FnChangedVariablesIsSymmetricSaid : Prop := fnChangedVariablesIsSymmetricRow.holds Try.pinned (OpenSpec.ofChange fnChangedVariablesIsSymmetricSpec)

/-- ITS FALSE NEIGHBOUR: 'it returns false'. Refute it at one input. -/
def fnChangedVariablesIsSymmetricWrong : ChangeSpec := { name := "fnChangedVariablesIsSymmetric", fn := fun _ => fun
  | [d1, d2, d3, d4] => { results := [.lit (.bool false)], args := [d1, d2, d3, d4] }
  | _ => none }
def FnChangedVariablesIsSymmetricWrongFalsely : Prop := fnChangedVariablesIsSymmetricRow.holds Try.pinned (OpenSpec.ofChange fnChangedVariablesIsSymmetricWrong)

/-- 'zzlaws_internal_checkpoint_b1.FnChangedVariablesSeesNoChangeBetweenEqualMaps': WHATEVER THE INPUT: true; the input reads as it did. -/
def fnChangedVariablesSeesNoChangeBetweenEqualMapsSpec : ChangeSpec := { name := "fnChangedVariablesSeesNoChangeBetweenEqualMaps", fn := fun _ => fun
  | [d1, d2] => { results := [.lit (.bool true)], args := [d1, d2] }
  | _ => none }
def fnChangedVariablesSeesNoChangeBetweenEqualMapsRow : OpenClaim := { program := "qxb6600432a", sum := "5e6967d2af45ffefa95abc335927c59707fa767c77d2801c9a2f765f5884e0be", func := "example.com/cairn/cairn/zzlaws_internal_checkpoint_b1.FnChangedVariablesSeesNoChangeBetweenEqualMaps", spec := "fnChangedVariablesSeesNoChangeBetweenEqualMaps", recurses := true, apart := false }
def FnChangedVariablesSeesNoChangeBetweenEqualMapsSaid : Prop := fnChangedVariablesSeesNoChangeBetweenEqualMapsRow.holds Try.pinned (OpenSpec.ofChange fnChangedVariablesSeesNoChangeBetweenEqualMapsSpec)

/-- ITS FALSE NEIGHBOUR: 'it returns false'. Refute it at one input. -/
def fnChangedVariablesSeesNoChangeBetweenEqualMapsWrong : ChangeSpec := { name := "fnChangedVariablesSeesNoChangeBetweenEqualMaps", fn := fun _ => fun
  | [d1, d2] => { results := [.lit (.bool false)], args := [d1, d2] }
  | _ => none }
def FnChangedVariablesSeesNoChangeBetweenEqualMapsWrongFalsely : Prop := fnChangedVariablesSeesNoChangeBetweenEqualMapsRow.holds Try.pinned (OpenSpec.ofChange fnChangedVariablesSeesNoChangeBetweenEqualMapsWrong)

end Rows
end Go.Proofs.Qxb6600432a

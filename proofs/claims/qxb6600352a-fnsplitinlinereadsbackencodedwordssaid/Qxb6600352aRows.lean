/-
  No cell of these rows narrows 'for every input' (looked for: loops, veiled, ifaces, maps, wideKeys, modest, calm, conditions, laid).
  DERIVED. THE GIVEN ROWS OF THIS SEAT. 7 by the template 'for every input the law returns true; each argument reads behind the call as it read before'; 0 by the template 'total and deterministic' (their statements: Qxb6600352aTotals.lean).
  GIVEN WITH THE SEED: the statements are not yours to turn. If you find one false, say at which input.
  Laid BY PROGRAM, IN A SANDBOX (cutbox-rows.mjs): the forced cells as the released guide's own fill.sh prints them over the translation ffb598a395f2f6ed… (all of the seat's roots in one cut). By AI agents, Wed Nov 11 2026. No macro, syntax, notation, axiom, sorry.
-/
import Derived.Test.Qxb6600352aChecked
import GoSem.Claim
import GoSem.ClaimJoined
import GoSem.ClaimMapViews
import Derived.JoinedTies
import Derived.KernelRfl
namespace Go.Proofs.Qxb6600352a
/- THE CELL 'sum', in the pinned program and in every row, IS THE sha256 OF THE DUMP (.gsa) THAT Qxb6600352aProg.lean LOADS. Nothing in Lean hashes anything: it is a label: what it is worth is what the hold of that sum in a sandbox is worth. -/
noncomputable def Try.pinned : Pinned := { name := "qxb6600352a", sum := "ffb598a395f2f6ed0715e9dee8bc3e470a2044f7381cff794920b1d1dcf0e93d", checked := Try.checked }
namespace Rows
def none {H : Type} : Left H := { results := [], args := [] }

/-- 'zzlaws_internal_resp_b1.FnSplitInlineMatchesModel': WHATEVER THE INPUT: true; the input reads as it did. -/
def fnSplitInlineMatchesModelSpec : ChangeSpec := { name := "fnSplitInlineMatchesModel", fn := fun _ => fun
  | [d] => { results := [.lit (.bool true)], args := [d] }
  | _ => none }
def fnSplitInlineMatchesModelRow : OpenClaim := { program := "qxb6600352a", sum := "ffb598a395f2f6ed0715e9dee8bc3e470a2044f7381cff794920b1d1dcf0e93d", func := "example.com/logtide/logtide/zzlaws_internal_resp_b1.FnSplitInlineMatchesModel", spec := "fnSplitInlineMatchesModel", apart := false }
def FnSplitInlineMatchesModelSaid : Prop := fnSplitInlineMatchesModelRow.holds Try.pinned (OpenSpec.ofChange fnSplitInlineMatchesModelSpec)

/-- ITS FALSE NEIGHBOUR: 'it returns false'. Refute it at one input. -/
def fnSplitInlineMatchesModelWrong : ChangeSpec := { name := "fnSplitInlineMatchesModel", fn := fun _ => fun
  | [d] => { results := [.lit (.bool false)], args := [d] }
  | _ => none }
def FnSplitInlineMatchesModelWrongFalsely : Prop := fnSplitInlineMatchesModelRow.holds Try.pinned (OpenSpec.ofChange fnSplitInlineMatchesModelWrong)

/-- 'zzlaws_internal_resp_b1.FnSplitInlineReadsBackEncodedWords': WHATEVER THE INPUT: true; the input reads as it did. -/
def fnSplitInlineReadsBackEncodedWordsSpec : ChangeSpec := { name := "fnSplitInlineReadsBackEncodedWords", fn := fun _ => fun
  | [d1, d2, d3] => { results := [.lit (.bool true)], args := [d1, d2, d3] }
  | _ => none }
def fnSplitInlineReadsBackEncodedWordsRow : OpenClaim := { program := "qxb6600352a", sum := "ffb598a395f2f6ed0715e9dee8bc3e470a2044f7381cff794920b1d1dcf0e93d", func := "example.com/logtide/logtide/zzlaws_internal_resp_b1.FnSplitInlineReadsBackEncodedWords", spec := "fnSplitInlineReadsBackEncodedWords", apart := false }
def FnSplitInlineReadsBackEncodedWordsSaid : Prop := fnSplitInlineReadsBackEncodedWordsRow.holds Try.pinned (OpenSpec.ofChange fnSplitInlineReadsBackEncodedWordsSpec)

/-- ITS FALSE NEIGHBOUR: 'it returns false'. Refute it at one input. -/
def fnSplitInlineReadsBackEncodedWordsWrong : ChangeSpec := { name := "fnSplitInlineReadsBackEncodedWords", fn := fun _ => fun
  | [d1, d2, d3] => { results := [.lit (.bool false)], args := [d1, d2, d3] }
  | _ => none }
def FnSplitInlineReadsBackEncodedWordsWrongFalsely : Prop := fnSplitInlineReadsBackEncodedWordsRow.holds Try.pinned (OpenSpec.ofChange fnSplitInlineReadsBackEncodedWordsWrong)

/-- 'zzlaws_internal_resp_b1.FnSplitInlineWordsFitTheLine': WHATEVER THE INPUT: true; the input reads as it did. -/
def fnSplitInlineWordsFitTheLineSpec : ChangeSpec := { name := "fnSplitInlineWordsFitTheLine", fn := fun _ => fun
  | [d] => { results := [.lit (.bool true)], args := [d] }
  | _ => none }
def fnSplitInlineWordsFitTheLineRow : OpenClaim := { program := "qxb6600352a", sum := "ffb598a395f2f6ed0715e9dee8bc3e470a2044f7381cff794920b1d1dcf0e93d", func := "example.com/logtide/logtide/zzlaws_internal_resp_b1.FnSplitInlineWordsFitTheLine", spec := "fnSplitInlineWordsFitTheLine", apart := false }
def FnSplitInlineWordsFitTheLineSaid : Prop := fnSplitInlineWordsFitTheLineRow.holds Try.pinned (OpenSpec.ofChange fnSplitInlineWordsFitTheLineSpec)

/-- ITS FALSE NEIGHBOUR: 'it returns false'. Refute it at one input. -/
def fnSplitInlineWordsFitTheLineWrong : ChangeSpec := { name := "fnSplitInlineWordsFitTheLine", fn := fun _ => fun
  | [d] => { results := [.lit (.bool false)], args := [d] }
  | _ => none }
def FnSplitInlineWordsFitTheLineWrongFalsely : Prop := fnSplitInlineWordsFitTheLineRow.holds Try.pinned (OpenSpec.ofChange fnSplitInlineWordsFitTheLineWrong)

/-- 'zzlaws_internal_resp_b1.FnAppendWordMatchesModel': WHATEVER THE INPUT: true; the input reads as it did. -/
def fnAppendWordMatchesModelSpec : ChangeSpec := { name := "fnAppendWordMatchesModel", fn := fun _ => fun
  | [d1, d2, d3] => { results := [.lit (.bool true)], args := [d1, d2, d3] }
  | _ => none }
def fnAppendWordMatchesModelRow : OpenClaim := { program := "qxb6600352a", sum := "ffb598a395f2f6ed0715e9dee8bc3e470a2044f7381cff794920b1d1dcf0e93d", func := "example.com/logtide/logtide/zzlaws_internal_resp_b1.FnAppendWordMatchesModel", spec := "fnAppendWordMatchesModel", apart := false }
def FnAppendWordMatchesModelSaid : Prop := fnAppendWordMatchesModelRow.holds Try.pinned (OpenSpec.ofChange fnAppendWordMatchesModelSpec)

/-- ITS FALSE NEIGHBOUR: 'it returns false'. Refute it at one input. -/
def fnAppendWordMatchesModelWrong : ChangeSpec := { name := "fnAppendWordMatchesModel", fn := fun _ => fun
  | [d1, d2, d3] => { results := [.lit (.bool false)], args := [d1, d2, d3] }
  | _ => none }
def FnAppendWordMatchesModelWrongFalsely : Prop := fnAppendWordMatchesModelRow.holds Try.pinned (OpenSpec.ofChange fnAppendWordMatchesModelWrong)

/-- 'zzlaws_internal_resp_b1.FnAppendWordDecidedByItsOwnBytes': WHATEVER THE INPUT: true; the input reads as it did. -/
def fnAppendWordDecidedByItsOwnBytesSpec : ChangeSpec := { name := "fnAppendWordDecidedByItsOwnBytes", fn := fun _ => fun
  | [d1, d2, d3] => { results := [.lit (.bool true)], args := [d1, d2, d3] }
  | _ => none }
def fnAppendWordDecidedByItsOwnBytesRow : OpenClaim := { program := "qxb6600352a", sum := "ffb598a395f2f6ed0715e9dee8bc3e470a2044f7381cff794920b1d1dcf0e93d", func := "example.com/logtide/logtide/zzlaws_internal_resp_b1.FnAppendWordDecidedByItsOwnBytes", spec := "fnAppendWordDecidedByItsOwnBytes", apart := false }
def FnAppendWordDecidedByItsOwnBytesSaid : Prop := fnAppendWordDecidedByItsOwnBytesRow.holds Try.pinned (OpenSpec.ofChange fnAppendWordDecidedByItsOwnBytesSpec)

/-- ITS FALSE NEIGHBOUR: 'it returns false'. Refute it at one input. -/
def fnAppendWordDecidedByItsOwnBytesWrong : ChangeSpec := { name := "fnAppendWordDecidedByItsOwnBytes", fn := fun _ => fun
  | [d1, d2, d3] => { results := [.lit (.bool false)], args := [d1, d2, d3] }
  | _ => none }
def FnAppendWordDecidedByItsOwnBytesWrongFalsely : Prop := fnAppendWordDecidedByItsOwnBytesRow.holds Try.pinned (OpenSpec.ofChange fnAppendWordDecidedByItsOwnBytesWrong)

/-- 'zzlaws_internal_resp_b1.FnAppendQuotedMatchesModel': WHATEVER THE INPUT: true; the input reads as it did. -/
def fnAppendQuotedMatchesModelSpec : ChangeSpec := { name := "fnAppendQuotedMatchesModel", fn := fun _ => fun
  | [d1, d2, d3, d4] => { results := [.lit (.bool true)], args := [d1, d2, d3, d4] }
  | _ => none }
def fnAppendQuotedMatchesModelRow : OpenClaim := { program := "qxb6600352a", sum := "ffb598a395f2f6ed0715e9dee8bc3e470a2044f7381cff794920b1d1dcf0e93d", func := "example.com/logtide/logtide/zzlaws_internal_resp_b1.FnAppendQuotedMatchesModel", spec := "fnAppendQuotedMatchesModel", apart := false }
def FnAppendQuotedMatchesModelSaid : Prop := fnAppendQuotedMatchesModelRow.holds Try.pinned (OpenSpec.ofChange fnAppendQuotedMatchesModelSpec)

/-- ITS FALSE NEIGHBOUR: 'it returns false'. Refute it at one input. -/
def fnAppendQuotedMatchesModelWrong : ChangeSpec := { name := "fnAppendQuotedMatchesModel", fn := fun _ => fun
  | [d1, d2, d3, d4] => { results := [.lit (.bool false)], args := [d1, d2, d3, d4] }
  | _ => none }
def FnAppendQuotedMatchesModelWrongFalsely : Prop := fnAppendQuotedMatchesModelRow.holds Try.pinned (OpenSpec.ofChange fnAppendQuotedMatchesModelWrong)

/-- 'zzlaws_internal_resp_b1.FnAppendQuotedNeverLengthens': WHATEVER THE INPUT: true; the input reads as it did. -/
def fnAppendQuotedNeverLengthensSpec : ChangeSpec := { name := "fnAppendQuotedNeverLengthens", fn := fun _ => fun
  | [d1, d2, d3, d4] => { results := [.lit (.bool true)], args := [d1, d2, d3, d4] }
  | _ => none }
def fnAppendQuotedNeverLengthensRow : OpenClaim := { program := "qxb6600352a", sum := "ffb598a395f2f6ed0715e9dee8bc3e470a2044f7381cff794920b1d1dcf0e93d", func := "example.com/logtide/logtide/zzlaws_internal_resp_b1.FnAppendQuotedNeverLengthens", spec := "fnAppendQuotedNeverLengthens", apart := false }
def FnAppendQuotedNeverLengthensSaid : Prop := fnAppendQuotedNeverLengthensRow.holds Try.pinned (OpenSpec.ofChange fnAppendQuotedNeverLengthensSpec)

/-- ITS FALSE NEIGHBOUR: 'it returns false'. Refute it at one input. -/
def fnAppendQuotedNeverLengthensWrong : ChangeSpec := { name := "fnAppendQuotedNeverLengthens", fn := fun _ => fun
  | [d1, d2, d3, d4] => { results := [.lit (.bool false)], args := [d1, d2, d3, d4] }
  | _ => none }
def FnAppendQuotedNeverLengthensWrongFalsely : Prop := fnAppendQuotedNeverLengthensRow.holds Try.pinned (OpenSpec.ofChange fnAppendQuotedNeverLengthensWrong)

end Rows
end Go.Proofs.Qxb6600352a

/-
  No cell of these rows narrows 'for every input' (looked for: loops, veiled, ifaces, maps, wideKeys, modest, calm, conditions, laid).
  DERIVED. THE GIVEN ROWS OF THIS SEAT. 7 by the template 'for every input the law returns true; each argument reads behind the call as it read before'; 0 by the template 'total and deterministic' (their statements: Qxb6615727aTotals.lean).
  GIVEN WITH THE SEED: the statements are not yours to turn. If you find one false, say at which input.
  Laid BY PROGRAM, IN A SANDBOX (cutbox-rows.mjs): the forced cells as the released guide's own fill.sh prints them over the translation 73cbe98747c70e5b… (all of the seat's roots in one cut). By AI agents, Wed Nov 11 2026. No macro, syntax, notation, axiom, sorry.
-/
import Derived.Test.Qxb6615727aChecked
import GoSem.Claim
import GoSem.ClaimJoined
import GoSem.ClaimMapViews
import Derived.JoinedTies
import Derived.KernelRfl
namespace Go.Proofs.Qxb6615727a
/- THE CELL 'sum', in the pinned program and in every row, IS THE sha256 OF THE DUMP (.gsa) THAT Qxb6615727aProg.lean LOADS. Nothing in Lean hashes anything: it is a label: what it is worth is what the hold of that sum in a sandbox is worth. -/
noncomputable def Try.pinned : Pinned := { name := "qxb6615727a", sum := "73cbe98747c70e5b21a5c00226cb3b81a37284392905fa11bbb4a7e3a9ee4abe", checked := Try.checked }
namespace Rows
def none {H : Type} : Left H := { results := [], args := [] }

/-- 'zzlaws_internal_manifest_b1.FnRestBlankSpaceBeforeRest': WHATEVER THE INPUT: true; the input reads as it did. -/
def fnRestBlankSpaceBeforeRestSpec : ChangeSpec := { name := "fnRestBlankSpaceBeforeRest", fn := fun _ => fun
  | [d1, d2, d3, d4] => { results := [.lit (.bool true)], args := [d1, d2, d3, d4] }
  | _ => none }
def fnRestBlankSpaceBeforeRestRow : OpenClaim := { program := "qxb6615727a", sum := "73cbe98747c70e5b21a5c00226cb3b81a37284392905fa11bbb4a7e3a9ee4abe", func := "example.com/numaline/numaline/zzlaws_internal_manifest_b1.FnRestBlankSpaceBeforeRest", spec := "fnRestBlankSpaceBeforeRest", apart := false }
def FnRestBlankSpaceBeforeRestSaid : Prop := fnRestBlankSpaceBeforeRestRow.holds Try.pinned (OpenSpec.ofChange fnRestBlankSpaceBeforeRestSpec)

/-- ITS FALSE NEIGHBOUR: 'it returns false'. Refute it at one input. -/
def fnRestBlankSpaceBeforeRestWrong : ChangeSpec := { name := "fnRestBlankSpaceBeforeRest", fn := fun _ => fun
  | [d1, d2, d3, d4] => { results := [.lit (.bool false)], args := [d1, d2, d3, d4] }
  | _ => none }
def FnRestBlankSpaceBeforeRestWrongFalsely : Prop := fnRestBlankSpaceBeforeRestRow.holds Try.pinned (OpenSpec.ofChange fnRestBlankSpaceBeforeRestWrong)

/-- 'zzlaws_internal_manifest_b1.FnRestBlankTextAfterEnd': WHATEVER THE INPUT: true; the input reads as it did. -/
def fnRestBlankTextAfterEndSpec : ChangeSpec := { name := "fnRestBlankTextAfterEnd", fn := fun _ => fun
  | [d1, d2, d3, d4, d5] => { results := [.lit (.bool true)], args := [d1, d2, d3, d4, d5] }
  | _ => none }
def fnRestBlankTextAfterEndRow : OpenClaim := { program := "qxb6615727a", sum := "73cbe98747c70e5b21a5c00226cb3b81a37284392905fa11bbb4a7e3a9ee4abe", func := "example.com/numaline/numaline/zzlaws_internal_manifest_b1.FnRestBlankTextAfterEnd", spec := "fnRestBlankTextAfterEnd", apart := false }
def FnRestBlankTextAfterEndSaid : Prop := fnRestBlankTextAfterEndRow.holds Try.pinned (OpenSpec.ofChange fnRestBlankTextAfterEndSpec)

/-- ITS FALSE NEIGHBOUR: 'it returns false'. Refute it at one input. -/
def fnRestBlankTextAfterEndWrong : ChangeSpec := { name := "fnRestBlankTextAfterEnd", fn := fun _ => fun
  | [d1, d2, d3, d4, d5] => { results := [.lit (.bool false)], args := [d1, d2, d3, d4, d5] }
  | _ => none }
def FnRestBlankTextAfterEndWrongFalsely : Prop := fnRestBlankTextAfterEndRow.holds Try.pinned (OpenSpec.ofChange fnRestBlankTextAfterEndWrong)

/-- 'zzlaws_internal_manifest_b1.FnDocumentStartSpaceAfterMarker': WHATEVER THE INPUT: true; the input reads as it did. -/
def fnDocumentStartSpaceAfterMarkerSpec : ChangeSpec := { name := "fnDocumentStartSpaceAfterMarker", fn := fun _ => fun
  | [d1, d2, d3, d4] => { results := [.lit (.bool true)], args := [d1, d2, d3, d4] }
  | _ => none }
def fnDocumentStartSpaceAfterMarkerRow : OpenClaim := { program := "qxb6615727a", sum := "73cbe98747c70e5b21a5c00226cb3b81a37284392905fa11bbb4a7e3a9ee4abe", func := "example.com/numaline/numaline/zzlaws_internal_manifest_b1.FnDocumentStartSpaceAfterMarker", spec := "fnDocumentStartSpaceAfterMarker", apart := false }
def FnDocumentStartSpaceAfterMarkerSaid : Prop := fnDocumentStartSpaceAfterMarkerRow.holds Try.pinned (OpenSpec.ofChange fnDocumentStartSpaceAfterMarkerSpec)

/-- ITS FALSE NEIGHBOUR: 'it returns false'. Refute it at one input. -/
def fnDocumentStartSpaceAfterMarkerWrong : ChangeSpec := { name := "fnDocumentStartSpaceAfterMarker", fn := fun _ => fun
  | [d1, d2, d3, d4] => { results := [.lit (.bool false)], args := [d1, d2, d3, d4] }
  | _ => none }
def FnDocumentStartSpaceAfterMarkerWrongFalsely : Prop := fnDocumentStartSpaceAfterMarkerRow.holds Try.pinned (OpenSpec.ofChange fnDocumentStartSpaceAfterMarkerWrong)

/-- 'zzlaws_internal_manifest_b1.FnKeyTakenLengthIsACutOff': WHATEVER THE INPUT: true; the input reads as it did. -/
def fnKeyTakenLengthIsACutOffSpec : ChangeSpec := { name := "fnKeyTakenLengthIsACutOff", fn := fun _ => fun
  | [d1, d2, d3, d4] => { results := [.lit (.bool true)], args := [d1, d2, d3, d4] }
  | _ => none }
def fnKeyTakenLengthIsACutOffRow : OpenClaim := { program := "qxb6615727a", sum := "73cbe98747c70e5b21a5c00226cb3b81a37284392905fa11bbb4a7e3a9ee4abe", func := "example.com/numaline/numaline/zzlaws_internal_manifest_b1.FnKeyTakenLengthIsACutOff", spec := "fnKeyTakenLengthIsACutOff", apart := false }
def FnKeyTakenLengthIsACutOffSaid : Prop := fnKeyTakenLengthIsACutOffRow.holds Try.pinned (OpenSpec.ofChange fnKeyTakenLengthIsACutOffSpec)

/-- ITS FALSE NEIGHBOUR: 'it returns false'. Refute it at one input. -/
def fnKeyTakenLengthIsACutOffWrong : ChangeSpec := { name := "fnKeyTakenLengthIsACutOff", fn := fun _ => fun
  | [d1, d2, d3, d4] => { results := [.lit (.bool false)], args := [d1, d2, d3, d4] }
  | _ => none }
def FnKeyTakenLengthIsACutOffWrongFalsely : Prop := fnKeyTakenLengthIsACutOffRow.holds Try.pinned (OpenSpec.ofChange fnKeyTakenLengthIsACutOffWrong)

/-- 'zzlaws_internal_manifest_b1.FnKeyTakenPlainAndQuotedDifferAtNulls': WHATEVER THE INPUT: true; the input reads as it did. -/
def fnKeyTakenPlainAndQuotedDifferAtNullsSpec : ChangeSpec := { name := "fnKeyTakenPlainAndQuotedDifferAtNulls", fn := fun _ => fun
  | [d1, d2] => { results := [.lit (.bool true)], args := [d1, d2] }
  | _ => none }
def fnKeyTakenPlainAndQuotedDifferAtNullsRow : OpenClaim := { program := "qxb6615727a", sum := "73cbe98747c70e5b21a5c00226cb3b81a37284392905fa11bbb4a7e3a9ee4abe", func := "example.com/numaline/numaline/zzlaws_internal_manifest_b1.FnKeyTakenPlainAndQuotedDifferAtNulls", spec := "fnKeyTakenPlainAndQuotedDifferAtNulls", apart := false }
def FnKeyTakenPlainAndQuotedDifferAtNullsSaid : Prop := fnKeyTakenPlainAndQuotedDifferAtNullsRow.holds Try.pinned (OpenSpec.ofChange fnKeyTakenPlainAndQuotedDifferAtNullsSpec)

/-- ITS FALSE NEIGHBOUR: 'it returns false'. Refute it at one input. -/
def fnKeyTakenPlainAndQuotedDifferAtNullsWrong : ChangeSpec := { name := "fnKeyTakenPlainAndQuotedDifferAtNulls", fn := fun _ => fun
  | [d1, d2] => { results := [.lit (.bool false)], args := [d1, d2] }
  | _ => none }
def FnKeyTakenPlainAndQuotedDifferAtNullsWrongFalsely : Prop := fnKeyTakenPlainAndQuotedDifferAtNullsRow.holds Try.pinned (OpenSpec.ofChange fnKeyTakenPlainAndQuotedDifferAtNullsWrong)

/-- 'zzlaws_internal_manifest_b1.FnDoubleQuotedMatchesTwoPassModel': WHATEVER THE INPUT: true; the input reads as it did. -/
def fnDoubleQuotedMatchesTwoPassModelSpec : ChangeSpec := { name := "fnDoubleQuotedMatchesTwoPassModel", fn := fun _ => fun
  | [d1, d2, d3, d4] => { results := [.lit (.bool true)], args := [d1, d2, d3, d4] }
  | _ => none }
def fnDoubleQuotedMatchesTwoPassModelRow : OpenClaim := { program := "qxb6615727a", sum := "73cbe98747c70e5b21a5c00226cb3b81a37284392905fa11bbb4a7e3a9ee4abe", func := "example.com/numaline/numaline/zzlaws_internal_manifest_b1.FnDoubleQuotedMatchesTwoPassModel", spec := "fnDoubleQuotedMatchesTwoPassModel", inPlace := ["internal/abi.NoEscape"], apart := false }
def FnDoubleQuotedMatchesTwoPassModelSaid : Prop := fnDoubleQuotedMatchesTwoPassModelRow.holds Try.pinned (OpenSpec.ofChange fnDoubleQuotedMatchesTwoPassModelSpec)

/-- ITS FALSE NEIGHBOUR: 'it returns false'. Refute it at one input. -/
def fnDoubleQuotedMatchesTwoPassModelWrong : ChangeSpec := { name := "fnDoubleQuotedMatchesTwoPassModel", fn := fun _ => fun
  | [d1, d2, d3, d4] => { results := [.lit (.bool false)], args := [d1, d2, d3, d4] }
  | _ => none }
def FnDoubleQuotedMatchesTwoPassModelWrongFalsely : Prop := fnDoubleQuotedMatchesTwoPassModelRow.holds Try.pinned (OpenSpec.ofChange fnDoubleQuotedMatchesTwoPassModelWrong)

/-- 'zzlaws_internal_manifest_b1.FnDoubleQuotedReadsNoFurtherThanItsQuote': WHATEVER THE INPUT: true; the input reads as it did. -/
def fnDoubleQuotedReadsNoFurtherThanItsQuoteSpec : ChangeSpec := { name := "fnDoubleQuotedReadsNoFurtherThanItsQuote", fn := fun _ => fun
  | [d1, d2, d3, d4] => { results := [.lit (.bool true)], args := [d1, d2, d3, d4] }
  | _ => none }
def fnDoubleQuotedReadsNoFurtherThanItsQuoteRow : OpenClaim := { program := "qxb6615727a", sum := "73cbe98747c70e5b21a5c00226cb3b81a37284392905fa11bbb4a7e3a9ee4abe", func := "example.com/numaline/numaline/zzlaws_internal_manifest_b1.FnDoubleQuotedReadsNoFurtherThanItsQuote", spec := "fnDoubleQuotedReadsNoFurtherThanItsQuote", inPlace := ["internal/abi.NoEscape"], apart := false }
def FnDoubleQuotedReadsNoFurtherThanItsQuoteSaid : Prop := fnDoubleQuotedReadsNoFurtherThanItsQuoteRow.holds Try.pinned (OpenSpec.ofChange fnDoubleQuotedReadsNoFurtherThanItsQuoteSpec)

/-- ITS FALSE NEIGHBOUR: 'it returns false'. Refute it at one input. -/
def fnDoubleQuotedReadsNoFurtherThanItsQuoteWrong : ChangeSpec := { name := "fnDoubleQuotedReadsNoFurtherThanItsQuote", fn := fun _ => fun
  | [d1, d2, d3, d4] => { results := [.lit (.bool false)], args := [d1, d2, d3, d4] }
  | _ => none }
def FnDoubleQuotedReadsNoFurtherThanItsQuoteWrongFalsely : Prop := fnDoubleQuotedReadsNoFurtherThanItsQuoteRow.holds Try.pinned (OpenSpec.ofChange fnDoubleQuotedReadsNoFurtherThanItsQuoteWrong)

end Rows
end Go.Proofs.Qxb6615727a

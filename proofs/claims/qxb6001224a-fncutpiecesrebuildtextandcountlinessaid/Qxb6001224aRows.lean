/-
  No cell of these rows narrows 'for every input' (looked for: loops, veiled, ifaces, maps, wideKeys, modest, calm, conditions, laid).
  DERIVED. THE GIVEN ROWS OF THIS SEAT. 8 by the template 'for every input the law returns true; each argument reads behind the call as it read before'; 0 by the template 'total and deterministic' (their statements: Qxb6001224aTotals.lean).
  GIVEN WITH THE SEED: the statements are not yours to turn. If you find one false, say at which input.
  Laid BY PROGRAM, IN A SANDBOX (cutbox-rows.mjs): the forced cells as the released guide's own fill.sh prints them over the translation 789cad85259aebf5… (all of the seat's roots in one cut). By AI agents, Wed Nov 11 2026. No macro, syntax, notation, axiom, sorry.
-/
import Derived.Test.Qxb6001224aChecked
import GoSem.Claim
import GoSem.ClaimJoined
import GoSem.ClaimMapViews
import Derived.JoinedTies
import Derived.KernelRfl
namespace Go.Proofs.Qxb6001224a
/- THE CELL 'sum', in the pinned program and in every row, IS THE sha256 OF THE DUMP (.gsa) THAT Qxb6001224aProg.lean LOADS. Nothing in Lean hashes anything: it is a label: what it is worth is what the hold of that sum in a sandbox is worth. -/
noncomputable def Try.pinned : Pinned := { name := "qxb6001224a", sum := "789cad85259aebf5d493134d148771c18ff4f75ba3ea3bf5200016c69d981898", checked := Try.checked }
namespace Rows
def none {H : Type} : Left H := { results := [], args := [] }

/-- 'zzlaws_internal_book_b1.FnCutPiecesRebuildTextAndCountLines': WHATEVER THE INPUT: true; the input reads as it did. -/
def fnCutPiecesRebuildTextAndCountLinesSpec : ChangeSpec := { name := "fnCutPiecesRebuildTextAndCountLines", fn := fun _ => fun
  | [d1, d2, d3] => { results := [.lit (.bool true)], args := [d1, d2, d3] }
  | _ => none }
def fnCutPiecesRebuildTextAndCountLinesRow : OpenClaim := { program := "qxb6001224a", sum := "789cad85259aebf5d493134d148771c18ff4f75ba3ea3bf5200016c69d981898", func := "example.com/stopout/stopout/zzlaws_internal_book_b1.FnCutPiecesRebuildTextAndCountLines", spec := "fnCutPiecesRebuildTextAndCountLines", inPlace := ["internal/bytealg.CountString", "internal/bytealg.IndexByteString", "internal/bytealg.IndexString"], named := ["internal/bytealg.MaxLen"], apart := false }
def FnCutPiecesRebuildTextAndCountLinesSaid : Prop := fnCutPiecesRebuildTextAndCountLinesRow.holds Try.pinned (OpenSpec.ofChange fnCutPiecesRebuildTextAndCountLinesSpec)

/-- ITS FALSE NEIGHBOUR: 'it returns false'. Refute it at one input. -/
def fnCutPiecesRebuildTextAndCountLinesWrong : ChangeSpec := { name := "fnCutPiecesRebuildTextAndCountLines", fn := fun _ => fun
  | [d1, d2, d3] => { results := [.lit (.bool false)], args := [d1, d2, d3] }
  | _ => none }
def FnCutPiecesRebuildTextAndCountLinesWrongFalsely : Prop := fnCutPiecesRebuildTextAndCountLinesRow.holds Try.pinned (OpenSpec.ofChange fnCutPiecesRebuildTextAndCountLinesWrong)

/-- 'zzlaws_internal_book_b1.FnCutKeepsWithinPartsAndLeast': WHATEVER THE INPUT: true; the input reads as it did. -/
def fnCutKeepsWithinPartsAndLeastSpec : ChangeSpec := { name := "fnCutKeepsWithinPartsAndLeast", fn := fun _ => fun
  | [d1, d2, d3] => { results := [.lit (.bool true)], args := [d1, d2, d3] }
  | _ => none }
def fnCutKeepsWithinPartsAndLeastRow : OpenClaim := { program := "qxb6001224a", sum := "789cad85259aebf5d493134d148771c18ff4f75ba3ea3bf5200016c69d981898", func := "example.com/stopout/stopout/zzlaws_internal_book_b1.FnCutKeepsWithinPartsAndLeast", spec := "fnCutKeepsWithinPartsAndLeast", inPlace := ["internal/bytealg.CountString", "internal/bytealg.IndexByteString", "internal/bytealg.IndexString"], named := ["internal/bytealg.MaxLen"], apart := false }
def FnCutKeepsWithinPartsAndLeastSaid : Prop := fnCutKeepsWithinPartsAndLeastRow.holds Try.pinned (OpenSpec.ofChange fnCutKeepsWithinPartsAndLeastSpec)

/-- ITS FALSE NEIGHBOUR: 'it returns false'. Refute it at one input. -/
def fnCutKeepsWithinPartsAndLeastWrong : ChangeSpec := { name := "fnCutKeepsWithinPartsAndLeast", fn := fun _ => fun
  | [d1, d2, d3] => { results := [.lit (.bool false)], args := [d1, d2, d3] }
  | _ => none }
def FnCutKeepsWithinPartsAndLeastWrongFalsely : Prop := fnCutKeepsWithinPartsAndLeastRow.holds Try.pinned (OpenSpec.ofChange fnCutKeepsWithinPartsAndLeastWrong)

/-- 'zzlaws_internal_book_b1.FnCutCutsOnlyAtRecordEnds': WHATEVER THE INPUT: true; the input reads as it did. -/
def fnCutCutsOnlyAtRecordEndsSpec : ChangeSpec := { name := "fnCutCutsOnlyAtRecordEnds", fn := fun _ => fun
  | [d1, d2, d3] => { results := [.lit (.bool true)], args := [d1, d2, d3] }
  | _ => none }
def fnCutCutsOnlyAtRecordEndsRow : OpenClaim := { program := "qxb6001224a", sum := "789cad85259aebf5d493134d148771c18ff4f75ba3ea3bf5200016c69d981898", func := "example.com/stopout/stopout/zzlaws_internal_book_b1.FnCutCutsOnlyAtRecordEnds", spec := "fnCutCutsOnlyAtRecordEnds", inPlace := ["internal/bytealg.CountString", "internal/bytealg.IndexByteString", "internal/bytealg.IndexString"], named := ["internal/bytealg.MaxLen"], apart := false }
def FnCutCutsOnlyAtRecordEndsSaid : Prop := fnCutCutsOnlyAtRecordEndsRow.holds Try.pinned (OpenSpec.ofChange fnCutCutsOnlyAtRecordEndsSpec)

/-- ITS FALSE NEIGHBOUR: 'it returns false'. Refute it at one input. -/
def fnCutCutsOnlyAtRecordEndsWrong : ChangeSpec := { name := "fnCutCutsOnlyAtRecordEnds", fn := fun _ => fun
  | [d1, d2, d3] => { results := [.lit (.bool false)], args := [d1, d2, d3] }
  | _ => none }
def FnCutCutsOnlyAtRecordEndsWrongFalsely : Prop := fnCutCutsOnlyAtRecordEndsRow.holds Try.pinned (OpenSpec.ofChange fnCutCutsOnlyAtRecordEndsWrong)

/-- 'zzlaws_internal_book_b1.FnNumberReadsItsOwnDecimalWithLeadingZeros': WHATEVER THE INPUT: true; the input reads as it did. -/
def fnNumberReadsItsOwnDecimalWithLeadingZerosSpec : ChangeSpec := { name := "fnNumberReadsItsOwnDecimalWithLeadingZeros", fn := fun _ => fun
  | [d1, d2] => { results := [.lit (.bool true)], args := [d1, d2] }
  | _ => none }
def fnNumberReadsItsOwnDecimalWithLeadingZerosRow : OpenClaim := { program := "qxb6001224a", sum := "789cad85259aebf5d493134d148771c18ff4f75ba3ea3bf5200016c69d981898", func := "example.com/stopout/stopout/zzlaws_internal_book_b1.FnNumberReadsItsOwnDecimalWithLeadingZeros", spec := "fnNumberReadsItsOwnDecimalWithLeadingZeros", apart := false }
def FnNumberReadsItsOwnDecimalWithLeadingZerosSaid : Prop := fnNumberReadsItsOwnDecimalWithLeadingZerosRow.holds Try.pinned (OpenSpec.ofChange fnNumberReadsItsOwnDecimalWithLeadingZerosSpec)

/-- ITS FALSE NEIGHBOUR: 'it returns false'. Refute it at one input. -/
def fnNumberReadsItsOwnDecimalWithLeadingZerosWrong : ChangeSpec := { name := "fnNumberReadsItsOwnDecimalWithLeadingZeros", fn := fun _ => fun
  | [d1, d2] => { results := [.lit (.bool false)], args := [d1, d2] }
  | _ => none }
def FnNumberReadsItsOwnDecimalWithLeadingZerosWrongFalsely : Prop := fnNumberReadsItsOwnDecimalWithLeadingZerosRow.holds Try.pinned (OpenSpec.ofChange fnNumberReadsItsOwnDecimalWithLeadingZerosWrong)

/-- 'zzlaws_internal_book_b1.FnNumberAcceptsExactlyNonEmptyDigitRuns': WHATEVER THE INPUT: true; the input reads as it did. -/
def fnNumberAcceptsExactlyNonEmptyDigitRunsSpec : ChangeSpec := { name := "fnNumberAcceptsExactlyNonEmptyDigitRuns", fn := fun _ => fun
  | [d] => { results := [.lit (.bool true)], args := [d] }
  | _ => none }
def fnNumberAcceptsExactlyNonEmptyDigitRunsRow : OpenClaim := { program := "qxb6001224a", sum := "789cad85259aebf5d493134d148771c18ff4f75ba3ea3bf5200016c69d981898", func := "example.com/stopout/stopout/zzlaws_internal_book_b1.FnNumberAcceptsExactlyNonEmptyDigitRuns", spec := "fnNumberAcceptsExactlyNonEmptyDigitRuns", apart := false }
def FnNumberAcceptsExactlyNonEmptyDigitRunsSaid : Prop := fnNumberAcceptsExactlyNonEmptyDigitRunsRow.holds Try.pinned (OpenSpec.ofChange fnNumberAcceptsExactlyNonEmptyDigitRunsSpec)

/-- ITS FALSE NEIGHBOUR: 'it returns false'. Refute it at one input. -/
def fnNumberAcceptsExactlyNonEmptyDigitRunsWrong : ChangeSpec := { name := "fnNumberAcceptsExactlyNonEmptyDigitRuns", fn := fun _ => fun
  | [d] => { results := [.lit (.bool false)], args := [d] }
  | _ => none }
def FnNumberAcceptsExactlyNonEmptyDigitRunsWrongFalsely : Prop := fnNumberAcceptsExactlyNonEmptyDigitRunsRow.holds Try.pinned (OpenSpec.ofChange fnNumberAcceptsExactlyNonEmptyDigitRunsWrong)

/-- 'zzlaws_internal_book_b1.FnNumberOfJoinedDigitRuns': WHATEVER THE INPUT: true; the input reads as it did. -/
def fnNumberOfJoinedDigitRunsSpec : ChangeSpec := { name := "fnNumberOfJoinedDigitRuns", fn := fun _ => fun
  | [d1, d2] => { results := [.lit (.bool true)], args := [d1, d2] }
  | _ => none }
def fnNumberOfJoinedDigitRunsRow : OpenClaim := { program := "qxb6001224a", sum := "789cad85259aebf5d493134d148771c18ff4f75ba3ea3bf5200016c69d981898", func := "example.com/stopout/stopout/zzlaws_internal_book_b1.FnNumberOfJoinedDigitRuns", spec := "fnNumberOfJoinedDigitRuns", apart := false }
def FnNumberOfJoinedDigitRunsSaid : Prop := fnNumberOfJoinedDigitRunsRow.holds Try.pinned (OpenSpec.ofChange fnNumberOfJoinedDigitRunsSpec)

/-- ITS FALSE NEIGHBOUR: 'it returns false'. Refute it at one input. -/
def fnNumberOfJoinedDigitRunsWrong : ChangeSpec := { name := "fnNumberOfJoinedDigitRuns", fn := fun _ => fun
  | [d1, d2] => { results := [.lit (.bool false)], args := [d1, d2] }
  | _ => none }
def FnNumberOfJoinedDigitRunsWrongFalsely : Prop := fnNumberOfJoinedDigitRunsRow.holds Try.pinned (OpenSpec.ofChange fnNumberOfJoinedDigitRunsWrong)

/-- 'zzlaws_internal_book_b1.FnIsSHA256AcceptsLowerHexOfEveryDigest': WHATEVER THE INPUT: true; the input reads as it did. -/
def fnIsSHA256AcceptsLowerHexOfEveryDigestSpec : ChangeSpec := { name := "fnIsSHA256AcceptsLowerHexOfEveryDigest", fn := fun _ => fun
  | [d] => { results := [.lit (.bool true)], args := [d] }
  | _ => none }
def fnIsSHA256AcceptsLowerHexOfEveryDigestRow : OpenClaim := { program := "qxb6001224a", sum := "789cad85259aebf5d493134d148771c18ff4f75ba3ea3bf5200016c69d981898", func := "example.com/stopout/stopout/zzlaws_internal_book_b1.FnIsSHA256AcceptsLowerHexOfEveryDigest", spec := "fnIsSHA256AcceptsLowerHexOfEveryDigest", apart := false }
def FnIsSHA256AcceptsLowerHexOfEveryDigestSaid : Prop := fnIsSHA256AcceptsLowerHexOfEveryDigestRow.holds Try.pinned (OpenSpec.ofChange fnIsSHA256AcceptsLowerHexOfEveryDigestSpec)

/-- ITS FALSE NEIGHBOUR: 'it returns false'. Refute it at one input. -/
def fnIsSHA256AcceptsLowerHexOfEveryDigestWrong : ChangeSpec := { name := "fnIsSHA256AcceptsLowerHexOfEveryDigest", fn := fun _ => fun
  | [d] => { results := [.lit (.bool false)], args := [d] }
  | _ => none }
def FnIsSHA256AcceptsLowerHexOfEveryDigestWrongFalsely : Prop := fnIsSHA256AcceptsLowerHexOfEveryDigestRow.holds Try.pinned (OpenSpec.ofChange fnIsSHA256AcceptsLowerHexOfEveryDigestWrong)

/-- 'zzlaws_internal_book_b1.FnIsSHA256RefusesAForeignByteOrAnotherLength': WHATEVER THE INPUT: true; the input reads as it did. -/
def fnIsSHA256RefusesAForeignByteOrAnotherLengthSpec : ChangeSpec := { name := "fnIsSHA256RefusesAForeignByteOrAnotherLength", fn := fun _ => fun
  | [d1, d2, d3, d4, d5] => { results := [.lit (.bool true)], args := [d1, d2, d3, d4, d5] }
  | _ => none }
def fnIsSHA256RefusesAForeignByteOrAnotherLengthRow : OpenClaim := { program := "qxb6001224a", sum := "789cad85259aebf5d493134d148771c18ff4f75ba3ea3bf5200016c69d981898", func := "example.com/stopout/stopout/zzlaws_internal_book_b1.FnIsSHA256RefusesAForeignByteOrAnotherLength", spec := "fnIsSHA256RefusesAForeignByteOrAnotherLength", apart := false }
def FnIsSHA256RefusesAForeignByteOrAnotherLengthSaid : Prop := fnIsSHA256RefusesAForeignByteOrAnotherLengthRow.holds Try.pinned (OpenSpec.ofChange fnIsSHA256RefusesAForeignByteOrAnotherLengthSpec)

/-- ITS FALSE NEIGHBOUR: 'it returns false'. Refute it at one input. -/
def fnIsSHA256RefusesAForeignByteOrAnotherLengthWrong : ChangeSpec := { name := "fnIsSHA256RefusesAForeignByteOrAnotherLength", fn := fun _ => fun
  | [d1, d2, d3, d4, d5] => { results := [.lit (.bool false)], args := [d1, d2, d3, d4, d5] }
  | _ => none }
def FnIsSHA256RefusesAForeignByteOrAnotherLengthWrongFalsely : Prop := fnIsSHA256RefusesAForeignByteOrAnotherLengthRow.holds Try.pinned (OpenSpec.ofChange fnIsSHA256RefusesAForeignByteOrAnotherLengthWrong)

end Rows
end Go.Proofs.Qxb6001224a

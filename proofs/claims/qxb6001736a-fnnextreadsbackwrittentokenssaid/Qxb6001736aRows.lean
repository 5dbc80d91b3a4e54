/-
  No cell of these rows narrows 'for every input' (looked for: loops, veiled, ifaces, maps, wideKeys, modest, calm, conditions, laid).
  DERIVED. THE GIVEN ROWS OF THIS SEAT. 4 by the template 'for every input the law returns true; each argument reads behind the call as it read before'; 0 by the template 'total and deterministic' (their statements: Qxb6001736aTotals.lean).
  GIVEN WITH THE SEED: the statements are not yours to turn. If you find one false, say at which input.
  Laid BY PROGRAM, IN A SANDBOX (cutbox-rows.mjs): the forced cells as the released guide's own fill.sh prints them over the translation 1fc2e0c12e4e7977… (all of the seat's roots in one cut). By AI agents, Wed Nov 11 2026. No macro, syntax, notation, axiom, sorry.
-/
import Derived.Test.Qxb6001736aChecked
import GoSem.Claim
import GoSem.ClaimJoined
import GoSem.ClaimMapViews
import Derived.JoinedTies
import Derived.KernelRfl
namespace Go.Proofs.Qxb6001736a
/- THE CELL 'sum', in the pinned program and in every row, IS THE sha256 OF THE DUMP (.gsa) THAT Qxb6001736aProg.lean LOADS. Nothing in Lean hashes anything: it is a label: what it is worth is what the hold of that sum in a sandbox is worth. -/
noncomputable def Try.pinned : Pinned := { name := "qxb6001736a", sum := "1fc2e0c12e4e7977f8384ed09f582607f236ef3a7e9ff502fbc1a8c8d740faa6", checked := Try.checked }
namespace Rows
def none {H : Type} : Left H := { results := [], args := [] }

/-- 'zzlaws_pkg_quote_b1.FnNextReadsBackWrittenTokens': WHATEVER THE INPUT: true; the input reads as it did. -/
def fnNextReadsBackWrittenTokensSpec : ChangeSpec := { name := "fnNextReadsBackWrittenTokens", fn := fun _ => fun
  | [d1, d2, d3, d4] => { results := [.lit (.bool true)], args := [d1, d2, d3, d4] }
  | _ => none }
def fnNextReadsBackWrittenTokensRow : OpenClaim := { program := "qxb6001736a", sum := "1fc2e0c12e4e7977f8384ed09f582607f236ef3a7e9ff502fbc1a8c8d740faa6", func := "example.com/ratebook/ratebook/zzlaws_pkg_quote_b1.FnNextReadsBackWrittenTokens", spec := "fnNextReadsBackWrittenTokens", inPlace := ["internal/bytealg.IndexByteString"], apart := false }
def FnNextReadsBackWrittenTokensSaid : Prop := fnNextReadsBackWrittenTokensRow.holds Try.pinned (OpenSpec.ofChange fnNextReadsBackWrittenTokensSpec)

/-- ITS FALSE NEIGHBOUR: 'it returns false'. Refute it at one input. -/
def fnNextReadsBackWrittenTokensWrong : ChangeSpec := { name := "fnNextReadsBackWrittenTokens", fn := fun _ => fun
  | [d1, d2, d3, d4] => { results := [.lit (.bool false)], args := [d1, d2, d3, d4] }
  | _ => none }
def FnNextReadsBackWrittenTokensWrongFalsely : Prop := fnNextReadsBackWrittenTokensRow.holds Try.pinned (OpenSpec.ofChange fnNextReadsBackWrittenTokensWrong)

/-- 'zzlaws_pkg_quote_b1.FnNextIgnoresTextBeforePosition': WHATEVER THE INPUT: true; the input reads as it did. -/
def fnNextIgnoresTextBeforePositionSpec : ChangeSpec := { name := "fnNextIgnoresTextBeforePosition", fn := fun _ => fun
  | [d1, d2, d3, d4, d5] => { results := [.lit (.bool true)], args := [d1, d2, d3, d4, d5] }
  | _ => none }
def fnNextIgnoresTextBeforePositionRow : OpenClaim := { program := "qxb6001736a", sum := "1fc2e0c12e4e7977f8384ed09f582607f236ef3a7e9ff502fbc1a8c8d740faa6", func := "example.com/ratebook/ratebook/zzlaws_pkg_quote_b1.FnNextIgnoresTextBeforePosition", spec := "fnNextIgnoresTextBeforePosition", inPlace := ["internal/bytealg.IndexByteString"], apart := false }
def FnNextIgnoresTextBeforePositionSaid : Prop := fnNextIgnoresTextBeforePositionRow.holds Try.pinned (OpenSpec.ofChange fnNextIgnoresTextBeforePositionSpec)

/-- ITS FALSE NEIGHBOUR: 'it returns false'. Refute it at one input. -/
def fnNextIgnoresTextBeforePositionWrong : ChangeSpec := { name := "fnNextIgnoresTextBeforePosition", fn := fun _ => fun
  | [d1, d2, d3, d4, d5] => { results := [.lit (.bool false)], args := [d1, d2, d3, d4, d5] }
  | _ => none }
def FnNextIgnoresTextBeforePositionWrongFalsely : Prop := fnNextIgnoresTextBeforePositionRow.holds Try.pinned (OpenSpec.ofChange fnNextIgnoresTextBeforePositionWrong)

/-- 'zzlaws_pkg_quote_b1.FnSkipLandsOnFirstNonSeparator': WHATEVER THE INPUT: true; the input reads as it did. -/
def fnSkipLandsOnFirstNonSeparatorSpec : ChangeSpec := { name := "fnSkipLandsOnFirstNonSeparator", fn := fun _ => fun
  | [d1, d2] => { results := [.lit (.bool true)], args := [d1, d2] }
  | _ => none }
def fnSkipLandsOnFirstNonSeparatorRow : OpenClaim := { program := "qxb6001736a", sum := "1fc2e0c12e4e7977f8384ed09f582607f236ef3a7e9ff502fbc1a8c8d740faa6", func := "example.com/ratebook/ratebook/zzlaws_pkg_quote_b1.FnSkipLandsOnFirstNonSeparator", spec := "fnSkipLandsOnFirstNonSeparator", apart := false }
def FnSkipLandsOnFirstNonSeparatorSaid : Prop := fnSkipLandsOnFirstNonSeparatorRow.holds Try.pinned (OpenSpec.ofChange fnSkipLandsOnFirstNonSeparatorSpec)

/-- ITS FALSE NEIGHBOUR: 'it returns false'. Refute it at one input. -/
def fnSkipLandsOnFirstNonSeparatorWrong : ChangeSpec := { name := "fnSkipLandsOnFirstNonSeparator", fn := fun _ => fun
  | [d1, d2] => { results := [.lit (.bool false)], args := [d1, d2] }
  | _ => none }
def FnSkipLandsOnFirstNonSeparatorWrongFalsely : Prop := fnSkipLandsOnFirstNonSeparatorRow.holds Try.pinned (OpenSpec.ofChange fnSkipLandsOnFirstNonSeparatorWrong)

/-- 'zzlaws_pkg_quote_b1.FnPlainReadsBackStringWrittenAsItStands': WHATEVER THE INPUT: true; the input reads as it did. -/
def fnPlainReadsBackStringWrittenAsItStandsSpec : ChangeSpec := { name := "fnPlainReadsBackStringWrittenAsItStands", fn := fun _ => fun
  | [d] => { results := [.lit (.bool true)], args := [d] }
  | _ => none }
def fnPlainReadsBackStringWrittenAsItStandsRow : OpenClaim := { program := "qxb6001736a", sum := "1fc2e0c12e4e7977f8384ed09f582607f236ef3a7e9ff502fbc1a8c8d740faa6", func := "example.com/ratebook/ratebook/zzlaws_pkg_quote_b1.FnPlainReadsBackStringWrittenAsItStands", spec := "fnPlainReadsBackStringWrittenAsItStands", inPlace := ["internal/bytealg.IndexByteString"], apart := false }
def FnPlainReadsBackStringWrittenAsItStandsSaid : Prop := fnPlainReadsBackStringWrittenAsItStandsRow.holds Try.pinned (OpenSpec.ofChange fnPlainReadsBackStringWrittenAsItStandsSpec)

/-- ITS FALSE NEIGHBOUR: 'it returns false'. Refute it at one input. -/
def fnPlainReadsBackStringWrittenAsItStandsWrong : ChangeSpec := { name := "fnPlainReadsBackStringWrittenAsItStands", fn := fun _ => fun
  | [d] => { results := [.lit (.bool false)], args := [d] }
  | _ => none }
def FnPlainReadsBackStringWrittenAsItStandsWrongFalsely : Prop := fnPlainReadsBackStringWrittenAsItStandsRow.holds Try.pinned (OpenSpec.ofChange fnPlainReadsBackStringWrittenAsItStandsWrong)

end Rows
end Go.Proofs.Qxb6001736a

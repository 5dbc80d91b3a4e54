/-
  No cell of these rows narrows 'for every input' (looked for: loops, veiled, ifaces, maps, wideKeys, modest, calm, conditions, laid).
  DERIVED. THE GIVEN ROWS OF THIS SEAT. 6 by the template 'for every input the law returns true; each argument reads behind the call as it read before'; 0 by the template 'total and deterministic' (their statements: Qxb6000982aTotals.lean).
  GIVEN WITH THE SEED: the statements are not yours to turn. If you find one false, say at which input.
  Laid BY PROGRAM, IN A SANDBOX (cutbox-rows.mjs): the forced cells as the released guide's own fill.sh prints them over the translation 7a0e8323c8458b84… (all of the seat's roots in one cut). By AI agents, Wed Nov 11 2026. No macro, syntax, notation, axiom, sorry.
-/
import Derived.Test.Qxb6000982aChecked
import GoSem.Claim
import GoSem.ClaimJoined
import GoSem.ClaimMapViews
import Derived.JoinedTies
import Derived.KernelRfl
namespace Go.Proofs.Qxb6000982a
/- THE CELL 'sum', in the pinned program and in every row, IS THE sha256 OF THE DUMP (.gsa) THAT Qxb6000982aProg.lean LOADS. Nothing in Lean hashes anything: it is a label: what it is worth is what the hold of that sum in a sandbox is worth. -/
noncomputable def Try.pinned : Pinned := { name := "qxb6000982a", sum := "7a0e8323c8458b84212ada105dff21053887b8875a83b73fa977fcb5b2dac2e2", checked := Try.checked }
namespace Rows
def none {H : Type} : Left H := { results := [], args := [] }

/-- 'zzlaws_internal_tools_b1.FnLiteralIndexIsFirstMatch': WHATEVER THE INPUT: true; the input reads as it did. -/
def fnLiteralIndexIsFirstMatchSpec : ChangeSpec := { name := "fnLiteralIndexIsFirstMatch", fn := fun _ => fun
  | [d1, d2, d3, d4] => { results := [.lit (.bool true)], args := [d1, d2, d3, d4] }
  | _ => none }
def fnLiteralIndexIsFirstMatchRow : OpenClaim := { program := "qxb6000982a", sum := "7a0e8323c8458b84212ada105dff21053887b8875a83b73fa977fcb5b2dac2e2", func := "example.com/tillerloop/tillerloop/zzlaws_internal_tools_b1.FnLiteralIndexIsFirstMatch", spec := "fnLiteralIndexIsFirstMatch", inPlace := ["internal/bytealg.IndexByte"], apart := false }
def FnLiteralIndexIsFirstMatchSaid : Prop := fnLiteralIndexIsFirstMatchRow.holds Try.pinned (OpenSpec.ofChange fnLiteralIndexIsFirstMatchSpec)

/-- ITS FALSE NEIGHBOUR: 'it returns false'. Refute it at one input. -/
def fnLiteralIndexIsFirstMatchWrong : ChangeSpec := { name := "fnLiteralIndexIsFirstMatch", fn := fun _ => fun
  | [d1, d2, d3, d4] => { results := [.lit (.bool false)], args := [d1, d2, d3, d4] }
  | _ => none }
def FnLiteralIndexIsFirstMatchWrongFalsely : Prop := fnLiteralIndexIsFirstMatchRow.holds Try.pinned (OpenSpec.ofChange fnLiteralIndexIsFirstMatchWrong)

/-- 'zzlaws_internal_tools_b1.FnLiteralIndexAnchorFree': WHATEVER THE INPUT: true; the input reads as it did. -/
def fnLiteralIndexAnchorFreeSpec : ChangeSpec := { name := "fnLiteralIndexAnchorFree", fn := fun _ => fun
  | [d1, d2, d3, d4, d5] => { results := [.lit (.bool true)], args := [d1, d2, d3, d4, d5] }
  | _ => none }
def fnLiteralIndexAnchorFreeRow : OpenClaim := { program := "qxb6000982a", sum := "7a0e8323c8458b84212ada105dff21053887b8875a83b73fa977fcb5b2dac2e2", func := "example.com/tillerloop/tillerloop/zzlaws_internal_tools_b1.FnLiteralIndexAnchorFree", spec := "fnLiteralIndexAnchorFree", inPlace := ["internal/bytealg.IndexByte"], apart := false }
def FnLiteralIndexAnchorFreeSaid : Prop := fnLiteralIndexAnchorFreeRow.holds Try.pinned (OpenSpec.ofChange fnLiteralIndexAnchorFreeSpec)

/-- ITS FALSE NEIGHBOUR: 'it returns false'. Refute it at one input. -/
def fnLiteralIndexAnchorFreeWrong : ChangeSpec := { name := "fnLiteralIndexAnchorFree", fn := fun _ => fun
  | [d1, d2, d3, d4, d5] => { results := [.lit (.bool false)], args := [d1, d2, d3, d4, d5] }
  | _ => none }
def FnLiteralIndexAnchorFreeWrongFalsely : Prop := fnLiteralIndexAnchorFreeRow.holds Try.pinned (OpenSpec.ofChange fnLiteralIndexAnchorFreeWrong)

/-- 'zzlaws_internal_tools_b1.FnLiteralIndexFoldAgreesWithLowered': WHATEVER THE INPUT: true; the input reads as it did. -/
def fnLiteralIndexFoldAgreesWithLoweredSpec : ChangeSpec := { name := "fnLiteralIndexFoldAgreesWithLowered", fn := fun _ => fun
  | [d1, d2, d3] => { results := [.lit (.bool true)], args := [d1, d2, d3] }
  | _ => none }
def fnLiteralIndexFoldAgreesWithLoweredRow : OpenClaim := { program := "qxb6000982a", sum := "7a0e8323c8458b84212ada105dff21053887b8875a83b73fa977fcb5b2dac2e2", func := "example.com/tillerloop/tillerloop/zzlaws_internal_tools_b1.FnLiteralIndexFoldAgreesWithLowered", spec := "fnLiteralIndexFoldAgreesWithLowered", inPlace := ["internal/bytealg.IndexByte"], apart := false }
def FnLiteralIndexFoldAgreesWithLoweredSaid : Prop := fnLiteralIndexFoldAgreesWithLoweredRow.holds Try.pinned (OpenSpec.ofChange fnLiteralIndexFoldAgreesWithLoweredSpec)

/-- ITS FALSE NEIGHBOUR: 'it returns false'. Refute it at one input. -/
def fnLiteralIndexFoldAgreesWithLoweredWrong : ChangeSpec := { name := "fnLiteralIndexFoldAgreesWithLowered", fn := fun _ => fun
  | [d1, d2, d3] => { results := [.lit (.bool false)], args := [d1, d2, d3] }
  | _ => none }
def FnLiteralIndexFoldAgreesWithLoweredWrongFalsely : Prop := fnLiteralIndexFoldAgreesWithLoweredRow.holds Try.pinned (OpenSpec.ofChange fnLiteralIndexFoldAgreesWithLoweredWrong)

/-- 'zzlaws_internal_tools_b1.FnBetterIsStrict': WHATEVER THE INPUT: true; the input reads as it did. -/
def fnBetterIsStrictSpec : ChangeSpec := { name := "fnBetterIsStrict", fn := fun _ => fun
  | [d1, d2] => { results := [.lit (.bool true)], args := [d1, d2] }
  | _ => none }
def fnBetterIsStrictRow : OpenClaim := { program := "qxb6000982a", sum := "7a0e8323c8458b84212ada105dff21053887b8875a83b73fa977fcb5b2dac2e2", func := "example.com/tillerloop/tillerloop/zzlaws_internal_tools_b1.FnBetterIsStrict", spec := "fnBetterIsStrict", unfollowed := true, recurses := true, apart := false }
def FnBetterIsStrictSaid : Prop := fnBetterIsStrictRow.holds Try.pinned (OpenSpec.ofChange fnBetterIsStrictSpec)

/-- ITS FALSE NEIGHBOUR: 'it returns false'. Refute it at one input. -/
def fnBetterIsStrictWrong : ChangeSpec := { name := "fnBetterIsStrict", fn := fun _ => fun
  | [d1, d2] => { results := [.lit (.bool false)], args := [d1, d2] }
  | _ => none }
def FnBetterIsStrictWrongFalsely : Prop := fnBetterIsStrictRow.holds Try.pinned (OpenSpec.ofChange fnBetterIsStrictWrong)

/-- 'zzlaws_internal_tools_b1.FnBetterIsTransitive': WHATEVER THE INPUT: true; the input reads as it did. -/
def fnBetterIsTransitiveSpec : ChangeSpec := { name := "fnBetterIsTransitive", fn := fun _ => fun
  | [d1, d2, d3] => { results := [.lit (.bool true)], args := [d1, d2, d3] }
  | _ => none }
def fnBetterIsTransitiveRow : OpenClaim := { program := "qxb6000982a", sum := "7a0e8323c8458b84212ada105dff21053887b8875a83b73fa977fcb5b2dac2e2", func := "example.com/tillerloop/tillerloop/zzlaws_internal_tools_b1.FnBetterIsTransitive", spec := "fnBetterIsTransitive", unfollowed := true, recurses := true, apart := false }
def FnBetterIsTransitiveSaid : Prop := fnBetterIsTransitiveRow.holds Try.pinned (OpenSpec.ofChange fnBetterIsTransitiveSpec)

/-- ITS FALSE NEIGHBOUR: 'it returns false'. Refute it at one input. -/
def fnBetterIsTransitiveWrong : ChangeSpec := { name := "fnBetterIsTransitive", fn := fun _ => fun
  | [d1, d2, d3] => { results := [.lit (.bool false)], args := [d1, d2, d3] }
  | _ => none }
def FnBetterIsTransitiveWrongFalsely : Prop := fnBetterIsTransitiveRow.holds Try.pinned (OpenSpec.ofChange fnBetterIsTransitiveWrong)

/-- 'zzlaws_internal_tools_b1.FnBetterTrichotomy': WHATEVER THE INPUT: true; the input reads as it did. -/
def fnBetterTrichotomySpec : ChangeSpec := { name := "fnBetterTrichotomy", fn := fun _ => fun
  | [d1, d2] => { results := [.lit (.bool true)], args := [d1, d2] }
  | _ => none }
def fnBetterTrichotomyRow : OpenClaim := { program := "qxb6000982a", sum := "7a0e8323c8458b84212ada105dff21053887b8875a83b73fa977fcb5b2dac2e2", func := "example.com/tillerloop/tillerloop/zzlaws_internal_tools_b1.FnBetterTrichotomy", spec := "fnBetterTrichotomy", unfollowed := true, recurses := true, apart := false }
def FnBetterTrichotomySaid : Prop := fnBetterTrichotomyRow.holds Try.pinned (OpenSpec.ofChange fnBetterTrichotomySpec)

/-- ITS FALSE NEIGHBOUR: 'it returns false'. Refute it at one input. -/
def fnBetterTrichotomyWrong : ChangeSpec := { name := "fnBetterTrichotomy", fn := fun _ => fun
  | [d1, d2] => { results := [.lit (.bool false)], args := [d1, d2] }
  | _ => none }
def FnBetterTrichotomyWrongFalsely : Prop := fnBetterTrichotomyRow.holds Try.pinned (OpenSpec.ofChange fnBetterTrichotomyWrong)

end Rows
end Go.Proofs.Qxb6000982a

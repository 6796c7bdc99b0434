/-
  No cell of these rows narrows 'for every input' (looked for: loops, veiled, ifaces, maps, wideKeys, modest, calm, conditions, laid).
  DERIVED. THE GIVEN ROWS OF THIS SEAT. 7 by the template 'for every input the law returns true; each argument reads behind the call as it read before'; 0 by the template 'total and deterministic' (their statements: Qxb6000816aTotals.lean).
  GIVEN WITH THE SEED: the statements are not yours to turn. If you find one false, say at which input.
  Laid BY PROGRAM, IN A SANDBOX (cutbox-rows.mjs): the forced cells as the released guide's own fill.sh prints them over the translation 3a3b976537c07795… (all of the seat's roots in one cut). By AI agents, Wed Nov 11 2026. No macro, syntax, notation, axiom, sorry.
-/
import Derived.Test.Qxb6000816aChecked
import GoSem.Claim
import GoSem.ClaimJoined
import GoSem.ClaimMapViews
import Derived.JoinedTies
import Derived.KernelRfl
namespace Go.Proofs.Qxb6000816a
/- THE CELL 'sum', in the pinned program and in every row, IS THE sha256 OF THE DUMP (.gsa) THAT Qxb6000816aProg.lean LOADS. Nothing in Lean hashes anything: it is a label: what it is worth is what the hold of that sum in a sandbox is worth. -/
noncomputable def Try.pinned : Pinned := { name := "qxb6000816a", sum := "3a3b976537c07795dd0bdffdd7738d43f5bda13125f7228915a7ea6d46ea99ed", checked := Try.checked }
namespace Rows
def none {H : Type} : Left H := { results := [], args := [] }

/-- 'zzlaws_internal_config_b1.FnSkipSpaceStopsAtFirstTokenOutsideComments': WHATEVER THE INPUT: true; the input reads as it did. -/
def fnSkipSpaceStopsAtFirstTokenOutsideCommentsSpec : ChangeSpec := { name := "fnSkipSpaceStopsAtFirstTokenOutsideComments", fn := fun _ => fun
  | [d1, d2, d3] => { results := [.lit (.bool true)], args := [d1, d2, d3] }
  | _ => none }
def fnSkipSpaceStopsAtFirstTokenOutsideCommentsRow : OpenClaim := { program := "qxb6000816a", sum := "3a3b976537c07795dd0bdffdd7738d43f5bda13125f7228915a7ea6d46ea99ed", func := "example.com/quittance/quittance/zzlaws_internal_config_b1.FnSkipSpaceStopsAtFirstTokenOutsideComments", spec := "fnSkipSpaceStopsAtFirstTokenOutsideComments", apart := false }
def FnSkipSpaceStopsAtFirstTokenOutsideCommentsSaid : Prop := fnSkipSpaceStopsAtFirstTokenOutsideCommentsRow.holds Try.pinned (OpenSpec.ofChange fnSkipSpaceStopsAtFirstTokenOutsideCommentsSpec)

/-- ITS FALSE NEIGHBOUR: 'it returns false'. Refute it at one input. -/
def fnSkipSpaceStopsAtFirstTokenOutsideCommentsWrong : ChangeSpec := { name := "fnSkipSpaceStopsAtFirstTokenOutsideComments", fn := fun _ => fun
  | [d1, d2, d3] => { results := [.lit (.bool false)], args := [d1, d2, d3] }
  | _ => none }
def FnSkipSpaceStopsAtFirstTokenOutsideCommentsWrongFalsely : Prop := fnSkipSpaceStopsAtFirstTokenOutsideCommentsRow.holds Try.pinned (OpenSpec.ofChange fnSkipSpaceStopsAtFirstTokenOutsideCommentsWrong)

/-- 'zzlaws_internal_config_b1.FnSkipSpaceIdempotent': WHATEVER THE INPUT: true; the input reads as it did. -/
def fnSkipSpaceIdempotentSpec : ChangeSpec := { name := "fnSkipSpaceIdempotent", fn := fun _ => fun
  | [d1, d2, d3] => { results := [.lit (.bool true)], args := [d1, d2, d3] }
  | _ => none }
def fnSkipSpaceIdempotentRow : OpenClaim := { program := "qxb6000816a", sum := "3a3b976537c07795dd0bdffdd7738d43f5bda13125f7228915a7ea6d46ea99ed", func := "example.com/quittance/quittance/zzlaws_internal_config_b1.FnSkipSpaceIdempotent", spec := "fnSkipSpaceIdempotent", apart := false }
def FnSkipSpaceIdempotentSaid : Prop := fnSkipSpaceIdempotentRow.holds Try.pinned (OpenSpec.ofChange fnSkipSpaceIdempotentSpec)

/-- ITS FALSE NEIGHBOUR: 'it returns false'. Refute it at one input. -/
def fnSkipSpaceIdempotentWrong : ChangeSpec := { name := "fnSkipSpaceIdempotent", fn := fun _ => fun
  | [d1, d2, d3] => { results := [.lit (.bool false)], args := [d1, d2, d3] }
  | _ => none }
def FnSkipSpaceIdempotentWrongFalsely : Prop := fnSkipSpaceIdempotentRow.holds Try.pinned (OpenSpec.ofChange fnSkipSpaceIdempotentWrong)

/-- 'zzlaws_internal_config_b1.FnKeyStopsPastKeyAndCountsLines': WHATEVER THE INPUT: true; the input reads as it did. -/
def fnKeyStopsPastKeyAndCountsLinesSpec : ChangeSpec := { name := "fnKeyStopsPastKeyAndCountsLines", fn := fun _ => fun
  | [d1, d2, d3] => { results := [.lit (.bool true)], args := [d1, d2, d3] }
  | _ => none }
def fnKeyStopsPastKeyAndCountsLinesRow : OpenClaim := { program := "qxb6000816a", sum := "3a3b976537c07795dd0bdffdd7738d43f5bda13125f7228915a7ea6d46ea99ed", func := "example.com/quittance/quittance/zzlaws_internal_config_b1.FnKeyStopsPastKeyAndCountsLines", spec := "fnKeyStopsPastKeyAndCountsLines", inPlace := ["internal/abi.NoEscape", "internal/bytealg.MakeNoZero", "internal/bytealg.IndexByteString", "internal/bytealg.IndexString"], named := ["internal/bytealg.MaxLen"], apart := false }
def FnKeyStopsPastKeyAndCountsLinesSaid : Prop := fnKeyStopsPastKeyAndCountsLinesRow.holds Try.pinned (OpenSpec.ofChange fnKeyStopsPastKeyAndCountsLinesSpec)

/-- ITS FALSE NEIGHBOUR: 'it returns false'. Refute it at one input. -/
def fnKeyStopsPastKeyAndCountsLinesWrong : ChangeSpec := { name := "fnKeyStopsPastKeyAndCountsLines", fn := fun _ => fun
  | [d1, d2, d3] => { results := [.lit (.bool false)], args := [d1, d2, d3] }
  | _ => none }
def FnKeyStopsPastKeyAndCountsLinesWrongFalsely : Prop := fnKeyStopsPastKeyAndCountsLinesRow.holds Try.pinned (OpenSpec.ofChange fnKeyStopsPastKeyAndCountsLinesWrong)

/-- 'zzlaws_internal_config_b1.FnKeyReadsDottedKeyUpToEquals': WHATEVER THE INPUT: true; the input reads as it did. -/
def fnKeyReadsDottedKeyUpToEqualsSpec : ChangeSpec := { name := "fnKeyReadsDottedKeyUpToEquals", fn := fun _ => fun
  | [d1, d2, d3, d4] => { results := [.lit (.bool true)], args := [d1, d2, d3, d4] }
  | _ => none }
def fnKeyReadsDottedKeyUpToEqualsRow : OpenClaim := { program := "qxb6000816a", sum := "3a3b976537c07795dd0bdffdd7738d43f5bda13125f7228915a7ea6d46ea99ed", func := "example.com/quittance/quittance/zzlaws_internal_config_b1.FnKeyReadsDottedKeyUpToEquals", spec := "fnKeyReadsDottedKeyUpToEquals", inPlace := ["internal/abi.NoEscape", "internal/bytealg.MakeNoZero", "internal/bytealg.IndexByteString", "internal/bytealg.IndexString"], named := ["internal/bytealg.MaxLen"], apart := false }
def FnKeyReadsDottedKeyUpToEqualsSaid : Prop := fnKeyReadsDottedKeyUpToEqualsRow.holds Try.pinned (OpenSpec.ofChange fnKeyReadsDottedKeyUpToEqualsSpec)

/-- ITS FALSE NEIGHBOUR: 'it returns false'. Refute it at one input. -/
def fnKeyReadsDottedKeyUpToEqualsWrong : ChangeSpec := { name := "fnKeyReadsDottedKeyUpToEquals", fn := fun _ => fun
  | [d1, d2, d3, d4] => { results := [.lit (.bool false)], args := [d1, d2, d3, d4] }
  | _ => none }
def FnKeyReadsDottedKeyUpToEqualsWrongFalsely : Prop := fnKeyReadsDottedKeyUpToEqualsRow.holds Try.pinned (OpenSpec.ofChange fnKeyReadsDottedKeyUpToEqualsWrong)

/-- 'zzlaws_internal_config_b1.FnQuotedReadsEscapedBasicString': WHATEVER THE INPUT: true; the input reads as it did. -/
def fnQuotedReadsEscapedBasicStringSpec : ChangeSpec := { name := "fnQuotedReadsEscapedBasicString", fn := fun _ => fun
  | [d1, d2, d3] => { results := [.lit (.bool true)], args := [d1, d2, d3] }
  | _ => none }
def fnQuotedReadsEscapedBasicStringRow : OpenClaim := { program := "qxb6000816a", sum := "3a3b976537c07795dd0bdffdd7738d43f5bda13125f7228915a7ea6d46ea99ed", func := "example.com/quittance/quittance/zzlaws_internal_config_b1.FnQuotedReadsEscapedBasicString", spec := "fnQuotedReadsEscapedBasicString", inPlace := ["internal/abi.NoEscape", "internal/bytealg.MakeNoZero"], apart := false }
def FnQuotedReadsEscapedBasicStringSaid : Prop := fnQuotedReadsEscapedBasicStringRow.holds Try.pinned (OpenSpec.ofChange fnQuotedReadsEscapedBasicStringSpec)

/-- ITS FALSE NEIGHBOUR: 'it returns false'. Refute it at one input. -/
def fnQuotedReadsEscapedBasicStringWrong : ChangeSpec := { name := "fnQuotedReadsEscapedBasicString", fn := fun _ => fun
  | [d1, d2, d3] => { results := [.lit (.bool false)], args := [d1, d2, d3] }
  | _ => none }
def FnQuotedReadsEscapedBasicStringWrongFalsely : Prop := fnQuotedReadsEscapedBasicStringRow.holds Try.pinned (OpenSpec.ofChange fnQuotedReadsEscapedBasicStringWrong)

/-- 'zzlaws_internal_config_b1.FnQuotedReadsLiteralString': WHATEVER THE INPUT: true; the input reads as it did. -/
def fnQuotedReadsLiteralStringSpec : ChangeSpec := { name := "fnQuotedReadsLiteralString", fn := fun _ => fun
  | [d1, d2, d3, d4] => { results := [.lit (.bool true)], args := [d1, d2, d3, d4] }
  | _ => none }
def fnQuotedReadsLiteralStringRow : OpenClaim := { program := "qxb6000816a", sum := "3a3b976537c07795dd0bdffdd7738d43f5bda13125f7228915a7ea6d46ea99ed", func := "example.com/quittance/quittance/zzlaws_internal_config_b1.FnQuotedReadsLiteralString", spec := "fnQuotedReadsLiteralString", inPlace := ["internal/abi.NoEscape", "internal/bytealg.MakeNoZero"], apart := false }
def FnQuotedReadsLiteralStringSaid : Prop := fnQuotedReadsLiteralStringRow.holds Try.pinned (OpenSpec.ofChange fnQuotedReadsLiteralStringSpec)

/-- ITS FALSE NEIGHBOUR: 'it returns false'. Refute it at one input. -/
def fnQuotedReadsLiteralStringWrong : ChangeSpec := { name := "fnQuotedReadsLiteralString", fn := fun _ => fun
  | [d1, d2, d3, d4] => { results := [.lit (.bool false)], args := [d1, d2, d3, d4] }
  | _ => none }
def FnQuotedReadsLiteralStringWrongFalsely : Prop := fnQuotedReadsLiteralStringRow.holds Try.pinned (OpenSpec.ofChange fnQuotedReadsLiteralStringWrong)

/-- 'zzlaws_internal_config_b1.FnQuotedAdvancesAndCountsLines': WHATEVER THE INPUT: true; the input reads as it did. -/
def fnQuotedAdvancesAndCountsLinesSpec : ChangeSpec := { name := "fnQuotedAdvancesAndCountsLines", fn := fun _ => fun
  | [d1, d2, d3] => { results := [.lit (.bool true)], args := [d1, d2, d3] }
  | _ => none }
def fnQuotedAdvancesAndCountsLinesRow : OpenClaim := { program := "qxb6000816a", sum := "3a3b976537c07795dd0bdffdd7738d43f5bda13125f7228915a7ea6d46ea99ed", func := "example.com/quittance/quittance/zzlaws_internal_config_b1.FnQuotedAdvancesAndCountsLines", spec := "fnQuotedAdvancesAndCountsLines", inPlace := ["internal/abi.NoEscape", "internal/bytealg.MakeNoZero"], apart := false }
def FnQuotedAdvancesAndCountsLinesSaid : Prop := fnQuotedAdvancesAndCountsLinesRow.holds Try.pinned (OpenSpec.ofChange fnQuotedAdvancesAndCountsLinesSpec)

/-- ITS FALSE NEIGHBOUR: 'it returns false'. Refute it at one input. -/
def fnQuotedAdvancesAndCountsLinesWrong : ChangeSpec := { name := "fnQuotedAdvancesAndCountsLines", fn := fun _ => fun
  | [d1, d2, d3] => { results := [.lit (.bool false)], args := [d1, d2, d3] }
  | _ => none }
def FnQuotedAdvancesAndCountsLinesWrongFalsely : Prop := fnQuotedAdvancesAndCountsLinesRow.holds Try.pinned (OpenSpec.ofChange fnQuotedAdvancesAndCountsLinesWrong)

end Rows
end Go.Proofs.Qxb6000816a

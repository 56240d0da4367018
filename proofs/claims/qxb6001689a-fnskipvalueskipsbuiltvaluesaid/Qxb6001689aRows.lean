/-
  No cell of these rows narrows 'for every input' (looked for: loops, veiled, ifaces, maps, wideKeys, modest, calm, conditions, laid).
  DERIVED. THE GIVEN ROWS OF THIS SEAT. 8 by the template 'for every input the law returns true; each argument reads behind the call as it read before'; 0 by the template 'total and deterministic' (their statements: Qxb6001689aTotals.lean).
  GIVEN WITH THE SEED: the statements are not yours to turn. If you find one false, say at which input.
  Laid BY PROGRAM, IN A SANDBOX (cutbox-rows.mjs): the forced cells as the released guide's own fill.sh prints them over the translation 158fab36d8991952… (all of the seat's roots in one cut). By AI agents, Wed Nov 11 2026. No macro, syntax, notation, axiom, sorry.
-/
import Derived.Test.Qxb6001689aChecked
import GoSem.Claim
import GoSem.ClaimJoined
import GoSem.ClaimMapViews
import Derived.JoinedTies
import Derived.KernelRfl
namespace Go.Proofs.Qxb6001689a
/- THE CELL 'sum', in the pinned program and in every row, IS THE sha256 OF THE DUMP (.gsa) THAT Qxb6001689aProg.lean LOADS. Nothing in Lean hashes anything: it is a label: what it is worth is what the hold of that sum in a sandbox is worth. -/
noncomputable def Try.pinned : Pinned := { name := "qxb6001689a", sum := "158fab36d899195293583e4b3a86d9e75884e102fae874e87413fa04615a380e", checked := Try.checked }
namespace Rows
def none {H : Type} : Left H := { results := [], args := [] }

/-- 'zzlaws_root_g1.FnSkipValueReturnsATailAndMoves': WHATEVER THE INPUT: true; the input reads as it did. -/
def fnSkipValueReturnsATailAndMovesSpec : ChangeSpec := { name := "fnSkipValueReturnsATailAndMoves", fn := fun _ => fun
  | [d] => { results := [.lit (.bool true)], args := [d] }
  | _ => none }
def fnSkipValueReturnsATailAndMovesRow : OpenClaim := { program := "qxb6001689a", sum := "158fab36d899195293583e4b3a86d9e75884e102fae874e87413fa04615a380e", func := "example.com/beforehand/beforehand/zzlaws_root_g1.FnSkipValueReturnsATailAndMoves", spec := "fnSkipValueReturnsATailAndMoves", apart := false }
def FnSkipValueReturnsATailAndMovesSaid : Prop := fnSkipValueReturnsATailAndMovesRow.holds Try.pinned (OpenSpec.ofChange fnSkipValueReturnsATailAndMovesSpec)

/-- ITS FALSE NEIGHBOUR: 'it returns false'. Refute it at one input. -/
def fnSkipValueReturnsATailAndMovesWrong : ChangeSpec := { name := "fnSkipValueReturnsATailAndMoves", fn := fun _ => fun
  | [d] => { results := [.lit (.bool false)], args := [d] }
  | _ => none }
def FnSkipValueReturnsATailAndMovesWrongFalsely : Prop := fnSkipValueReturnsATailAndMovesRow.holds Try.pinned (OpenSpec.ofChange fnSkipValueReturnsATailAndMovesWrong)

/-- 'zzlaws_root_g1.FnSkipValueSkipsBuiltValue': WHATEVER THE INPUT: true; the input reads as it did. -/
def fnSkipValueSkipsBuiltValueSpec : ChangeSpec := { name := "fnSkipValueSkipsBuiltValue", fn := fun _ => fun
  | [d1, d2, d3, d4] => { results := [.lit (.bool true)], args := [d1, d2, d3, d4] }
  | _ => none }
def fnSkipValueSkipsBuiltValueRow : OpenClaim := { program := "qxb6001689a", sum := "158fab36d899195293583e4b3a86d9e75884e102fae874e87413fa04615a380e", func := "example.com/beforehand/beforehand/zzlaws_root_g1.FnSkipValueSkipsBuiltValue", spec := "fnSkipValueSkipsBuiltValue", apart := false }
def FnSkipValueSkipsBuiltValueSaid : Prop := fnSkipValueSkipsBuiltValueRow.holds Try.pinned (OpenSpec.ofChange fnSkipValueSkipsBuiltValueSpec)

/-- ITS FALSE NEIGHBOUR: 'it returns false'. Refute it at one input. -/
def fnSkipValueSkipsBuiltValueWrong : ChangeSpec := { name := "fnSkipValueSkipsBuiltValue", fn := fun _ => fun
  | [d1, d2, d3, d4] => { results := [.lit (.bool false)], args := [d1, d2, d3, d4] }
  | _ => none }
def FnSkipValueSkipsBuiltValueWrongFalsely : Prop := fnSkipValueSkipsBuiltValueRow.holds Try.pinned (OpenSpec.ofChange fnSkipValueSkipsBuiltValueWrong)

/-- 'zzlaws_root_g2.FnHex4ReadsWhatWasWritten': WHATEVER THE INPUT: true; the input reads as it did. -/
def fnHex4ReadsWhatWasWrittenSpec : ChangeSpec := { name := "fnHex4ReadsWhatWasWritten", fn := fun _ => fun
  | [d1, d2, d3] => { results := [.lit (.bool true)], args := [d1, d2, d3] }
  | _ => none }
def fnHex4ReadsWhatWasWrittenRow : OpenClaim := { program := "qxb6001689a", sum := "158fab36d899195293583e4b3a86d9e75884e102fae874e87413fa04615a380e", func := "example.com/beforehand/beforehand/zzlaws_root_g2.FnHex4ReadsWhatWasWritten", spec := "fnHex4ReadsWhatWasWritten", apart := false }
def FnHex4ReadsWhatWasWrittenSaid : Prop := fnHex4ReadsWhatWasWrittenRow.holds Try.pinned (OpenSpec.ofChange fnHex4ReadsWhatWasWrittenSpec)

/-- ITS FALSE NEIGHBOUR: 'it returns false'. Refute it at one input. -/
def fnHex4ReadsWhatWasWrittenWrong : ChangeSpec := { name := "fnHex4ReadsWhatWasWritten", fn := fun _ => fun
  | [d1, d2, d3] => { results := [.lit (.bool false)], args := [d1, d2, d3] }
  | _ => none }
def FnHex4ReadsWhatWasWrittenWrongFalsely : Prop := fnHex4ReadsWhatWasWrittenRow.holds Try.pinned (OpenSpec.ofChange fnHex4ReadsWhatWasWrittenWrong)

/-- 'zzlaws_root_g2.FnHex4AcceptsExactlyFourHexDigits': WHATEVER THE INPUT: true; the input reads as it did. -/
def fnHex4AcceptsExactlyFourHexDigitsSpec : ChangeSpec := { name := "fnHex4AcceptsExactlyFourHexDigits", fn := fun _ => fun
  | [d] => { results := [.lit (.bool true)], args := [d] }
  | _ => none }
def fnHex4AcceptsExactlyFourHexDigitsRow : OpenClaim := { program := "qxb6001689a", sum := "158fab36d899195293583e4b3a86d9e75884e102fae874e87413fa04615a380e", func := "example.com/beforehand/beforehand/zzlaws_root_g2.FnHex4AcceptsExactlyFourHexDigits", spec := "fnHex4AcceptsExactlyFourHexDigits", apart := false }
def FnHex4AcceptsExactlyFourHexDigitsSaid : Prop := fnHex4AcceptsExactlyFourHexDigitsRow.holds Try.pinned (OpenSpec.ofChange fnHex4AcceptsExactlyFourHexDigitsSpec)

/-- ITS FALSE NEIGHBOUR: 'it returns false'. Refute it at one input. -/
def fnHex4AcceptsExactlyFourHexDigitsWrong : ChangeSpec := { name := "fnHex4AcceptsExactlyFourHexDigits", fn := fun _ => fun
  | [d] => { results := [.lit (.bool false)], args := [d] }
  | _ => none }
def FnHex4AcceptsExactlyFourHexDigitsWrongFalsely : Prop := fnHex4AcceptsExactlyFourHexDigitsRow.holds Try.pinned (OpenSpec.ofChange fnHex4AcceptsExactlyFourHexDigitsWrong)

/-- 'zzlaws_root_g2.FnPackedRowAfterIsStrictDominance': WHATEVER THE INPUT: true; the input reads as it did. -/
def fnPackedRowAfterIsStrictDominanceSpec : ChangeSpec := { name := "fnPackedRowAfterIsStrictDominance", fn := fun _ => fun
  | [d1, d2, d3] => { results := [.lit (.bool true)], args := [d1, d2, d3] }
  | _ => none }
def fnPackedRowAfterIsStrictDominanceRow : OpenClaim := { program := "qxb6001689a", sum := "158fab36d899195293583e4b3a86d9e75884e102fae874e87413fa04615a380e", func := "example.com/beforehand/beforehand/zzlaws_root_g2.FnPackedRowAfterIsStrictDominance", spec := "fnPackedRowAfterIsStrictDominance", apart := false }
def FnPackedRowAfterIsStrictDominanceSaid : Prop := fnPackedRowAfterIsStrictDominanceRow.holds Try.pinned (OpenSpec.ofChange fnPackedRowAfterIsStrictDominanceSpec)

/-- ITS FALSE NEIGHBOUR: 'it returns false'. Refute it at one input. -/
def fnPackedRowAfterIsStrictDominanceWrong : ChangeSpec := { name := "fnPackedRowAfterIsStrictDominance", fn := fun _ => fun
  | [d1, d2, d3] => { results := [.lit (.bool false)], args := [d1, d2, d3] }
  | _ => none }
def FnPackedRowAfterIsStrictDominanceWrongFalsely : Prop := fnPackedRowAfterIsStrictDominanceRow.holds Try.pinned (OpenSpec.ofChange fnPackedRowAfterIsStrictDominanceWrong)

/-- 'zzlaws_root_g2.FnPackedAfterAllChecksEveryKnownClock': WHATEVER THE INPUT: true; the input reads as it did. -/
def fnPackedAfterAllChecksEveryKnownClockSpec : ChangeSpec := { name := "fnPackedAfterAllChecksEveryKnownClock", fn := fun _ => fun
  | [d1, d2, d3, d4] => { results := [.lit (.bool true)], args := [d1, d2, d3, d4] }
  | _ => none }
def fnPackedAfterAllChecksEveryKnownClockRow : OpenClaim := { program := "qxb6001689a", sum := "158fab36d899195293583e4b3a86d9e75884e102fae874e87413fa04615a380e", func := "example.com/beforehand/beforehand/zzlaws_root_g2.FnPackedAfterAllChecksEveryKnownClock", spec := "fnPackedAfterAllChecksEveryKnownClock", apart := false }
def FnPackedAfterAllChecksEveryKnownClockSaid : Prop := fnPackedAfterAllChecksEveryKnownClockRow.holds Try.pinned (OpenSpec.ofChange fnPackedAfterAllChecksEveryKnownClockSpec)

/-- ITS FALSE NEIGHBOUR: 'it returns false'. Refute it at one input. -/
def fnPackedAfterAllChecksEveryKnownClockWrong : ChangeSpec := { name := "fnPackedAfterAllChecksEveryKnownClock", fn := fun _ => fun
  | [d1, d2, d3, d4] => { results := [.lit (.bool false)], args := [d1, d2, d3, d4] }
  | _ => none }
def FnPackedAfterAllChecksEveryKnownClockWrongFalsely : Prop := fnPackedAfterAllChecksEveryKnownClockRow.holds Try.pinned (OpenSpec.ofChange fnPackedAfterAllChecksEveryKnownClockWrong)

/-- 'zzlaws_clocksync_g1.FnClockFilterBestIsLatestLeastDelay': WHATEVER THE INPUT: true; the input reads as it did. -/
def fnClockFilterBestIsLatestLeastDelaySpec : ChangeSpec := { name := "fnClockFilterBestIsLatestLeastDelay", fn := fun _ => fun
  | [d1, d2, d3, d4] => { results := [.lit (.bool true)], args := [d1, d2, d3, d4] }
  | _ => none }
def fnClockFilterBestIsLatestLeastDelayRow : OpenClaim := { program := "qxb6001689a", sum := "158fab36d899195293583e4b3a86d9e75884e102fae874e87413fa04615a380e", func := "example.com/beforehand/beforehand/zzlaws_clocksync_g1.FnClockFilterBestIsLatestLeastDelay", spec := "fnClockFilterBestIsLatestLeastDelay", apart := false }
def FnClockFilterBestIsLatestLeastDelaySaid : Prop := fnClockFilterBestIsLatestLeastDelayRow.holds Try.pinned (OpenSpec.ofChange fnClockFilterBestIsLatestLeastDelaySpec)

/-- ITS FALSE NEIGHBOUR: 'it returns false'. Refute it at one input. -/
def fnClockFilterBestIsLatestLeastDelayWrong : ChangeSpec := { name := "fnClockFilterBestIsLatestLeastDelay", fn := fun _ => fun
  | [d1, d2, d3, d4] => { results := [.lit (.bool false)], args := [d1, d2, d3, d4] }
  | _ => none }
def FnClockFilterBestIsLatestLeastDelayWrongFalsely : Prop := fnClockFilterBestIsLatestLeastDelayRow.holds Try.pinned (OpenSpec.ofChange fnClockFilterBestIsLatestLeastDelayWrong)

/-- 'zzlaws_root_g2.FnPairsCountsEveryPairOnce': WHATEVER THE INPUT: true; the input reads as it did. -/
def fnPairsCountsEveryPairOnceSpec : ChangeSpec := { name := "fnPairsCountsEveryPairOnce", fn := fun _ => fun
  | [d1, d2] => { results := [.lit (.bool true)], args := [d1, d2] }
  | _ => none }
def fnPairsCountsEveryPairOnceRow : OpenClaim := { program := "qxb6001689a", sum := "158fab36d899195293583e4b3a86d9e75884e102fae874e87413fa04615a380e", func := "example.com/beforehand/beforehand/zzlaws_root_g2.FnPairsCountsEveryPairOnce", spec := "fnPairsCountsEveryPairOnce", apart := false }
def FnPairsCountsEveryPairOnceSaid : Prop := fnPairsCountsEveryPairOnceRow.holds Try.pinned (OpenSpec.ofChange fnPairsCountsEveryPairOnceSpec)

/-- ITS FALSE NEIGHBOUR: 'it returns false'. Refute it at one input. -/
def fnPairsCountsEveryPairOnceWrong : ChangeSpec := { name := "fnPairsCountsEveryPairOnce", fn := fun _ => fun
  | [d1, d2] => { results := [.lit (.bool false)], args := [d1, d2] }
  | _ => none }
def FnPairsCountsEveryPairOnceWrongFalsely : Prop := fnPairsCountsEveryPairOnceRow.holds Try.pinned (OpenSpec.ofChange fnPairsCountsEveryPairOnceWrong)

end Rows
end Go.Proofs.Qxb6001689a

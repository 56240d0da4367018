/-
  No cell of these rows narrows 'for every input' (looked for: loops, veiled, ifaces, maps, wideKeys, modest, calm, conditions, laid).
  DERIVED. THE GIVEN ROWS OF THIS SEAT. 4 by the template 'for every input the law returns true; each argument reads behind the call as it read before'; 0 by the template 'total and deterministic' (their statements: Qxb6603177aTotals.lean).
  GIVEN WITH THE SEED: the statements are not yours to turn. If you find one false, say at which input.
  Laid BY PROGRAM, IN A SANDBOX (cutbox-rows.mjs): the forced cells as the released guide's own fill.sh prints them over the translation a6e06da303319099… (all of the seat's roots in one cut). By AI agents, Wed Nov 11 2026. No macro, syntax, notation, axiom, sorry.
-/
import Derived.Test.Qxb6603177aChecked
import GoSem.Claim
import GoSem.ClaimJoined
import GoSem.ClaimMapViews
import Derived.JoinedTies
import Derived.KernelRfl
namespace Go.Proofs.Qxb6603177a
/- THE CELL 'sum', in the pinned program and in every row, IS THE sha256 OF THE DUMP (.gsa) THAT Qxb6603177aProg.lean LOADS. Nothing in Lean hashes anything: it is a label: what it is worth is what the hold of that sum in a sandbox is worth. -/
noncomputable def Try.pinned : Pinned := { name := "qxb6603177a", sum := "a6e06da30331909917f707e25aab87c56426444f4dea93e3e19735fc7dce97f0", checked := Try.checked }
namespace Rows
def none {H : Type} : Left H := { results := [], args := [] }

/-- 'zzlaws_internal_jsonscan_b1.FnNumberEndMatchesAutomaton': WHATEVER THE INPUT: true; the input reads as it did. -/
def fnNumberEndMatchesAutomatonSpec : ChangeSpec := { name := "fnNumberEndMatchesAutomaton", fn := fun _ => fun
  | [d1, d2] => { results := [.lit (.bool true)], args := [d1, d2] }
  | _ => none }
def fnNumberEndMatchesAutomatonRow : OpenClaim := { program := "qxb6603177a", sum := "a6e06da30331909917f707e25aab87c56426444f4dea93e3e19735fc7dce97f0", func := "example.com/faultline/faultline/zzlaws_internal_jsonscan_b1.FnNumberEndMatchesAutomaton", spec := "fnNumberEndMatchesAutomaton", apart := false }
def FnNumberEndMatchesAutomatonSaid : Prop := fnNumberEndMatchesAutomatonRow.holds Try.pinned (OpenSpec.ofChange fnNumberEndMatchesAutomatonSpec)

/-- ITS FALSE NEIGHBOUR: 'it returns false'. Refute it at one input. -/
def fnNumberEndMatchesAutomatonWrong : ChangeSpec := { name := "fnNumberEndMatchesAutomaton", fn := fun _ => fun
  | [d1, d2] => { results := [.lit (.bool false)], args := [d1, d2] }
  | _ => none }
def FnNumberEndMatchesAutomatonWrongFalsely : Prop := fnNumberEndMatchesAutomatonRow.holds Try.pinned (OpenSpec.ofChange fnNumberEndMatchesAutomatonWrong)

/-- 'zzlaws_internal_jsonscan_b1.FnNumberEndStandsAloneAndShifts': WHATEVER THE INPUT: true; the input reads as it did. -/
def fnNumberEndStandsAloneAndShiftsSpec : ChangeSpec := { name := "fnNumberEndStandsAloneAndShifts", fn := fun _ => fun
  | [d1, d2] => { results := [.lit (.bool true)], args := [d1, d2] }
  | _ => none }
def fnNumberEndStandsAloneAndShiftsRow : OpenClaim := { program := "qxb6603177a", sum := "a6e06da30331909917f707e25aab87c56426444f4dea93e3e19735fc7dce97f0", func := "example.com/faultline/faultline/zzlaws_internal_jsonscan_b1.FnNumberEndStandsAloneAndShifts", spec := "fnNumberEndStandsAloneAndShifts", apart := false }
def FnNumberEndStandsAloneAndShiftsSaid : Prop := fnNumberEndStandsAloneAndShiftsRow.holds Try.pinned (OpenSpec.ofChange fnNumberEndStandsAloneAndShiftsSpec)

/-- ITS FALSE NEIGHBOUR: 'it returns false'. Refute it at one input. -/
def fnNumberEndStandsAloneAndShiftsWrong : ChangeSpec := { name := "fnNumberEndStandsAloneAndShifts", fn := fun _ => fun
  | [d1, d2] => { results := [.lit (.bool false)], args := [d1, d2] }
  | _ => none }
def FnNumberEndStandsAloneAndShiftsWrongFalsely : Prop := fnNumberEndStandsAloneAndShiftsRow.holds Try.pinned (OpenSpec.ofChange fnNumberEndStandsAloneAndShiftsWrong)

/-- 'zzlaws_internal_jsonscan_b1.FnHex4MatchesDigitTable': WHATEVER THE INPUT: true; the input reads as it did. -/
def fnHex4MatchesDigitTableSpec : ChangeSpec := { name := "fnHex4MatchesDigitTable", fn := fun _ => fun
  | [d] => { results := [.lit (.bool true)], args := [d] }
  | _ => none }
def fnHex4MatchesDigitTableRow : OpenClaim := { program := "qxb6603177a", sum := "a6e06da30331909917f707e25aab87c56426444f4dea93e3e19735fc7dce97f0", func := "example.com/faultline/faultline/zzlaws_internal_jsonscan_b1.FnHex4MatchesDigitTable", spec := "fnHex4MatchesDigitTable", apart := false }
def FnHex4MatchesDigitTableSaid : Prop := fnHex4MatchesDigitTableRow.holds Try.pinned (OpenSpec.ofChange fnHex4MatchesDigitTableSpec)

/-- ITS FALSE NEIGHBOUR: 'it returns false'. Refute it at one input. -/
def fnHex4MatchesDigitTableWrong : ChangeSpec := { name := "fnHex4MatchesDigitTable", fn := fun _ => fun
  | [d] => { results := [.lit (.bool false)], args := [d] }
  | _ => none }
def FnHex4MatchesDigitTableWrongFalsely : Prop := fnHex4MatchesDigitTableRow.holds Try.pinned (OpenSpec.ofChange fnHex4MatchesDigitTableWrong)

/-- 'zzlaws_internal_jsonscan_b1.FnHex4ReadsBackFourDigits': WHATEVER THE INPUT: true; the input reads as it did. -/
def fnHex4ReadsBackFourDigitsSpec : ChangeSpec := { name := "fnHex4ReadsBackFourDigits", fn := fun _ => fun
  | [d1, d2, d3] => { results := [.lit (.bool true)], args := [d1, d2, d3] }
  | _ => none }
def fnHex4ReadsBackFourDigitsRow : OpenClaim := { program := "qxb6603177a", sum := "a6e06da30331909917f707e25aab87c56426444f4dea93e3e19735fc7dce97f0", func := "example.com/faultline/faultline/zzlaws_internal_jsonscan_b1.FnHex4ReadsBackFourDigits", spec := "fnHex4ReadsBackFourDigits", apart := false }
def FnHex4ReadsBackFourDigitsSaid : Prop := fnHex4ReadsBackFourDigitsRow.holds Try.pinned (OpenSpec.ofChange fnHex4ReadsBackFourDigitsSpec)

/-- ITS FALSE NEIGHBOUR: 'it returns false'. Refute it at one input. -/
def fnHex4ReadsBackFourDigitsWrong : ChangeSpec := { name := "fnHex4ReadsBackFourDigits", fn := fun _ => fun
  | [d1, d2, d3] => { results := [.lit (.bool false)], args := [d1, d2, d3] }
  | _ => none }
def FnHex4ReadsBackFourDigitsWrongFalsely : Prop := fnHex4ReadsBackFourDigitsRow.holds Try.pinned (OpenSpec.ofChange fnHex4ReadsBackFourDigitsWrong)

end Rows
end Go.Proofs.Qxb6603177a

/-
  No cell of these rows narrows 'for every input' (looked for: loops, veiled, ifaces, maps, wideKeys, modest, calm, conditions, laid).
  DERIVED. THE GIVEN ROWS OF THIS SEAT. 6 by the template 'for every input the law returns true; each argument reads behind the call as it read before'; 0 by the template 'total and deterministic' (their statements: Qxb6000104aTotals.lean).
  GIVEN WITH THE SEED: the statements are not yours to turn. If you find one false, say at which input.
  Laid BY PROGRAM, IN A SANDBOX (cutbox-rows.mjs): the forced cells as the released guide's own fill.sh prints them over the translation 49f83d0697441453… (all of the seat's roots in one cut). By AI agents, Wed Nov 11 2026. No macro, syntax, notation, axiom, sorry.
-/
import Derived.Test.Qxb6000104aChecked
import GoSem.Claim
import GoSem.ClaimJoined
import GoSem.ClaimMapViews
import Derived.JoinedTies
import Derived.KernelRfl
namespace Go.Proofs.Qxb6000104a
/- THE CELL 'sum', in the pinned program and in every row, IS THE sha256 OF THE DUMP (.gsa) THAT Qxb6000104aProg.lean LOADS. Nothing in Lean hashes anything: it is a label: what it is worth is what the hold of that sum in a sandbox is worth. -/
noncomputable def Try.pinned : Pinned := { name := "qxb6000104a", sum := "49f83d069744145396b666d56fb4402be98eff4d817f5825b3f727e50d63af60", checked := Try.checked }
namespace Rows
def none {H : Type} : Left H := { results := [], args := [] }

/-- 'zzlaws_root_b1.FnSplitReferenceMatchesScanModel': WHATEVER THE INPUT: true; the input reads as it did. -/
def fnSplitReferenceMatchesScanModelSpec : ChangeSpec := { name := "fnSplitReferenceMatchesScanModel", fn := fun _ => fun
  | [d] => { results := [.lit (.bool true)], args := [d] }
  | _ => none }
def fnSplitReferenceMatchesScanModelRow : OpenClaim := { program := "qxb6000104a", sum := "49f83d069744145396b666d56fb4402be98eff4d817f5825b3f727e50d63af60", func := "example.com/terrarium-rig/terrarium-rig/zzlaws_root_b1.FnSplitReferenceMatchesScanModel", spec := "fnSplitReferenceMatchesScanModel", inPlace := ["internal/bytealg.IndexByteString", "internal/bytealg.IndexString"], named := ["internal/bytealg.MaxLen"], apart := false }
def FnSplitReferenceMatchesScanModelSaid : Prop := fnSplitReferenceMatchesScanModelRow.holds Try.pinned (OpenSpec.ofChange fnSplitReferenceMatchesScanModelSpec)

/-- ITS FALSE NEIGHBOUR: 'it returns false'. Refute it at one input. -/
def fnSplitReferenceMatchesScanModelWrong : ChangeSpec := { name := "fnSplitReferenceMatchesScanModel", fn := fun _ => fun
  | [d] => { results := [.lit (.bool false)], args := [d] }
  | _ => none }
def FnSplitReferenceMatchesScanModelWrongFalsely : Prop := fnSplitReferenceMatchesScanModelRow.holds Try.pinned (OpenSpec.ofChange fnSplitReferenceMatchesScanModelWrong)

/-- 'zzlaws_root_b1.FnSplitReferenceInvertsJoin': WHATEVER THE INPUT: true; the input reads as it did. -/
def fnSplitReferenceInvertsJoinSpec : ChangeSpec := { name := "fnSplitReferenceInvertsJoin", fn := fun _ => fun
  | [d1, d2, d3] => { results := [.lit (.bool true)], args := [d1, d2, d3] }
  | _ => none }
def fnSplitReferenceInvertsJoinRow : OpenClaim := { program := "qxb6000104a", sum := "49f83d069744145396b666d56fb4402be98eff4d817f5825b3f727e50d63af60", func := "example.com/terrarium-rig/terrarium-rig/zzlaws_root_b1.FnSplitReferenceInvertsJoin", spec := "fnSplitReferenceInvertsJoin", inPlace := ["internal/bytealg.IndexByteString", "internal/bytealg.IndexString"], named := ["internal/bytealg.MaxLen"], apart := false }
def FnSplitReferenceInvertsJoinSaid : Prop := fnSplitReferenceInvertsJoinRow.holds Try.pinned (OpenSpec.ofChange fnSplitReferenceInvertsJoinSpec)

/-- ITS FALSE NEIGHBOUR: 'it returns false'. Refute it at one input. -/
def fnSplitReferenceInvertsJoinWrong : ChangeSpec := { name := "fnSplitReferenceInvertsJoin", fn := fun _ => fun
  | [d1, d2, d3] => { results := [.lit (.bool false)], args := [d1, d2, d3] }
  | _ => none }
def FnSplitReferenceInvertsJoinWrongFalsely : Prop := fnSplitReferenceInvertsJoinRow.holds Try.pinned (OpenSpec.ofChange fnSplitReferenceInvertsJoinWrong)

/-- 'zzlaws_root_b1.FnRegistryOfMatchesFirstElementModel': WHATEVER THE INPUT: true; the input reads as it did. -/
def fnRegistryOfMatchesFirstElementModelSpec : ChangeSpec := { name := "fnRegistryOfMatchesFirstElementModel", fn := fun _ => fun
  | [d] => { results := [.lit (.bool true)], args := [d] }
  | _ => none }
def fnRegistryOfMatchesFirstElementModelRow : OpenClaim := { program := "qxb6000104a", sum := "49f83d069744145396b666d56fb4402be98eff4d817f5825b3f727e50d63af60", func := "example.com/terrarium-rig/terrarium-rig/zzlaws_root_b1.FnRegistryOfMatchesFirstElementModel", spec := "fnRegistryOfMatchesFirstElementModel", inPlace := ["internal/bytealg.IndexByteString", "internal/bytealg.IndexString"], named := ["internal/bytealg.MaxLen"], apart := false }
def FnRegistryOfMatchesFirstElementModelSaid : Prop := fnRegistryOfMatchesFirstElementModelRow.holds Try.pinned (OpenSpec.ofChange fnRegistryOfMatchesFirstElementModelSpec)

/-- ITS FALSE NEIGHBOUR: 'it returns false'. Refute it at one input. -/
def fnRegistryOfMatchesFirstElementModelWrong : ChangeSpec := { name := "fnRegistryOfMatchesFirstElementModel", fn := fun _ => fun
  | [d] => { results := [.lit (.bool false)], args := [d] }
  | _ => none }
def FnRegistryOfMatchesFirstElementModelWrongFalsely : Prop := fnRegistryOfMatchesFirstElementModelRow.holds Try.pinned (OpenSpec.ofChange fnRegistryOfMatchesFirstElementModelWrong)

/-- 'zzlaws_root_b1.FnRegistryOfIgnoresTagAndDigest': WHATEVER THE INPUT: true; the input reads as it did. -/
def fnRegistryOfIgnoresTagAndDigestSpec : ChangeSpec := { name := "fnRegistryOfIgnoresTagAndDigest", fn := fun _ => fun
  | [d1, d2, d3] => { results := [.lit (.bool true)], args := [d1, d2, d3] }
  | _ => none }
def fnRegistryOfIgnoresTagAndDigestRow : OpenClaim := { program := "qxb6000104a", sum := "49f83d069744145396b666d56fb4402be98eff4d817f5825b3f727e50d63af60", func := "example.com/terrarium-rig/terrarium-rig/zzlaws_root_b1.FnRegistryOfIgnoresTagAndDigest", spec := "fnRegistryOfIgnoresTagAndDigest", inPlace := ["internal/bytealg.IndexByteString", "internal/bytealg.IndexString"], named := ["internal/bytealg.MaxLen"], apart := false }
def FnRegistryOfIgnoresTagAndDigestSaid : Prop := fnRegistryOfIgnoresTagAndDigestRow.holds Try.pinned (OpenSpec.ofChange fnRegistryOfIgnoresTagAndDigestSpec)

/-- ITS FALSE NEIGHBOUR: 'it returns false'. Refute it at one input. -/
def fnRegistryOfIgnoresTagAndDigestWrong : ChangeSpec := { name := "fnRegistryOfIgnoresTagAndDigest", fn := fun _ => fun
  | [d1, d2, d3] => { results := [.lit (.bool false)], args := [d1, d2, d3] }
  | _ => none }
def FnRegistryOfIgnoresTagAndDigestWrongFalsely : Prop := fnRegistryOfIgnoresTagAndDigestRow.holds Try.pinned (OpenSpec.ofChange fnRegistryOfIgnoresTagAndDigestWrong)

/-- 'zzlaws_root_b1.FnReplicaNamesMatchesIndexModel': WHATEVER THE INPUT: true; the input reads as it did. -/
def fnReplicaNamesMatchesIndexModelSpec : ChangeSpec := { name := "fnReplicaNamesMatchesIndexModel", fn := fun _ => fun
  | [d1, d2, d3, d4] => { results := [.lit (.bool true)], args := [d1, d2, d3, d4] }
  | _ => none }
def fnReplicaNamesMatchesIndexModelRow : OpenClaim := { program := "qxb6000104a", sum := "49f83d069744145396b666d56fb4402be98eff4d817f5825b3f727e50d63af60", func := "example.com/terrarium-rig/terrarium-rig/zzlaws_root_b1.FnReplicaNamesMatchesIndexModel", spec := "fnReplicaNamesMatchesIndexModel", apart := false }
def FnReplicaNamesMatchesIndexModelSaid : Prop := fnReplicaNamesMatchesIndexModelRow.holds Try.pinned (OpenSpec.ofChange fnReplicaNamesMatchesIndexModelSpec)

/-- ITS FALSE NEIGHBOUR: 'it returns false'. Refute it at one input. -/
def fnReplicaNamesMatchesIndexModelWrong : ChangeSpec := { name := "fnReplicaNamesMatchesIndexModel", fn := fun _ => fun
  | [d1, d2, d3, d4] => { results := [.lit (.bool false)], args := [d1, d2, d3, d4] }
  | _ => none }
def FnReplicaNamesMatchesIndexModelWrongFalsely : Prop := fnReplicaNamesMatchesIndexModelRow.holds Try.pinned (OpenSpec.ofChange fnReplicaNamesMatchesIndexModelWrong)

/-- 'zzlaws_root_b1.FnReplicaNamesSubdomainsConcatenate': WHATEVER THE INPUT: true; the input reads as it did. -/
def fnReplicaNamesSubdomainsConcatenateSpec : ChangeSpec := { name := "fnReplicaNamesSubdomainsConcatenate", fn := fun _ => fun
  | [d1, d2, d3, d4, d5] => { results := [.lit (.bool true)], args := [d1, d2, d3, d4, d5] }
  | _ => none }
def fnReplicaNamesSubdomainsConcatenateRow : OpenClaim := { program := "qxb6000104a", sum := "49f83d069744145396b666d56fb4402be98eff4d817f5825b3f727e50d63af60", func := "example.com/terrarium-rig/terrarium-rig/zzlaws_root_b1.FnReplicaNamesSubdomainsConcatenate", spec := "fnReplicaNamesSubdomainsConcatenate", apart := false }
def FnReplicaNamesSubdomainsConcatenateSaid : Prop := fnReplicaNamesSubdomainsConcatenateRow.holds Try.pinned (OpenSpec.ofChange fnReplicaNamesSubdomainsConcatenateSpec)

/-- ITS FALSE NEIGHBOUR: 'it returns false'. Refute it at one input. -/
def fnReplicaNamesSubdomainsConcatenateWrong : ChangeSpec := { name := "fnReplicaNamesSubdomainsConcatenate", fn := fun _ => fun
  | [d1, d2, d3, d4, d5] => { results := [.lit (.bool false)], args := [d1, d2, d3, d4, d5] }
  | _ => none }
def FnReplicaNamesSubdomainsConcatenateWrongFalsely : Prop := fnReplicaNamesSubdomainsConcatenateRow.holds Try.pinned (OpenSpec.ofChange fnReplicaNamesSubdomainsConcatenateWrong)

end Rows
end Go.Proofs.Qxb6000104a

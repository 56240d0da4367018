/-
  The proof of 'Rows.FnSkipValueSkipsBuiltValueSaid'.
-/
import Derived.Test.Qxb6001689aRows
import Derived.WalkKit
import Derived.ProofKit
import Derived.OpenShut
import Derived.ShutString
import Derived.ChangeOld
import Derived.Below
import Derived.Test.Qxb6001689aSkipLifted
import Derived.Test.Qxb6001689aSkipFacts
namespace Go.Proofs.Qxb6001689a.fnSkipValueSkipsBuiltValue
open Go.ChangeShapes Go.WideShapes Go.ChangeAt Go.RowKit

theorem over : Rows.fnSkipValueSkipsBuiltValueRow.holds Try.pinned (OpenSpec.ofChange Rows.fnSkipValueSkipsBuiltValueSpec) :=
  OpenClaim.holds_of_wide 4 Try.f4 rfl rfl rfl rfl rfl rfl rfl ⟨rfl, rfl, rfl, rfl, rfl⟩ rfl rfl rfl rfl rfl named4 Try.func4 closed4
    (of_decide_eq_true (by kernel_rfl)) (by unfold Func.isWrapper; first | (rw [if_pos (by decide +kernel)]; kernel_rfl) | (rw [if_neg (by decide +kernel)]; exact ⟨rfl, rfl⟩))
    (fun os started H enc _ => lifted os started H enc)

/-- THE STATEMENT -/
theorem proved : Rows.FnSkipValueSkipsBuiltValueSaid := over
end Go.Proofs.Qxb6001689a.fnSkipValueSkipsBuiltValue

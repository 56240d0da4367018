/-
  The closed facts of 'Rows.FnSkipValueSkipsBuiltValueSaid', put together.
-/
import Derived.Test.Qxb6001689aSkipFacts
namespace Go.Proofs.Qxb6001689a.fnSkipValueSkipsBuiltValue
theorem A {a b : Bool} (ha : a = true) (hb : b = true) : (a && b) = true := by subst ha; subst hb; rfl
theorem closed4 : joinedFacts Try.prog 4 Try.f4 S4 C4 = true := by
  unfold joinedFacts
  exact A (A (A (A (A (A (A (A (A (A (A (A (A (A (A (A (A (A (A (A (A (A (A (A (A (A (A (A (A (A (A q1 q2) q3) q4) q5) q6) q7) q8) q9) q10) q11) q12) q13) q14) q15) q16) q17) q18) q19) q20) q21) q22) q23) q24) q25) q26) q27) q28) (by kernel_rfl)) q30) q31) q32
end Go.Proofs.Qxb6001689a.fnSkipValueSkipsBuiltValue

/-
  The closed facts that the wrap of 'Rows.FnSkipValueSkipsBuiltValueSaid' wants, one theorem each: in one piece the kernel outgrows its lid.
-/
import Derived.Test.Qxb6001689aLight
namespace Go.Proofs.Qxb6001689a.fnSkipValueSkipsBuiltValue
abbrev S4 : ChangeSpec := Rows.fnSkipValueSkipsBuiltValueSpec
abbrev C4 : OpenClaim := Rows.fnSkipValueSkipsBuiltValueRow
theorem q1 : C4.wf (OpenSpec.ofChange S4) = true := by kernel_rfl
theorem q2 : laidOutB Try.prog = true := by kernel_rfl
theorem q3 : mapsRowed Try.prog = true := by kernel_rfl
theorem q4 : Try.f4.params.all (Try.prog.readableRec ·) = true := by kernel_rfl
theorem q5 : namedTie Try.prog C4.named S4.vars = true := by kernel_rfl
theorem q6 : (C4.stops == []) = true := by kernel_rfl
theorem q7 : (Try.prog.stops == []) = true := by kernel_rfl
theorem q8 : (C4.knobs == []) = true := by kernel_rfl
theorem q9 : (Try.prog.stopKnobs == []) = true := by kernel_rfl
theorem q10 : (C4.inPlace == Try.prog.inPlace 4) = true := by kernel_rfl
theorem q11 : (C4.unfollowed == Try.prog.unfollowed 4) = true := by kernel_rfl
theorem q12 : (C4.recurses == Try.prog.recurses 4) = true := by kernel_rfl
theorem q13 : (C4.named == Try.prog.varsNamed 4) = true := by kernel_rfl
theorem q14 : (C4.maps == (Try.f4.params.toList ++ S4.plain.varTypes Try.prog).any (Try.prog.mapsRec ·)) = true := by kernel_rfl
theorem q15 : (C4.ifaces == (Try.f4.params.toList ++ S4.plain.varTypes Try.prog).any (Try.prog.ifacesRec ·)) = true := by kernel_rfl
theorem q16 : (C4.mapsOut == Try.prog.mapsAmong Try.f4.resultTypes.toList) = true := by kernel_rfl
theorem q17 : (C4.loops == (Try.f4.params.toList ++ S4.plain.varTypes Try.prog).any (Try.prog.loopsFrom ·)) = true := by kernel_rfl
theorem q18 : (C4.wideKeys == (Try.f4.params.toList ++ S4.plain.varTypes Try.prog ++ Try.f4.resultTypes.toList).any (Try.prog.wideKeysFrom ·)) = true := by kernel_rfl
theorem q19 : S4.vars.all (Try.prog.varReadable ·) = true := by kernel_rfl
theorem q20 : Try.f4.resultTypes.all (fun t => Try.prog.readableRec t && decide (t < Try.prog.types.size)) = true := by kernel_rfl
theorem q21 : (C4.ifacesOut == Try.f4.resultTypes.toList.any (Try.prog.ifacesRec ·)) = true := by kernel_rfl
theorem q22 : (C4.loopsOut == Try.f4.resultTypes.toList.any (Try.prog.loopsFrom ·)) = true := by kernel_rfl
theorem q23 : (C4.plainKeys == Try.prog.plainKeys) = true := by kernel_rfl
theorem q24 : C4.shortTexts.isNone = true := by kernel_rfl
theorem q25 : Try.prog.stopsHeard = true := by kernel_rfl
theorem q26 : Try.prog.mayEnter = true := may_enter
theorem q27 : (C4.lifted == Try.prog.liftsFinal) = true := beq_right lifts_final (by kernel_rfl)
theorem q28 : (Try.prog.make == some C4.make) = true := beq_left make_cut (by kernel_rfl)
theorem q30 : (C4.pinned == C4.pinnedBy) = true := by kernel_rfl
theorem q31 : (C4.veiled == (Try.f4.params.toList ++ S4.plain.varTypes Try.prog ++ Try.f4.resultTypes.toList).any (Try.prog.veiledRec ·)) = true := by kernel_rfl
theorem q32 : C4.veiledFits Try.prog Try.f4.params.toList (Try.f4.params.toList ++ S4.plain.varTypes Try.prog ++ Try.f4.resultTypes.toList) = true := by kernel_rfl
theorem named4 : Try.prog.funcNamed C4.func = some 4 := by kernel_rfl
theorem closed4 : joinedFacts Try.prog 4 Try.f4 S4 C4 = true := by
  unfold joinedFacts
  exact both (both (both (both (both (both (both (both (both (both (both (both (both (both (both (both (both (both (both (both (both (both (both (both (both (both (both (both (both (both (both q1 q2) q3) q4) q5) q6) q7) q8) q9) q10) q11) q12) q13) q14) q15) q16) q17) q18) q19) q20) q21) q22) q23) q24) q25) q26) q27) q28) (by kernel_rfl)) q30) q31) q32
end Go.Proofs.Qxb6001689a.fnSkipValueSkipsBuiltValue

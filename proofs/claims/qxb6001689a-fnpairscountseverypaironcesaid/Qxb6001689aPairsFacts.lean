/-
  The closed facts that the wrap of 'Rows.FnPairsCountsEveryPairOnceSaid' wants, one theorem each: in one piece the kernel outgrows its lid.
-/
import Derived.Test.Qxb6001689aLight
namespace Go.Proofs.Qxb6001689a.fnPairsCountsEveryPairOnce
abbrev S10 : ChangeSpec := Rows.fnPairsCountsEveryPairOnceSpec
abbrev C10 : OpenClaim := Rows.fnPairsCountsEveryPairOnceRow
theorem q1 : C10.wf (OpenSpec.ofChange S10) = true := by kernel_rfl
theorem q2 : laidOutB Try.prog = true := by kernel_rfl
theorem q3 : mapsRowed Try.prog = true := by kernel_rfl
theorem q4 : Try.f10.params.all (Try.prog.readableRec ·) = true := by kernel_rfl
theorem q5 : namedTie Try.prog C10.named S10.vars = true := by kernel_rfl
theorem q6 : (C10.stops == []) = true := by kernel_rfl
theorem q7 : (Try.prog.stops == []) = true := by kernel_rfl
theorem q8 : (C10.knobs == []) = true := by kernel_rfl
theorem q9 : (Try.prog.stopKnobs == []) = true := by kernel_rfl
theorem q10 : (C10.inPlace == Try.prog.inPlace 10) = true := by kernel_rfl
theorem q11 : (C10.unfollowed == Try.prog.unfollowed 10) = true := by kernel_rfl
theorem q12 : (C10.recurses == Try.prog.recurses 10) = true := by kernel_rfl
theorem q13 : (C10.named == Try.prog.varsNamed 10) = true := by kernel_rfl
theorem q14 : (C10.maps == (Try.f10.params.toList ++ S10.plain.varTypes Try.prog).any (Try.prog.mapsRec ·)) = true := by kernel_rfl
theorem q15 : (C10.ifaces == (Try.f10.params.toList ++ S10.plain.varTypes Try.prog).any (Try.prog.ifacesRec ·)) = true := by kernel_rfl
theorem q16 : (C10.mapsOut == Try.prog.mapsAmong Try.f10.resultTypes.toList) = true := by kernel_rfl
theorem q17 : (C10.loops == (Try.f10.params.toList ++ S10.plain.varTypes Try.prog).any (Try.prog.loopsFrom ·)) = true := by kernel_rfl
theorem q18 : (C10.wideKeys == (Try.f10.params.toList ++ S10.plain.varTypes Try.prog ++ Try.f10.resultTypes.toList).any (Try.prog.wideKeysFrom ·)) = true := by kernel_rfl
theorem q19 : S10.vars.all (Try.prog.varReadable ·) = true := by kernel_rfl
theorem q20 : Try.f10.resultTypes.all (fun t => Try.prog.readableRec t && decide (t < Try.prog.types.size)) = true := by kernel_rfl
theorem q21 : (C10.ifacesOut == Try.f10.resultTypes.toList.any (Try.prog.ifacesRec ·)) = true := by kernel_rfl
theorem q22 : (C10.loopsOut == Try.f10.resultTypes.toList.any (Try.prog.loopsFrom ·)) = true := by kernel_rfl
theorem q23 : (C10.plainKeys == Try.prog.plainKeys) = true := by kernel_rfl
theorem q24 : C10.shortTexts.isNone = true := by kernel_rfl
theorem q25 : Try.prog.stopsHeard = true := by kernel_rfl
theorem q26 : Try.prog.mayEnter = true := may_enter
theorem q27 : (C10.lifted == Try.prog.liftsFinal) = true := beq_right lifts_final (by kernel_rfl)
theorem q28 : (Try.prog.make == some C10.make) = true := beq_left make_cut (by kernel_rfl)
theorem q30 : (C10.pinned == C10.pinnedBy) = true := by kernel_rfl
theorem q31 : (C10.veiled == (Try.f10.params.toList ++ S10.plain.varTypes Try.prog ++ Try.f10.resultTypes.toList).any (Try.prog.veiledRec ·)) = true := by kernel_rfl
theorem q32 : C10.veiledFits Try.prog Try.f10.params.toList (Try.f10.params.toList ++ S10.plain.varTypes Try.prog ++ Try.f10.resultTypes.toList) = true := by kernel_rfl
theorem named10 : Try.prog.funcNamed C10.func = some 10 := by kernel_rfl
theorem closed10 : joinedFacts Try.prog 10 Try.f10 S10 C10 = true := by
  unfold joinedFacts
  exact both (both (both (both (both (both (both (both (both (both (both (both (both (both (both (both (both (both (both (both (both (both (both (both (both (both (both (both (both (both (both q1 q2) q3) q4) q5) q6) q7) q8) q9) q10) q11) q12) q13) q14) q15) q16) q17) q18) q19) q20) q21) q22) q23) q24) q25) q26) q27) q28) (by kernel_rfl)) q30) q31) q32
end Go.Proofs.Qxb6001689a.fnPairsCountsEveryPairOnce

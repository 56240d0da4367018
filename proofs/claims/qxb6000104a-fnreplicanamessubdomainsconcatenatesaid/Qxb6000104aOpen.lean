/-
  A slice of strings among the arguments, opened as 'Strs'.
-/
import Derived.Test.Qxb6000104aStrs
import Derived.ProofKit
import Derived.OpenShut
import Derived.SliceStrings
namespace Go.Proofs.Qxb6000104a
open Go.ChangeShapes Go.WideShapes Go.ChangeAt Go.RowKit

theorem strs_arg {H : Type} {enc : TypeId × Value → H} {W : World} {a : Option Addr} {len cap : Nat} {d : DataW H} {p : List MemPlace}
    (h : DataW.Trod enc Try.prog W 0 (fun _ => true) true 28 (.slice a len cap) d p) :
    ∃ b off f, Strs W a len b off f ∧ (a = none → len = 0 ∧ cap = 0) ∧ len ≤ 9223372036854775807 := by
  obtain ⟨fuel, hf⟩ := h
  rcases open_strings Try.underlying28 Try.underlying9 (by kernel_rfl) hf with ⟨hcs, _⟩ | ⟨x, l, c, ss, hcs, _, hl, hm, hz, _, hcell, hws⟩
  · simp [Value.cells] at hcs
    obtain ⟨rfl, rfl, rfl⟩ := hcs
    exact ⟨0, 0, fun _ => ByteArray.empty, ⟨fun h => by omega, fun i hi => by omega, fun i hi => by omega⟩, fun _ => ⟨rfl, rfl⟩, by omega⟩
  · simp [Value.cells] at hcs
    obtain ⟨rfl, rfl, rfl⟩ := hcs
    simp only [if_true] at hz
    unfold maxLen at hm hws
    refine ⟨x.block, x.off, fun i => ss.getD i ByteArray.empty, ⟨fun h0 => ?_, fun i hi => ?_, fun i hi => ?_⟩, (fun h => by cases h), by omega⟩
    · have hs := World.cell?_spot (hcell 0 (by omega))
      obtain ⟨b, off, s⟩ := x
      simp [Addr.add] at hs
      subst hs
      rfl
    · have hs := World.cell?_spot (hcell 0 (by omega))
      have hci := hcell i (by omega)
      obtain ⟨b, off, s⟩ := x
      simp [Addr.add] at hs
      subst hs
      rw [add_plain] at hci
      exact hci
    · have hmem : ss.getD i ByteArray.empty ∈ ss := by
        rw [List.getD_eq_getElem?_getD, List.getElem?_eq_getElem (by omega)]
        simp
      exact hws _ hmem

end Go.Proofs.Qxb6000104a

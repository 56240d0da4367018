/-
  The walk of FnPairsCountsEveryPairOnce on any arguments: the ways that return at once, else 'main10'.
-/
import Derived.Test.Qxb6001689aRows
import Derived.WalkKit
import Derived.ProofKit
import Derived.Below
import Derived.ChangeOld
import Derived.OpenShut
import Derived.Test.Qxb6001689aMain
namespace Go.Proofs.Qxb6001689a.fnPairsCountsEveryPairOnce
open Go.ChangeShapes Go.WideShapes Go.ChangeAt Go.RowKit
set_option linter.unusedVariables false

/-- WHAT THE WALK IS TOLD OF A SLICE OF INTEGERS THAT CAME IN: it is nil; or it leads to a row of 'cap' cells, the numbers 'zs' (the first 'len' are its elements, the rest its spare room), each fitting its kind. -/
def IsRow (k : IntKind) (w : World) (a : Option Addr) (len cap : Nat) (zs : List Int) : Prop :=
  (a = none ∧ len = 0 ∧ cap = 0 ∧ zs = []) ∨
  ∃ x, a = some x ∧ len ≤ cap ∧ cap ≤ maxLen ∧ zs.length = cap ∧ (∀ i, i < zs.length → w.cell? (x.add i) = some (.int k (zs.getD i 0))) ∧ ∀ n ∈ zs, (Lit.int k n).wf = true

theorem ints_of {w : World} {a : Option Addr} {len cap : Nat} {zs : List Int} (h : IsRow .u16 w a len cap zs) :
    ∃ b off f, Ints .u16 w a len b off f ∧ (a = none → len = 0 ∧ cap = 0) ∧ len ≤ 9223372036854775807 ∧ ∀ i, f i < 65536 := by
  rcases h with ⟨rfl, rfl, rfl, rfl⟩ | ⟨x, rfl, hl, hm, hz, hc, hwf⟩
  · exact ⟨0, 0, fun _ => 0, ⟨fun h => by omega, fun i hi => by omega⟩, fun _ => ⟨rfl, rfl⟩, by omega, fun i => by show (0 : Nat) < 65536; omega⟩
  · unfold maxLen at hm
    have hr : ∀ i, i < zs.length → 0 ≤ zs.getD i 0 ∧ zs.getD i 0 ≤ 65535 := by
      intro i hi
      have e : zs.getD i 0 = zs[i] := by simp [List.getD, hi]
      rw [e]
      exact bounds_u16 (hwf _ (List.getElem_mem hi))
    refine ⟨x.block, x.off, fun i => (zs.getD i 0).toNat, ⟨fun h0 => ?_, fun i hi => ?_⟩, (fun h => by cases h), by omega, fun i => ?_⟩
    · have hs := World.cell?_spot (hc 0 (by omega))
      obtain ⟨b, off, s⟩ := x
      simp [Addr.add] at hs
      subst hs
      rfl
    · have hs := World.cell?_spot (hc 0 (by omega))
      have hci := hc i (by omega)
      obtain ⟨b, off, s⟩ := x
      simp [Addr.add] at hs
      subst hs
      rw [add_plain] at hci
      rw [hci, Int.toNat_of_nonneg (hr i (by omega)).1]
    · by_cases hi : i < zs.length
      · have := hr i hi
        show (zs.getD i 0).toNat < 65536
        omega
      · show (zs.getD i 0).toNat < 65536
        have e : zs.getD i 0 = 0 := by simp [List.getD, List.getElem?_eq_none (show zs.length ≤ i by omega)]
        rw [e]
        decide

/-! ### STEP 1: THE WALK: the Go text returns true, AND WRITES NOTHING THAT WAS THERE: 'Below w.heap.size w w'' (Derived/Below.lean: '.refl', '.alloc', '.drew', '.setCell' at a new block, '.trans'). Open each 'IsRow' by 'rcases' AHEAD of 'go_enter'; part every test ahead of the walk. -/
set_option maxRecDepth 100000 in
set_option maxHeartbeats 1000000 in
theorem walk (a0 : Int) (a1 : Option Addr) (len1 cap1 : Nat) (z1 : List Int) (w : World) (w0 : (Lit.int .u8 a0).wf = true) (w1 : IsRow .u16 w a1 len1 cap1 z1) :
    Calls Try.prog 10 #[.int .u8 a0, .slice a1 len1 cap1] w fun e w' => e = .returned (.bool true) ∧ Below w.heap.size w w' := by
  have hb0 := bounds_u8 w0
  obtain ⟨b, off, f, hS, ha, hm, hs⟩ := ints_of w1
  clear w1 w0
  by_cases h0 : a0 = 0
  · subst h0
    clear hS ha hs hb0
    go_enter Try.func10, Try.ntmps10
    go_wp2
    all_goals (go_ret; exact ⟨rfl, Below.refl _ _⟩)
  · by_cases h6 : 6 < a0
    · clear hS ha hs
      have hz : ((a0 : Int) == 0) = false := by simp; omega
      go_enter Try.func10, Try.ntmps10
      go_wp2
      all_goals (go_ret; exact ⟨rfl, Below.refl _ _⟩)
    · by_cases hn : 64 < len1
      · clear hS ha hs
        have hz : ((a0 : Int) == 0) = false := by simp; omega
        have h64 : (64 : Int) < (len1 : Int) := by omega
        go_enter Try.func10, Try.ntmps10
        go_wp2
        all_goals (go_ret; exact ⟨rfl, Below.refl _ _⟩)
      · obtain ⟨h, rfl⟩ : ∃ h : Nat, a0 = h := ⟨a0.toNat, by omega⟩
        exact main10 h len1 cap1 a1 b off f w (by omega) (by omega) (by omega) ha hS hs

end Go.Proofs.Qxb6001689a.fnPairsCountsEveryPairOnce

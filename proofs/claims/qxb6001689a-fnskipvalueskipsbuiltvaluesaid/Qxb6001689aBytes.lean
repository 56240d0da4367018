/-
  The guard zzBytes_FnSkipValueSkipsBuiltValue (15): some Boolean, whichever.
-/
import Derived.Test.Qxb6001689aClones
import Derived.Deep.QuietTactic
import Derived.BigQuiet
namespace Go.Proofs.Qxb6001689a
open Go.RowKit

def RetB (e : Ending) : Prop := ∃ q, e = .returned (.bool q)
theorem RetB.mk {e : Ending} (q : Bool) (h : e = .returned (.bool q)) : RetB e := ⟨q, h⟩

/-- What is known of a slice of strings: it leads to n cells that hold the strings f. -/
def Strs (w : World) (a : Option Addr) (n : Nat) (b off : Nat) (f : Nat → ByteArray) : Prop :=
  (0 < n → a = some ⟨b, off, none⟩) ∧ (∀ i, i < n → w.cell? ⟨b, off + i, none⟩ = some (.string (f i))) ∧ ∀ i, i < n → (f i).size ≤ 9223372036854775807

set_option maxHeartbeats 1000000 in
theorem zz15 (a1 a2 a3 a4 : Option Addr) (n1 c1 n2 c2 n3 c3 n4 c4 b o : Nat) (f : Nat → ByteArray) (w : World)
    (hn1 : n1 ≤ 9223372036854775807) (hn2 : n2 ≤ 9223372036854775807) (hn3 : n3 ≤ 9223372036854775807) (hn4 : n4 ≤ 9223372036854775807) (h3 : Strs w a3 n3 b o f) :
    Calls Try.prog 15 #[.slice a1 n1 c1, .slice a2 n2 c2, .slice a3 n3 c3, .slice a4 n4 c4] w fun e w' => RetB e ∧ w' = w := by
  have H1 : Hid (Strs w a3 n3 b o f) := h3
  clear h3
  go_enter Try.func15, Try.ntmps15
  go_wp2
  all_goals try (go_ret; exact ⟨RetB.mk _ rfl, rfl⟩)
  go_loop [9, 10] (fun u9 u10 => ∃ k z : Nat, k ≤ n3 ∧ u10 = .int .i64 k ∧ u9 = .int .i64 z ∧ z ≤ 1048576) (fun _ i => n3 - (intOf i).toNat)
  case atStart => exact ⟨0, n1 + n2 + n3, Nat.zero_le _, rfl, by go_num, by omega⟩
  case round =>
    obtain ⟨k, z, hk, rfl, rfl, hz⟩ := hrel
    by_cases hlt : k < n3
    · obtain ⟨ha, hc, hs⟩ := H1.out
      obtain rfl := ha (by omega)
      have hcx := hc k hlt
      have hsk := hs k hlt
      clear ha hc hs
      have hltz : (k : Int) < (n3 : Int) := by omega
      go_wp2
      all_goals try (go_ret; exact ⟨RetB.mk _ rfl, rfl⟩)
      go_round
      case rel => exact ⟨k + 1, z + (f k).size, by omega, by go_num, by go_num, by omega⟩
      case measure => simp [intOf]; omega
    · obtain rfl : k = n3 := by omega
      go_wp2
      all_goals (go_ret; exact ⟨RetB.mk _ rfl, rfl⟩)

end Go.Proofs.Qxb6001689a

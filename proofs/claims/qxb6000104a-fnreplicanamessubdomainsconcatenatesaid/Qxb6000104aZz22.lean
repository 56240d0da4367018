/-
  The guard zzBytes_FnReplicaNamesSubdomainsConcatenate (22).
-/
import Derived.Test.Qxb6000104aFits
namespace Go.Proofs.Qxb6000104a
open Go.RowKit

set_option maxRecDepth 100000 in
set_option maxHeartbeats 1000000 in
theorem zz22 (g r : ByteArray) (a1 : Option Addr) (b1 o1 n1 c1 : Nat) (f1 : Nat → ByteArray) (a2 : Option Addr) (b2 o2 n2 c2 : Nat) (f2 : Nat → ByteArray) (a3 : Option Addr) (b3 o3 n3 c3 : Nat) (f3 : Nat → ByteArray) (w : World)
    (hg : g.size ≤ 9223372036854775807) (hr : r.size ≤ 9223372036854775807) (hn1 : n1 ≤ 9223372036854775807) (hn2 : n2 ≤ 9223372036854775807) (hn3 : n3 ≤ 9223372036854775807) (h1 : Strs w a1 n1 b1 o1 f1) (h2 : Strs w a2 n2 b2 o2 f2) (h3 : Strs w a3 n3 b3 o3 f3) :
    Calls Try.prog 22 #[.string g, .string r, .slice a1 n1 c1, .slice a2 n2 c2, .slice a3 n3 c3] w fun e w' => RetB e ∧ w' = w := by
  have H1 : Hid (Strs w a1 n1 b1 o1 f1) := h1
  have H2 : Hid (Strs w a2 n2 b2 o2 f2) := h2
  have H3 : Hid (Strs w a3 n3 b3 o3 f3) := h3
  clear h1 h2 h3
  go_enter Try.func22, Try.ntmps22
  go_wp2
  all_goals try (go_ret; exact ⟨RetB.mk _ rfl, rfl⟩)
  go_loop [11, 12] (fun u9 u10 => ∃ k z : Nat, k ≤ n1 ∧ u10 = .int .i64 k ∧ u9 = .int .i64 z ∧ z ≤ 1048576) (fun _ i => n1 - (intOf i).toNat)
  case atStart => exact ⟨0, g.size + r.size + n1, Nat.zero_le _, rfl, by go_num, by omega⟩
  case round =>
    obtain ⟨k, z, hk, rfl, rfl, hz⟩ := hrel
    by_cases hlt : k < n1
    · obtain ⟨ha, hc, hs⟩ := H1.out
      obtain rfl := ha (by omega)
      have hcx := hc k hlt
      have hsk := hs k hlt
      clear ha hc hs
      have hltz : (k : Int) < (n1 : Int) := by omega
      go_wp2
      all_goals try (go_ret; exact ⟨RetB.mk _ rfl, rfl⟩)
      go_round
      case rel => exact ⟨k + 1, z + (f1 k).size, by omega, by go_num, by go_num, by omega⟩
      case measure => simp [intOf]; omega
    · obtain rfl : k = n1 := by omega
      go_wp2
      all_goals try (go_ret; exact ⟨RetB.mk _ rfl, rfl⟩)
      go_loop [11, 13] (fun u9 u10 => ∃ k z : Nat, k ≤ n2 ∧ u10 = .int .i64 k ∧ u9 = .int .i64 z ∧ z ≤ 1048576) (fun _ i => n2 - (intOf i).toNat)
      case atStart => exact ⟨0, z + n2, Nat.zero_le _, rfl, by go_num, by omega⟩
      case round =>
        obtain ⟨k2, z2, hk2, rfl, rfl, hz2⟩ := hrel
        by_cases hlt2 : k2 < n2
        · obtain ⟨ha, hc, hs⟩ := H2.out
          obtain rfl := ha (by omega)
          have hcx := hc k2 hlt2
          have hsk := hs k2 hlt2
          clear ha hc hs
          have hltz : (k2 : Int) < (n2 : Int) := by omega
          go_wp2
          all_goals try (go_ret; exact ⟨RetB.mk _ rfl, rfl⟩)
          go_round
          case rel => exact ⟨k2 + 1, z2 + (f2 k2).size, by omega, by go_num, by go_num, by omega⟩
          case measure => simp [intOf]; omega
        · obtain rfl : k2 = n2 := by omega
          go_wp2
          all_goals try (go_ret; exact ⟨RetB.mk _ rfl, rfl⟩)
          go_loop [11, 14] (fun u9 u10 => ∃ k z : Nat, k ≤ n3 ∧ u10 = .int .i64 k ∧ u9 = .int .i64 z ∧ z ≤ 1048576) (fun _ i => n3 - (intOf i).toNat)
          case atStart => exact ⟨0, z2 + n3, Nat.zero_le _, rfl, by go_num, by omega⟩
          case round =>
            obtain ⟨k3, z3, hk3, rfl, rfl, hz3⟩ := hrel
            by_cases hlt3 : k3 < n3
            · obtain ⟨ha, hc, hs⟩ := H3.out
              obtain rfl := ha (by omega)
              have hcx := hc k3 hlt3
              have hsk := hs k3 hlt3
              clear ha hc hs
              have hltz : (k3 : Int) < (n3 : Int) := by omega
              go_wp2
              all_goals try (go_ret; exact ⟨RetB.mk _ rfl, rfl⟩)
              go_round
              case rel => exact ⟨k3 + 1, z3 + (f3 k3).size, by omega, by go_num, by go_num, by omega⟩
              case measure => simp [intOf]; omega
            · obtain rfl : k3 = n3 := by omega
              go_wp2
              all_goals (go_ret; exact ⟨RetB.mk _ rfl, rfl⟩)

end Go.Proofs.Qxb6000104a

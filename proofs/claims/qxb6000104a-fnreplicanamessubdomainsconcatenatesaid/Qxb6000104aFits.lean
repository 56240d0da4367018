/-
  The guards: zzBytes_FnReplicaNamesMatchesIndexModel (18), zzReplicaFits (19).
-/
import Derived.Test.Qxb6000104aStrs
namespace Go.Proofs.Qxb6000104a
open Go.RowKit

def RetB (e : Ending) : Prop := ∃ q, e = .returned (.bool q)
theorem RetB.mk {e : Ending} (q : Bool) (h : e = .returned (.bool q)) : RetB e := ⟨q, h⟩

set_option maxHeartbeats 1000000 in
theorem zz18 (g r : ByteArray) (a1 : Option Addr) (b1 o1 n1 c1 : Nat) (f1 : Nat → ByteArray) (a2 : Option Addr) (b2 o2 n2 c2 : Nat) (f2 : Nat → ByteArray) (w : World)
    (hg : g.size ≤ 9223372036854775807) (hr : r.size ≤ 9223372036854775807) (hn1 : n1 ≤ 9223372036854775807) (hn2 : n2 ≤ 9223372036854775807) (h1 : Strs w a1 n1 b1 o1 f1) (h2 : Strs w a2 n2 b2 o2 f2) :
    Calls Try.prog 18 #[.string g, .string r, .slice a1 n1 c1, .slice a2 n2 c2] w fun e w' => RetB e ∧ w' = w := by
  have H1 : Hid (Strs w a1 n1 b1 o1 f1) := h1
  have H2 : Hid (Strs w a2 n2 b2 o2 f2) := h2
  clear h1 h2
  go_enter Try.func18, Try.ntmps18
  go_wp2
  all_goals try (go_ret; exact ⟨RetB.mk _ rfl, rfl⟩)
  go_loop [9, 10] (fun u9 u10 => ∃ k z : Nat, k ≤ n1 ∧ u10 = .int .i64 k ∧ u9 = .int .i64 z ∧ z ≤ 1048576) (fun _ i => n1 - (intOf i).toNat)
  case atStart => exact ⟨0, g.size + r.size + n1, Nat.zero_le _, rfl, by go_num, by omega⟩
  case round =>
    obtain ⟨k, z, hk, rfl, rfl, hz⟩ := hrel
    by_cases hlt : k < n1
    · obtain ⟨ha, hc, hs⟩ := H1.out
      obtain rfl := ha (by omega)
      have hcx := hc k hlt
      have hsk := hs k hlt
      clear ha hc hs
      have hltz : (k : Int) < (n1 : Int) := by omega
      go_wp2
      all_goals try (go_ret; exact ⟨RetB.mk _ rfl, rfl⟩)
      go_round
      case rel => exact ⟨k + 1, z + (f1 k).size, by omega, by go_num, by go_num, by omega⟩
      case measure => simp [intOf]; omega
    · obtain rfl : k = n1 := by omega
      go_wp2
      all_goals try (go_ret; exact ⟨RetB.mk _ rfl, rfl⟩)
      go_loop [9, 11] (fun u9 u10 => ∃ k z : Nat, k ≤ n2 ∧ u10 = .int .i64 k ∧ u9 = .int .i64 z ∧ z ≤ 1048576) (fun _ i => n2 - (intOf i).toNat)
      case atStart => exact ⟨0, z + n2, Nat.zero_le _, rfl, by go_num, by omega⟩
      case round =>
        obtain ⟨k2, z2, hk2, rfl, rfl, hz2⟩ := hrel
        by_cases hlt2 : k2 < n2
        · obtain ⟨ha, hc, hs⟩ := H2.out
          obtain rfl := ha (by omega)
          have hcx := hc k2 hlt2
          have hsk := hs k2 hlt2
          clear ha hc hs
          have hltz : (k2 : Int) < (n2 : Int) := by omega
          go_wp2
          all_goals try (go_ret; exact ⟨RetB.mk _ rfl, rfl⟩)
          go_round
          case rel => exact ⟨k2 + 1, z2 + (f2 k2).size, by omega, by go_num, by go_num, by omega⟩
          case measure => simp [intOf]; omega
        · obtain rfl : k2 = n2 := by omega
          go_wp2
          all_goals (go_ret; exact ⟨RetB.mk _ rfl, rfl⟩)

/-- What the second guard's yes tells. -/
structure Fits (g r : ByteArray) (n1 : Nat) (f1 : Nat → ByteArray) (n2 : Nat) (f2 : Nat → ByteArray) : Prop where
  l1 : n1 ≤ 4096
  l2 : n2 ≤ 4096
  g : g.size ≤ 1048576
  r : r.size ≤ 1048576
  s1 : ∀ i, i < n1 → (f1 i).size ≤ 1048576
  s2 : ∀ i, i < n2 → (f2 i).size ≤ 1048576
  all : (n1 + 2) * (n2 + 1) ≤ 1048576

def RetF (p : Prop) (e : Ending) : Prop := e = .returned (.bool false) ∨ (e = .returned (.bool true) ∧ p)
theorem RetF.no {p : Prop} {e : Ending} (h : e = .returned (.bool false)) : RetF p e := .inl h
theorem RetF.yes {p : Prop} {e : Ending} (h : e = .returned (.bool true)) (hp : p) : RetF p e := .inr ⟨h, hp⟩

theorem mul_small {a b : Nat} (ha : a ≤ 4096) (hb : b ≤ 4096) : 0 ≤ ((a : Int) + 2) * ((b : Int) + 1) ∧ ((a : Int) + 2) * ((b : Int) + 1) ≤ 16789506 := by
  have h : (a + 2) * (b + 1) ≤ 4098 * 4097 := Nat.mul_le_mul (by omega) (by omega)
  have e : (((a + 2) * (b + 1) : Nat) : Int) = ((a : Int) + 2) * ((b : Int) + 1) := by simp
  omega

theorem mul_back {a b : Nat} (hm : 0 ≤ ((a : Int) + 2) * ((b : Int) + 1) ∧ ((a : Int) + 2) * ((b : Int) + 1) ≤ 16789506) (h : wrap64 (((a : Int) + 2) * ((b : Int) + 1)) ≤ 1048576) : (a + 2) * (b + 1) ≤ 1048576 := by
  have e : (((a + 2) * (b + 1) : Nat) : Int) = ((a : Int) + 2) * ((b : Int) + 1) := by simp
  rw [← e] at hm h
  unfold wrap64 at h
  omega

set_option maxRecDepth 100000 in
set_option maxHeartbeats 1000000 in
theorem fits_any (g r : ByteArray) (a1 : Option Addr) (b1 o1 n1 c1 : Nat) (f1 : Nat → ByteArray) (a2 : Option Addr) (b2 o2 n2 c2 : Nat) (f2 : Nat → ByteArray) (w : World)
    (hg : g.size ≤ 9223372036854775807) (hr : r.size ≤ 9223372036854775807) (hn1 : n1 ≤ 9223372036854775807) (hn2 : n2 ≤ 9223372036854775807) (h1 : Strs w a1 n1 b1 o1 f1) (h2 : Strs w a2 n2 b2 o2 f2) :
    Calls Try.prog 19 #[.string g, .string r, .slice a1 n1 c1, .slice a2 n2 c2] w fun e w' => RetF (Fits g r n1 f1 n2 f2) e ∧ w' = w := by
  by_cases hl1 : 4096 < n1
  · go_enter Try.func19, Try.ntmps19
    go_wp2
    go_ret
    exact ⟨RetF.no rfl, rfl⟩
  by_cases hl2 : 4096 < n2
  · go_enter Try.func19, Try.ntmps19
    go_wp2
    go_ret
    exact ⟨RetF.no rfl, rfl⟩
  by_cases hg1 : 1048576 < g.size
  · go_enter Try.func19, Try.ntmps19
    go_wp2
    go_ret
    exact ⟨RetF.no rfl, rfl⟩
  by_cases hr1 : 1048576 < r.size
  · go_enter Try.func19, Try.ntmps19
    go_wp2
    go_ret
    exact ⟨RetF.no rfl, rfl⟩
  have HM : Hid (0 ≤ ((n1 : Int) + 2) * ((n2 : Int) + 1) ∧ ((n1 : Int) + 2) * ((n2 : Int) + 1) ≤ 16789506) := mul_small (a := n1) (b := n2) (by omega) (by omega)
  have H1 : Hid (Strs w a1 n1 b1 o1 f1) := h1
  have H2 : Hid (Strs w a2 n2 b2 o2 f2) := h2
  clear h1 h2 hg hr hn1 hn2
  have hg2 : g.size ≤ 1048576 := by omega
  have hr2 : r.size ≤ 1048576 := by omega
  have hl1' : n1 ≤ 4096 := by omega
  have hl2' : n2 ≤ 4096 := by omega
  clear hl1 hl2 hg1 hr1
  go_enter Try.func19, Try.ntmps19
  go_wp2_with fail
  refine (bytes_any a1 b1 o1 n1 c1 f1 _ (by omega) H1.out).mono ?_
  rintro e w' ⟨⟨T1, rfl, ht1, hall1⟩, hw⟩
  subst hw
  have HA1 : Hid (T1 ≤ 1048576 → ∀ i, i < n1 → (f1 i).size ≤ 1048576) := hall1
  clear hall1
  go_wp2_with fail
  refine (bytes_any a2 b2 o2 n2 c2 f2 _ (by omega) H2.out).mono ?_
  rintro e w' ⟨⟨T2, rfl, ht2, hall2⟩, hw⟩
  subst hw
  have HA2 : Hid (T2 ≤ 1048576 → ∀ i, i < n2 → (f2 i).size ≤ 1048576) := hall2
  clear hall2
  go_wp2_with fail
  · go_ret
    exact ⟨RetF.no rfl, rfl⟩
  · go_ret
    exact ⟨RetF.no rfl, rfl⟩
  · go_ret
    exact ⟨RetF.no rfl, rfl⟩
  · have hsum : (g.size : Int) + r.size + T1 + T2 ≤ 1048576 := by assumption
    have hmul : wrap64 (((n1 : Int) + 2) * ((n2 : Int) + 1)) ≤ 1048576 := by assumption
    go_ret
    exact ⟨RetF.yes rfl ⟨hl1', hl2', hg2, hr2, HA1.out (by omega), HA2.out (by omega), mul_back HM.out hmul⟩, rfl⟩

end Go.Proofs.Qxb6000104a

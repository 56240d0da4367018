/-
  The walks of numStep (17) and numAccepting (18).
-/
import Derived.Test.Qxb6603177aClone
import Derived.Test.Qxb6603177aAuto
namespace Go.Proofs.Qxb6603177a
open Go.RowKit

theorem classes (c : Int) : c = 45 ∨ c = 48 ∨ (49 ≤ c ∧ c ≤ 57) ∨ c = 46 ∨ c = 101 ∨ c = 69 ∨ c = 43 ∨ (c ≠ 45 ∧ ¬ (48 ≤ c ∧ c ≤ 57) ∧ c ≠ 46 ∧ c ≠ 101 ∧ c ≠ 69 ∧ c ≠ 43) := by omega

theorem ret_i {k : IntKind} {a b : Int} (h : a = b) : Ending.returned (.int k a) = .returned (.int k b) := by rw [h]

theorem st_dig {c : Int} (h1 : 49 ≤ c) (h2 : c ≤ 57) : isD c = true ∧ c ≠ 45 ∧ c ≠ 48 ∧ c ≠ 46 ∧ ¬ (c = 101 ∨ c = 69) ∧ ¬ (c = 43 ∨ c = 45) := ⟨(isD_iff c).2 (by omega), by omega, by omega, by omega, by omega, by omega⟩

def numI (s : Nat) : Int := if s = 0 ∨ s = 1 ∨ s = 3 then 3 else if s = 2 then -1 else if s = 4 ∨ s = 5 then 5 else 8
theorem st_num {c : Int} (h : isD c = true ∧ c ≠ 45 ∧ c ≠ 48 ∧ c ≠ 46 ∧ ¬ (c = 101 ∨ c = 69) ∧ ¬ (c = 43 ∨ c = 45)) {s : Nat} : numI s = stI s c := by
  obtain ⟨k1, k2, k3, k4, k5, k6⟩ := h
  unfold numI stI stp
  simp only [k1, if_neg k2, if_neg k3, if_neg k4, if_neg k5, if_neg k6, if_true]
  by_cases h0 : s = 0
  · simp [h0]
  by_cases h1 : s = 1
  · simp [h1]
  by_cases h2 : s = 2
  · simp [h2]
  by_cases h3 : s = 3
  · simp [h3]
  by_cases h4 : s = 4
  · simp [h4]
  by_cases h5 : s = 5
  · simp [h5]
  by_cases h6 : s = 6
  · simp [h6]
  · simp [h0, h1, h2, h3, h4, h5, h6]

theorem st_other {c : Int} (h : c ≠ 45 ∧ ¬ (48 ≤ c ∧ c ≤ 57) ∧ c ≠ 46 ∧ c ≠ 101 ∧ c ≠ 69 ∧ c ≠ 43) (s : Nat) : stI s c = -1 := by
  have hd : ¬ isD c = true := fun k => h.2.1 ((isD_iff c).1 k)
  have h48 : c ≠ 48 := by omega
  unfold stI stp
  simp [h.1, h48, hd, h.2.2.1, h.2.2.2.1, h.2.2.2.2.1, h.2.2.2.2.2]

set_option maxRecDepth 100000 in
set_option maxHeartbeats 4000000 in
theorem numStep_any (s : Nat) (hs : s ≤ 8) (c : Int) (w : World) :
    Calls Try.prog 17 #[.int .i64 s, .int .u8 c] w fun e w' => e = .returned (.int .i64 (stI s c)) ∧ w' = w := by
  obtain rfl | rfl | rfl | rfl | rfl | rfl | rfl | rfl | rfl : s = 0 ∨ s = 1 ∨ s = 2 ∨ s = 3 ∨ s = 4 ∨ s = 5 ∨ s = 6 ∨ s = 7 ∨ s = 8 := by omega
  all_goals
    rcases classes c with rfl | rfl | ⟨h1, h2⟩ | rfl | rfl | rfl | rfl | h
    · go_enter Try.func17, Try.ntmps17
      go_wp2
      go_ret
      exact ⟨rfl, rfl⟩
    · go_enter Try.func17, Try.ntmps17
      go_wp2
      go_ret
      exact ⟨rfl, rfl⟩
    · obtain ⟨k1, k2, k3, k4, k5, k6⟩ := st_dig h1 h2
      have HK : Hid (isD c = true ∧ c ≠ 45 ∧ c ≠ 48 ∧ c ≠ 46 ∧ ¬ (c = 101 ∨ c = 69) ∧ ¬ (c = 43 ∨ c = 45)) := ⟨k1, k2, k3, k4, k5, k6⟩
      have b45 : (c == 45) = false := by simp; omega
      have b48 : (c == 48) = false := by simp; omega
      have b46 : (c == 46) = false := by simp; omega
      have b101 : (c == 101) = false := by simp; omega
      have b69 : (c == 69) = false := by simp; omega
      have b43 : (c == 43) = false := by simp; omega
      clear k1 k2 k3 k4 k5 k6
      go_enter Try.func17, Try.ntmps17
      go_wp2
      go_ret
      exact ⟨ret_i (by rw [← st_num HK.out]; rfl), rfl⟩
    · go_enter Try.func17, Try.ntmps17
      go_wp2
      go_ret
      exact ⟨rfl, rfl⟩
    · go_enter Try.func17, Try.ntmps17
      go_wp2
      go_ret
      exact ⟨rfl, rfl⟩
    · go_enter Try.func17, Try.ntmps17
      go_wp2
      go_ret
      exact ⟨rfl, rfl⟩
    · go_enter Try.func17, Try.ntmps17
      go_wp2
      go_ret
      exact ⟨rfl, rfl⟩
    · rw [st_other h]
      have h48 : ¬ (48 ≤ c ∧ c ≤ 57) := h.2.1
      have b45 : (c == 45) = false := by simp; omega
      have b48 : (c == 48) = false := by simp; omega
      have b46 : (c == 46) = false := by simp; omega
      have b101 : (c == 101) = false := by simp; omega
      have b69 : (c == 69) = false := by simp; omega
      have b43 : (c == 43) = false := by simp; omega
      clear h
      by_cases hlo : 48 ≤ c
      all_goals
        go_enter Try.func17, Try.ntmps17
        go_wp2
        go_ret
        exact ⟨rfl, rfl⟩

set_option maxHeartbeats 1000000 in
theorem numAccepting_any (s : Nat) (hs : s ≤ 8) (w : World) :
    Calls Try.prog 18 #[.int .i64 s] w fun e w' => e = .returned (.bool (acc s)) ∧ w' = w := by
  obtain rfl | rfl | rfl | rfl | rfl | rfl | rfl | rfl | rfl : s = 0 ∨ s = 1 ∨ s = 2 ∨ s = 3 ∨ s = 4 ∨ s = 5 ∨ s = 6 ∨ s = 7 ∨ s = 8 := by omega
  all_goals
    go_enter Try.func18, Try.ntmps18
    go_wp2
    go_ret
    exact ⟨rfl, rfl⟩

end Go.Proofs.Qxb6603177a

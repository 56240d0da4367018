/-
  The walk of zzRuneLen (52): between 0 and 4, and no further than the string's end.
-/
import Derived.Test.Qxb6001689aRows
import Derived.WalkKit
import Derived.WalkSpells
import Derived.WalkLawsBesides
namespace Go.Proofs.Qxb6001689a
open Go.RowKit
set_option linter.unusedVariables false


set_option maxRecDepth 100000 in
set_option maxHeartbeats 1000000 in
theorem rune_ascii (s : ByteArray) (i : Nat) (w : World) (hs : s.size ≤ 1152921504606846976) (hi : i < s.size) (hc : s[i].toNat < 128) :
    Calls Try.prog 52 #[.string s, .int .i64 i] w fun e w' => ∃ r : Nat, e = .returned (.int .i64 r) ∧ r ≤ 4 ∧ i + r ≤ s.size ∧ w' = w := by
  have hiz : (i : Int) < (s.size : Int) := by omega
  have z1 : (s[i].toNat : Int) < 128 := by omega
  go_enter Try.func52, Try.ntmps52
  go_wp2
  go_ret
  exact ⟨1, rfl, by omega, by omega, rfl⟩

set_option maxRecDepth 100000 in
set_option maxHeartbeats 1000000 in
theorem rune_low (s : ByteArray) (i : Nat) (w : World) (hs : s.size ≤ 1152921504606846976) (hi : i < s.size) (hc : 128 ≤ s[i].toNat ∧ s[i].toNat < 194) :
    Calls Try.prog 52 #[.string s, .int .i64 i] w fun e w' => ∃ r : Nat, e = .returned (.int .i64 r) ∧ r ≤ 4 ∧ i + r ≤ s.size ∧ w' = w := by
  have hiz : (i : Int) < (s.size : Int) := by omega
  have z1 : ¬ (s[i].toNat : Int) < 128 := by omega
  have z2 : ¬ 194 ≤ (s[i].toNat : Int) := by omega
  have z3 : ¬ 225 ≤ (s[i].toNat : Int) := by omega
  have z4 : ¬ 241 ≤ (s[i].toNat : Int) := by omega
  have e224 : ((s[i].toNat : Int) == 224) = false := by simp; omega
  have e238 : ((s[i].toNat : Int) == 238) = false := by simp; omega
  have e239 : ((s[i].toNat : Int) == 239) = false := by simp; omega
  have e237 : ((s[i].toNat : Int) == 237) = false := by simp; omega
  have e240 : ((s[i].toNat : Int) == 240) = false := by simp; omega
  have e244 : ((s[i].toNat : Int) == 244) = false := by simp; omega
  go_enter Try.func52, Try.ntmps52
  go_wp2
  go_ret
  exact ⟨0, rfl, by omega, by omega, rfl⟩

set_option maxRecDepth 100000 in
set_option maxHeartbeats 1000000 in
theorem rune_high (s : ByteArray) (i : Nat) (w : World) (hs : s.size ≤ 1152921504606846976) (hi : i < s.size) (hc : 245 ≤ s[i].toNat) :
    Calls Try.prog 52 #[.string s, .int .i64 i] w fun e w' => ∃ r : Nat, e = .returned (.int .i64 r) ∧ r ≤ 4 ∧ i + r ≤ s.size ∧ w' = w := by
  have hiz : (i : Int) < (s.size : Int) := by omega
  have z1 : ¬ (s[i].toNat : Int) < 128 := by omega
  have z2 : ¬ (s[i].toNat : Int) ≤ 223 := by omega
  have z3 : ¬ (s[i].toNat : Int) ≤ 236 := by omega
  have z4 : ¬ (s[i].toNat : Int) ≤ 243 := by omega
  have e224 : ((s[i].toNat : Int) == 224) = false := by simp; omega
  have e238 : ((s[i].toNat : Int) == 238) = false := by simp; omega
  have e239 : ((s[i].toNat : Int) == 239) = false := by simp; omega
  have e237 : ((s[i].toNat : Int) == 237) = false := by simp; omega
  have e240 : ((s[i].toNat : Int) == 240) = false := by simp; omega
  have e244 : ((s[i].toNat : Int) == 244) = false := by simp; omega
  go_enter Try.func52, Try.ntmps52
  go_wp2
  go_ret
  exact ⟨0, rfl, by omega, by omega, rfl⟩

set_option maxRecDepth 100000 in
set_option maxHeartbeats 1000000 in
theorem rune_two (s : ByteArray) (i : Nat) (w : World) (hs : s.size ≤ 1152921504606846976) (hi : i < s.size) (hc : 194 ≤ s[i].toNat ∧ s[i].toNat ≤ 223) :
    Calls Try.prog 52 #[.string s, .int .i64 i] w fun e w' => ∃ r : Nat, e = .returned (.int .i64 r) ∧ r ≤ 4 ∧ i + r ≤ s.size ∧ w' = w := by
  have hiz : (i : Int) < (s.size : Int) := by omega
  have z1 : ¬ (s[i].toNat : Int) < 128 := by omega
  have z2 : 194 ≤ (s[i].toNat : Int) := by omega
  have z3 : (s[i].toNat : Int) ≤ 223 := by omega
  by_cases hle : s.size ≤ i + 1
  · have hlez : (s.size : Int) - (i : Int) ≤ 1 := by omega
    go_enter Try.func52, Try.ntmps52
    go_wp2
    go_ret
    exact ⟨0, rfl, by omega, by omega, rfl⟩
  · have hlez : ¬ (s.size : Int) - (i : Int) ≤ 1 := by omega
    have h1z : (i : Int) + 1 < (s.size : Int) := by omega
    have h1n : i + 1 < s.size := by omega
    have hd := s[i + 1].toNat_lt
    by_cases hlo : s[i + 1].toNat < 128
    · have hloz : (s[i + 1].toNat : Int) < 128 := by omega
      go_enter Try.func52, Try.ntmps52
      go_wp2
      go_ret
      exact ⟨0, rfl, by omega, by omega, rfl⟩
    · have hloz : ¬ (s[i + 1].toNat : Int) < 128 := by omega
      by_cases hhi : 191 < s[i + 1].toNat
      · have hhiz : 191 < (s[i + 1].toNat : Int) := by omega
        go_enter Try.func52, Try.ntmps52
        go_wp2
        go_ret
        exact ⟨0, rfl, by omega, by omega, rfl⟩
      · have hhiz : ¬ 191 < (s[i + 1].toNat : Int) := by omega
        go_enter Try.func52, Try.ntmps52
        go_wp2
        go_loopw [9, 10] (fun d k wr => ∃ D K : Nat, 2 ≤ K ∧ K ≤ 1 + 1 ∧ D ≤ 255 ∧ d = .int .u8 D ∧ k = .int .i64 K ∧ wr = w) (fun _ k _ => 1 + 2 - (intOf k).toNat)
        case atStart => exact ⟨_, 2, Nat.le_refl _, by omega, by omega, rfl, rfl, rfl⟩
        case round =>
          obtain ⟨D, K, hK2, hKN, hD, rfl, rfl, rfl⟩ := hrel
          by_cases hK : K ≤ 1
          · exfalso; omega
          · have hKz : ¬ (K : Int) ≤ 1 := by omega
            go_wp2
            go_ret
            exact ⟨1 + 1, rfl, by omega, by omega, rfl⟩

set_option maxRecDepth 100000 in
set_option maxHeartbeats 1000000 in
theorem rune_e0 (s : ByteArray) (i : Nat) (w : World) (hs : s.size ≤ 1152921504606846976) (hi : i < s.size) (hc : s[i].toNat = 224) :
    Calls Try.prog 52 #[.string s, .int .i64 i] w fun e w' => ∃ r : Nat, e = .returned (.int .i64 r) ∧ r ≤ 4 ∧ i + r ≤ s.size ∧ w' = w := by
  have hiz : (i : Int) < (s.size : Int) := by omega
  have z1 : ¬ (s[i].toNat : Int) < 128 := by omega
  have y1 : 194 ≤ (s[i].toNat : Int) := by omega
  have y2 : ¬ (s[i].toNat : Int) ≤ 223 := by omega
  have t1 : ((s[i].toNat : Int) == 224) = true := by simp; omega
  by_cases hle : s.size ≤ i + 2
  · have hlez : (s.size : Int) - (i : Int) ≤ 2 := by omega
    go_enter Try.func52, Try.ntmps52
    go_wp2
    go_ret
    exact ⟨0, rfl, by omega, by omega, rfl⟩
  · have hlez : ¬ (s.size : Int) - (i : Int) ≤ 2 := by omega
    have h1z : (i : Int) + 1 < (s.size : Int) := by omega
    have h1n : i + 1 < s.size := by omega
    have hd := s[i + 1].toNat_lt
    by_cases hlo : s[i + 1].toNat < 160
    · have hloz : (s[i + 1].toNat : Int) < 160 := by omega
      go_enter Try.func52, Try.ntmps52
      go_wp2
      go_ret
      exact ⟨0, rfl, by omega, by omega, rfl⟩
    · have hloz : ¬ (s[i + 1].toNat : Int) < 160 := by omega
      by_cases hhi : 191 < s[i + 1].toNat
      · have hhiz : 191 < (s[i + 1].toNat : Int) := by omega
        go_enter Try.func52, Try.ntmps52
        go_wp2
        go_ret
        exact ⟨0, rfl, by omega, by omega, rfl⟩
      · have hhiz : ¬ 191 < (s[i + 1].toNat : Int) := by omega
        go_enter Try.func52, Try.ntmps52
        go_wp2
        go_loopw [9, 10] (fun d k wr => ∃ D K : Nat, 2 ≤ K ∧ K ≤ 2 + 1 ∧ D ≤ 255 ∧ d = .int .u8 D ∧ k = .int .i64 K ∧ wr = w) (fun _ k _ => 2 + 2 - (intOf k).toNat)
        case atStart => exact ⟨_, 2, Nat.le_refl _, by omega, by omega, rfl, rfl, rfl⟩
        case round =>
          obtain ⟨D, K, hK2, hKN, hD, rfl, rfl, rfl⟩ := hrel
          by_cases hK : K ≤ 2
          · have hKz : (K : Int) ≤ 2 := by omega
            have hkz : (i : Int) + (K : Int) < (s.size : Int) := by omega
            have hkn : i + K < s.size := by omega
            have hd2 := s[i + K].toNat_lt
            by_cases hlo2 : s[i + K].toNat < 128
            · have hlo2z : (s[i + K].toNat : Int) < 128 := by omega
              go_wp2
              go_ret
              exact ⟨0, rfl, by omega, by omega, rfl⟩
            · have hlo2z : ¬ (s[i + K].toNat : Int) < 128 := by omega
              by_cases hhi2 : 191 < s[i + K].toNat
              · have hhi2z : 191 < (s[i + K].toNat : Int) := by omega
                go_wp2
                go_ret
                exact ⟨0, rfl, by omega, by omega, rfl⟩
              · have hhi2z : ¬ 191 < (s[i + K].toNat : Int) := by omega
                go_wp2
                go_roundw
                case rel => exact ⟨_, K + 1, by omega, by omega, by omega, rfl, by go_num, trivial⟩
                case measure => simp [intOf]; omega
          · have hKz : ¬ (K : Int) ≤ 2 := by omega
            go_wp2
            go_ret
            exact ⟨2 + 1, rfl, by omega, by omega, rfl⟩

set_option maxRecDepth 100000 in
set_option maxHeartbeats 1000000 in
theorem rune_e1 (s : ByteArray) (i : Nat) (w : World) (hs : s.size ≤ 1152921504606846976) (hi : i < s.size) (hc : 225 ≤ s[i].toNat ∧ s[i].toNat ≤ 236) :
    Calls Try.prog 52 #[.string s, .int .i64 i] w fun e w' => ∃ r : Nat, e = .returned (.int .i64 r) ∧ r ≤ 4 ∧ i + r ≤ s.size ∧ w' = w := by
  have hiz : (i : Int) < (s.size : Int) := by omega
  have z1 : ¬ (s[i].toNat : Int) < 128 := by omega
  have y1 : 194 ≤ (s[i].toNat : Int) := by omega
  have y2 : ¬ (s[i].toNat : Int) ≤ 223 := by omega
  have e224 : ((s[i].toNat : Int) == 224) = false := by simp; omega
  have z2 : 225 ≤ (s[i].toNat : Int) := by omega
  have z3 : (s[i].toNat : Int) ≤ 236 := by omega
  by_cases hle : s.size ≤ i + 2
  · have hlez : (s.size : Int) - (i : Int) ≤ 2 := by omega
    go_enter Try.func52, Try.ntmps52
    go_wp2
    go_ret
    exact ⟨0, rfl, by omega, by omega, rfl⟩
  · have hlez : ¬ (s.size : Int) - (i : Int) ≤ 2 := by omega
    have h1z : (i : Int) + 1 < (s.size : Int) := by omega
    have h1n : i + 1 < s.size := by omega
    have hd := s[i + 1].toNat_lt
    by_cases hlo : s[i + 1].toNat < 128
    · have hloz : (s[i + 1].toNat : Int) < 128 := by omega
      go_enter Try.func52, Try.ntmps52
      go_wp2
      go_ret
      exact ⟨0, rfl, by omega, by omega, rfl⟩
    · have hloz : ¬ (s[i + 1].toNat : Int) < 128 := by omega
      by_cases hhi : 191 < s[i + 1].toNat
      · have hhiz : 191 < (s[i + 1].toNat : Int) := by omega
        go_enter Try.func52, Try.ntmps52
        go_wp2
        go_ret
        exact ⟨0, rfl, by omega, by omega, rfl⟩
      · have hhiz : ¬ 191 < (s[i + 1].toNat : Int) := by omega
        go_enter Try.func52, Try.ntmps52
        go_wp2
        go_loopw [9, 10] (fun d k wr => ∃ D K : Nat, 2 ≤ K ∧ K ≤ 2 + 1 ∧ D ≤ 255 ∧ d = .int .u8 D ∧ k = .int .i64 K ∧ wr = w) (fun _ k _ => 2 + 2 - (intOf k).toNat)
        case atStart => exact ⟨_, 2, Nat.le_refl _, by omega, by omega, rfl, rfl, rfl⟩
        case round =>
          obtain ⟨D, K, hK2, hKN, hD, rfl, rfl, rfl⟩ := hrel
          by_cases hK : K ≤ 2
          · have hKz : (K : Int) ≤ 2 := by omega
            have hkz : (i : Int) + (K : Int) < (s.size : Int) := by omega
            have hkn : i + K < s.size := by omega
            have hd2 := s[i + K].toNat_lt
            by_cases hlo2 : s[i + K].toNat < 128
            · have hlo2z : (s[i + K].toNat : Int) < 128 := by omega
              go_wp2
              go_ret
              exact ⟨0, rfl, by omega, by omega, rfl⟩
            · have hlo2z : ¬ (s[i + K].toNat : Int) < 128 := by omega
              by_cases hhi2 : 191 < s[i + K].toNat
              · have hhi2z : 191 < (s[i + K].toNat : Int) := by omega
                go_wp2
                go_ret
                exact ⟨0, rfl, by omega, by omega, rfl⟩
              · have hhi2z : ¬ 191 < (s[i + K].toNat : Int) := by omega
                go_wp2
                go_roundw
                case rel => exact ⟨_, K + 1, by omega, by omega, by omega, rfl, by go_num, trivial⟩
                case measure => simp [intOf]; omega
          · have hKz : ¬ (K : Int) ≤ 2 := by omega
            go_wp2
            go_ret
            exact ⟨2 + 1, rfl, by omega, by omega, rfl⟩

set_option maxRecDepth 100000 in
set_option maxHeartbeats 1000000 in
theorem rune_ee (s : ByteArray) (i : Nat) (w : World) (hs : s.size ≤ 1152921504606846976) (hi : i < s.size) (hc : s[i].toNat = 238) :
    Calls Try.prog 52 #[.string s, .int .i64 i] w fun e w' => ∃ r : Nat, e = .returned (.int .i64 r) ∧ r ≤ 4 ∧ i + r ≤ s.size ∧ w' = w := by
  have hiz : (i : Int) < (s.size : Int) := by omega
  have z1 : ¬ (s[i].toNat : Int) < 128 := by omega
  have y1 : 194 ≤ (s[i].toNat : Int) := by omega
  have y2 : ¬ (s[i].toNat : Int) ≤ 223 := by omega
  have y3 : 225 ≤ (s[i].toNat : Int) := by omega
  have y4 : ¬ (s[i].toNat : Int) ≤ 236 := by omega
  have e224 : ((s[i].toNat : Int) == 224) = false := by simp; omega
  have t1 : ((s[i].toNat : Int) == 238) = true := by simp; omega
  by_cases hle : s.size ≤ i + 2
  · have hlez : (s.size : Int) - (i : Int) ≤ 2 := by omega
    go_enter Try.func52, Try.ntmps52
    go_wp2
    go_ret
    exact ⟨0, rfl, by omega, by omega, rfl⟩
  · have hlez : ¬ (s.size : Int) - (i : Int) ≤ 2 := by omega
    have h1z : (i : Int) + 1 < (s.size : Int) := by omega
    have h1n : i + 1 < s.size := by omega
    have hd := s[i + 1].toNat_lt
    by_cases hlo : s[i + 1].toNat < 128
    · have hloz : (s[i + 1].toNat : Int) < 128 := by omega
      go_enter Try.func52, Try.ntmps52
      go_wp2
      go_ret
      exact ⟨0, rfl, by omega, by omega, rfl⟩
    · have hloz : ¬ (s[i + 1].toNat : Int) < 128 := by omega
      by_cases hhi : 191 < s[i + 1].toNat
      · have hhiz : 191 < (s[i + 1].toNat : Int) := by omega
        go_enter Try.func52, Try.ntmps52
        go_wp2
        go_ret
        exact ⟨0, rfl, by omega, by omega, rfl⟩
      · have hhiz : ¬ 191 < (s[i + 1].toNat : Int) := by omega
        go_enter Try.func52, Try.ntmps52
        go_wp2
        go_loopw [9, 10] (fun d k wr => ∃ D K : Nat, 2 ≤ K ∧ K ≤ 2 + 1 ∧ D ≤ 255 ∧ d = .int .u8 D ∧ k = .int .i64 K ∧ wr = w) (fun _ k _ => 2 + 2 - (intOf k).toNat)
        case atStart => exact ⟨_, 2, Nat.le_refl _, by omega, by omega, rfl, rfl, rfl⟩
        case round =>
          obtain ⟨D, K, hK2, hKN, hD, rfl, rfl, rfl⟩ := hrel
          by_cases hK : K ≤ 2
          · have hKz : (K : Int) ≤ 2 := by omega
            have hkz : (i : Int) + (K : Int) < (s.size : Int) := by omega
            have hkn : i + K < s.size := by omega
            have hd2 := s[i + K].toNat_lt
            by_cases hlo2 : s[i + K].toNat < 128
            · have hlo2z : (s[i + K].toNat : Int) < 128 := by omega
              go_wp2
              go_ret
              exact ⟨0, rfl, by omega, by omega, rfl⟩
            · have hlo2z : ¬ (s[i + K].toNat : Int) < 128 := by omega
              by_cases hhi2 : 191 < s[i + K].toNat
              · have hhi2z : 191 < (s[i + K].toNat : Int) := by omega
                go_wp2
                go_ret
                exact ⟨0, rfl, by omega, by omega, rfl⟩
              · have hhi2z : ¬ 191 < (s[i + K].toNat : Int) := by omega
                go_wp2
                go_roundw
                case rel => exact ⟨_, K + 1, by omega, by omega, by omega, rfl, by go_num, trivial⟩
                case measure => simp [intOf]; omega
          · have hKz : ¬ (K : Int) ≤ 2 := by omega
            go_wp2
            go_ret
            exact ⟨2 + 1, rfl, by omega, by omega, rfl⟩

set_option maxRecDepth 100000 in
set_option maxHeartbeats 1000000 in
theorem rune_ef (s : ByteArray) (i : Nat) (w : World) (hs : s.size ≤ 1152921504606846976) (hi : i < s.size) (hc : s[i].toNat = 239) :
    Calls Try.prog 52 #[.string s, .int .i64 i] w fun e w' => ∃ r : Nat, e = .returned (.int .i64 r) ∧ r ≤ 4 ∧ i + r ≤ s.size ∧ w' = w := by
  have hiz : (i : Int) < (s.size : Int) := by omega
  have z1 : ¬ (s[i].toNat : Int) < 128 := by omega
  have y1 : 194 ≤ (s[i].toNat : Int) := by omega
  have y2 : ¬ (s[i].toNat : Int) ≤ 223 := by omega
  have y3 : 225 ≤ (s[i].toNat : Int) := by omega
  have y4 : ¬ (s[i].toNat : Int) ≤ 236 := by omega
  have e224 : ((s[i].toNat : Int) == 224) = false := by simp; omega
  have e238 : ((s[i].toNat : Int) == 238) = false := by simp; omega
  have t1 : ((s[i].toNat : Int) == 239) = true := by simp; omega
  by_cases hle : s.size ≤ i + 2
  · have hlez : (s.size : Int) - (i : Int) ≤ 2 := by omega
    go_enter Try.func52, Try.ntmps52
    go_wp2
    go_ret
    exact ⟨0, rfl, by omega, by omega, rfl⟩
  · have hlez : ¬ (s.size : Int) - (i : Int) ≤ 2 := by omega
    have h1z : (i : Int) + 1 < (s.size : Int) := by omega
    have h1n : i + 1 < s.size := by omega
    have hd := s[i + 1].toNat_lt
    by_cases hlo : s[i + 1].toNat < 128
    · have hloz : (s[i + 1].toNat : Int) < 128 := by omega
      go_enter Try.func52, Try.ntmps52
      go_wp2
      go_ret
      exact ⟨0, rfl, by omega, by omega, rfl⟩
    · have hloz : ¬ (s[i + 1].toNat : Int) < 128 := by omega
      by_cases hhi : 191 < s[i + 1].toNat
      · have hhiz : 191 < (s[i + 1].toNat : Int) := by omega
        go_enter Try.func52, Try.ntmps52
        go_wp2
        go_ret
        exact ⟨0, rfl, by omega, by omega, rfl⟩
      · have hhiz : ¬ 191 < (s[i + 1].toNat : Int) := by omega
        go_enter Try.func52, Try.ntmps52
        go_wp2
        go_loopw [9, 10] (fun d k wr => ∃ D K : Nat, 2 ≤ K ∧ K ≤ 2 + 1 ∧ D ≤ 255 ∧ d = .int .u8 D ∧ k = .int .i64 K ∧ wr = w) (fun _ k _ => 2 + 2 - (intOf k).toNat)
        case atStart => exact ⟨_, 2, Nat.le_refl _, by omega, by omega, rfl, rfl, rfl⟩
        case round =>
          obtain ⟨D, K, hK2, hKN, hD, rfl, rfl, rfl⟩ := hrel
          by_cases hK : K ≤ 2
          · have hKz : (K : Int) ≤ 2 := by omega
            have hkz : (i : Int) + (K : Int) < (s.size : Int) := by omega
            have hkn : i + K < s.size := by omega
            have hd2 := s[i + K].toNat_lt
            by_cases hlo2 : s[i + K].toNat < 128
            · have hlo2z : (s[i + K].toNat : Int) < 128 := by omega
              go_wp2
              go_ret
              exact ⟨0, rfl, by omega, by omega, rfl⟩
            · have hlo2z : ¬ (s[i + K].toNat : Int) < 128 := by omega
              by_cases hhi2 : 191 < s[i + K].toNat
              · have hhi2z : 191 < (s[i + K].toNat : Int) := by omega
                go_wp2
                go_ret
                exact ⟨0, rfl, by omega, by omega, rfl⟩
              · have hhi2z : ¬ 191 < (s[i + K].toNat : Int) := by omega
                go_wp2
                go_roundw
                case rel => exact ⟨_, K + 1, by omega, by omega, by omega, rfl, by go_num, trivial⟩
                case measure => simp [intOf]; omega
          · have hKz : ¬ (K : Int) ≤ 2 := by omega
            go_wp2
            go_ret
            exact ⟨2 + 1, rfl, by omega, by omega, rfl⟩

set_option maxRecDepth 100000 in
set_option maxHeartbeats 1000000 in
theorem rune_ed (s : ByteArray) (i : Nat) (w : World) (hs : s.size ≤ 1152921504606846976) (hi : i < s.size) (hc : s[i].toNat = 237) :
    Calls Try.prog 52 #[.string s, .int .i64 i] w fun e w' => ∃ r : Nat, e = .returned (.int .i64 r) ∧ r ≤ 4 ∧ i + r ≤ s.size ∧ w' = w := by
  have hiz : (i : Int) < (s.size : Int) := by omega
  have z1 : ¬ (s[i].toNat : Int) < 128 := by omega
  have y1 : 194 ≤ (s[i].toNat : Int) := by omega
  have y2 : ¬ (s[i].toNat : Int) ≤ 223 := by omega
  have y3 : 225 ≤ (s[i].toNat : Int) := by omega
  have y4 : ¬ (s[i].toNat : Int) ≤ 236 := by omega
  have e224 : ((s[i].toNat : Int) == 224) = false := by simp; omega
  have e238 : ((s[i].toNat : Int) == 238) = false := by simp; omega
  have e239 : ((s[i].toNat : Int) == 239) = false := by simp; omega
  have t1 : ((s[i].toNat : Int) == 237) = true := by simp; omega
  by_cases hle : s.size ≤ i + 2
  · have hlez : (s.size : Int) - (i : Int) ≤ 2 := by omega
    go_enter Try.func52, Try.ntmps52
    go_wp2
    go_ret
    exact ⟨0, rfl, by omega, by omega, rfl⟩
  · have hlez : ¬ (s.size : Int) - (i : Int) ≤ 2 := by omega
    have h1z : (i : Int) + 1 < (s.size : Int) := by omega
    have h1n : i + 1 < s.size := by omega
    have hd := s[i + 1].toNat_lt
    by_cases hlo : s[i + 1].toNat < 128
    · have hloz : (s[i + 1].toNat : Int) < 128 := by omega
      go_enter Try.func52, Try.ntmps52
      go_wp2
      go_ret
      exact ⟨0, rfl, by omega, by omega, rfl⟩
    · have hloz : ¬ (s[i + 1].toNat : Int) < 128 := by omega
      by_cases hhi : 159 < s[i + 1].toNat
      · have hhiz : 159 < (s[i + 1].toNat : Int) := by omega
        go_enter Try.func52, Try.ntmps52
        go_wp2
        go_ret
        exact ⟨0, rfl, by omega, by omega, rfl⟩
      · have hhiz : ¬ 159 < (s[i + 1].toNat : Int) := by omega
        go_enter Try.func52, Try.ntmps52
        go_wp2
        go_loopw [9, 10] (fun d k wr => ∃ D K : Nat, 2 ≤ K ∧ K ≤ 2 + 1 ∧ D ≤ 255 ∧ d = .int .u8 D ∧ k = .int .i64 K ∧ wr = w) (fun _ k _ => 2 + 2 - (intOf k).toNat)
        case atStart => exact ⟨_, 2, Nat.le_refl _, by omega, by omega, rfl, rfl, rfl⟩
        case round =>
          obtain ⟨D, K, hK2, hKN, hD, rfl, rfl, rfl⟩ := hrel
          by_cases hK : K ≤ 2
          · have hKz : (K : Int) ≤ 2 := by omega
            have hkz : (i : Int) + (K : Int) < (s.size : Int) := by omega
            have hkn : i + K < s.size := by omega
            have hd2 := s[i + K].toNat_lt
            by_cases hlo2 : s[i + K].toNat < 128
            · have hlo2z : (s[i + K].toNat : Int) < 128 := by omega
              go_wp2
              go_ret
              exact ⟨0, rfl, by omega, by omega, rfl⟩
            · have hlo2z : ¬ (s[i + K].toNat : Int) < 128 := by omega
              by_cases hhi2 : 191 < s[i + K].toNat
              · have hhi2z : 191 < (s[i + K].toNat : Int) := by omega
                go_wp2
                go_ret
                exact ⟨0, rfl, by omega, by omega, rfl⟩
              · have hhi2z : ¬ 191 < (s[i + K].toNat : Int) := by omega
                go_wp2
                go_roundw
                case rel => exact ⟨_, K + 1, by omega, by omega, by omega, rfl, by go_num, trivial⟩
                case measure => simp [intOf]; omega
          · have hKz : ¬ (K : Int) ≤ 2 := by omega
            go_wp2
            go_ret
            exact ⟨2 + 1, rfl, by omega, by omega, rfl⟩

set_option maxRecDepth 100000 in
set_option maxHeartbeats 1000000 in
theorem rune_f0 (s : ByteArray) (i : Nat) (w : World) (hs : s.size ≤ 1152921504606846976) (hi : i < s.size) (hc : s[i].toNat = 240) :
    Calls Try.prog 52 #[.string s, .int .i64 i] w fun e w' => ∃ r : Nat, e = .returned (.int .i64 r) ∧ r ≤ 4 ∧ i + r ≤ s.size ∧ w' = w := by
  have hiz : (i : Int) < (s.size : Int) := by omega
  have z1 : ¬ (s[i].toNat : Int) < 128 := by omega
  have y1 : 194 ≤ (s[i].toNat : Int) := by omega
  have y2 : ¬ (s[i].toNat : Int) ≤ 223 := by omega
  have y3 : 225 ≤ (s[i].toNat : Int) := by omega
  have y4 : ¬ (s[i].toNat : Int) ≤ 236 := by omega
  have e224 : ((s[i].toNat : Int) == 224) = false := by simp; omega
  have e238 : ((s[i].toNat : Int) == 238) = false := by simp; omega
  have e239 : ((s[i].toNat : Int) == 239) = false := by simp; omega
  have e237 : ((s[i].toNat : Int) == 237) = false := by simp; omega
  have t1 : ((s[i].toNat : Int) == 240) = true := by simp; omega
  by_cases hle : s.size ≤ i + 3
  · have hlez : (s.size : Int) - (i : Int) ≤ 3 := by omega
    go_enter Try.func52, Try.ntmps52
    go_wp2
    go_ret
    exact ⟨0, rfl, by omega, by omega, rfl⟩
  · have hlez : ¬ (s.size : Int) - (i : Int) ≤ 3 := by omega
    have h1z : (i : Int) + 1 < (s.size : Int) := by omega
    have h1n : i + 1 < s.size := by omega
    have hd := s[i + 1].toNat_lt
    by_cases hlo : s[i + 1].toNat < 144
    · have hloz : (s[i + 1].toNat : Int) < 144 := by omega
      go_enter Try.func52, Try.ntmps52
      go_wp2
      go_ret
      exact ⟨0, rfl, by omega, by omega, rfl⟩
    · have hloz : ¬ (s[i + 1].toNat : Int) < 144 := by omega
      by_cases hhi : 191 < s[i + 1].toNat
      · have hhiz : 191 < (s[i + 1].toNat : Int) := by omega
        go_enter Try.func52, Try.ntmps52
        go_wp2
        go_ret
        exact ⟨0, rfl, by omega, by omega, rfl⟩
      · have hhiz : ¬ 191 < (s[i + 1].toNat : Int) := by omega
        go_enter Try.func52, Try.ntmps52
        go_wp2
        go_loopw [9, 10] (fun d k wr => ∃ D K : Nat, 2 ≤ K ∧ K ≤ 3 + 1 ∧ D ≤ 255 ∧ d = .int .u8 D ∧ k = .int .i64 K ∧ wr = w) (fun _ k _ => 3 + 2 - (intOf k).toNat)
        case atStart => exact ⟨_, 2, Nat.le_refl _, by omega, by omega, rfl, rfl, rfl⟩
        case round =>
          obtain ⟨D, K, hK2, hKN, hD, rfl, rfl, rfl⟩ := hrel
          by_cases hK : K ≤ 3
          · have hKz : (K : Int) ≤ 3 := by omega
            have hkz : (i : Int) + (K : Int) < (s.size : Int) := by omega
            have hkn : i + K < s.size := by omega
            have hd2 := s[i + K].toNat_lt
            by_cases hlo2 : s[i + K].toNat < 128
            · have hlo2z : (s[i + K].toNat : Int) < 128 := by omega
              go_wp2
              go_ret
              exact ⟨0, rfl, by omega, by omega, rfl⟩
            · have hlo2z : ¬ (s[i + K].toNat : Int) < 128 := by omega
              by_cases hhi2 : 191 < s[i + K].toNat
              · have hhi2z : 191 < (s[i + K].toNat : Int) := by omega
                go_wp2
                go_ret
                exact ⟨0, rfl, by omega, by omega, rfl⟩
              · have hhi2z : ¬ 191 < (s[i + K].toNat : Int) := by omega
                go_wp2
                go_roundw
                case rel => exact ⟨_, K + 1, by omega, by omega, by omega, rfl, by go_num, trivial⟩
                case measure => simp [intOf]; omega
          · have hKz : ¬ (K : Int) ≤ 3 := by omega
            go_wp2
            go_ret
            exact ⟨3 + 1, rfl, by omega, by omega, rfl⟩

set_option maxRecDepth 100000 in
set_option maxHeartbeats 1000000 in
theorem rune_f1 (s : ByteArray) (i : Nat) (w : World) (hs : s.size ≤ 1152921504606846976) (hi : i < s.size) (hc : 241 ≤ s[i].toNat ∧ s[i].toNat ≤ 243) :
    Calls Try.prog 52 #[.string s, .int .i64 i] w fun e w' => ∃ r : Nat, e = .returned (.int .i64 r) ∧ r ≤ 4 ∧ i + r ≤ s.size ∧ w' = w := by
  have hiz : (i : Int) < (s.size : Int) := by omega
  have z1 : ¬ (s[i].toNat : Int) < 128 := by omega
  have y1 : 194 ≤ (s[i].toNat : Int) := by omega
  have y2 : ¬ (s[i].toNat : Int) ≤ 223 := by omega
  have y3 : 225 ≤ (s[i].toNat : Int) := by omega
  have y4 : ¬ (s[i].toNat : Int) ≤ 236 := by omega
  have e224 : ((s[i].toNat : Int) == 224) = false := by simp; omega
  have e238 : ((s[i].toNat : Int) == 238) = false := by simp; omega
  have e239 : ((s[i].toNat : Int) == 239) = false := by simp; omega
  have e237 : ((s[i].toNat : Int) == 237) = false := by simp; omega
  have e240 : ((s[i].toNat : Int) == 240) = false := by simp; omega
  have z2 : 241 ≤ (s[i].toNat : Int) := by omega
  have z3 : (s[i].toNat : Int) ≤ 243 := by omega
  by_cases hle : s.size ≤ i + 3
  · have hlez : (s.size : Int) - (i : Int) ≤ 3 := by omega
    go_enter Try.func52, Try.ntmps52
    go_wp2
    go_ret
    exact ⟨0, rfl, by omega, by omega, rfl⟩
  · have hlez : ¬ (s.size : Int) - (i : Int) ≤ 3 := by omega
    have h1z : (i : Int) + 1 < (s.size : Int) := by omega
    have h1n : i + 1 < s.size := by omega
    have hd := s[i + 1].toNat_lt
    by_cases hlo : s[i + 1].toNat < 128
    · have hloz : (s[i + 1].toNat : Int) < 128 := by omega
      go_enter Try.func52, Try.ntmps52
      go_wp2
      go_ret
      exact ⟨0, rfl, by omega, by omega, rfl⟩
    · have hloz : ¬ (s[i + 1].toNat : Int) < 128 := by omega
      by_cases hhi : 191 < s[i + 1].toNat
      · have hhiz : 191 < (s[i + 1].toNat : Int) := by omega
        go_enter Try.func52, Try.ntmps52
        go_wp2
        go_ret
        exact ⟨0, rfl, by omega, by omega, rfl⟩
      · have hhiz : ¬ 191 < (s[i + 1].toNat : Int) := by omega
        go_enter Try.func52, Try.ntmps52
        go_wp2
        go_loopw [9, 10] (fun d k wr => ∃ D K : Nat, 2 ≤ K ∧ K ≤ 3 + 1 ∧ D ≤ 255 ∧ d = .int .u8 D ∧ k = .int .i64 K ∧ wr = w) (fun _ k _ => 3 + 2 - (intOf k).toNat)
        case atStart => exact ⟨_, 2, Nat.le_refl _, by omega, by omega, rfl, rfl, rfl⟩
        case round =>
          obtain ⟨D, K, hK2, hKN, hD, rfl, rfl, rfl⟩ := hrel
          by_cases hK : K ≤ 3
          · have hKz : (K : Int) ≤ 3 := by omega
            have hkz : (i : Int) + (K : Int) < (s.size : Int) := by omega
            have hkn : i + K < s.size := by omega
            have hd2 := s[i + K].toNat_lt
            by_cases hlo2 : s[i + K].toNat < 128
            · have hlo2z : (s[i + K].toNat : Int) < 128 := by omega
              go_wp2
              go_ret
              exact ⟨0, rfl, by omega, by omega, rfl⟩
            · have hlo2z : ¬ (s[i + K].toNat : Int) < 128 := by omega
              by_cases hhi2 : 191 < s[i + K].toNat
              · have hhi2z : 191 < (s[i + K].toNat : Int) := by omega
                go_wp2
                go_ret
                exact ⟨0, rfl, by omega, by omega, rfl⟩
              · have hhi2z : ¬ 191 < (s[i + K].toNat : Int) := by omega
                go_wp2
                go_roundw
                case rel => exact ⟨_, K + 1, by omega, by omega, by omega, rfl, by go_num, trivial⟩
                case measure => simp [intOf]; omega
          · have hKz : ¬ (K : Int) ≤ 3 := by omega
            go_wp2
            go_ret
            exact ⟨3 + 1, rfl, by omega, by omega, rfl⟩

set_option maxRecDepth 100000 in
set_option maxHeartbeats 1000000 in
theorem rune_f4 (s : ByteArray) (i : Nat) (w : World) (hs : s.size ≤ 1152921504606846976) (hi : i < s.size) (hc : s[i].toNat = 244) :
    Calls Try.prog 52 #[.string s, .int .i64 i] w fun e w' => ∃ r : Nat, e = .returned (.int .i64 r) ∧ r ≤ 4 ∧ i + r ≤ s.size ∧ w' = w := by
  have hiz : (i : Int) < (s.size : Int) := by omega
  have z1 : ¬ (s[i].toNat : Int) < 128 := by omega
  have y1 : 194 ≤ (s[i].toNat : Int) := by omega
  have y2 : ¬ (s[i].toNat : Int) ≤ 223 := by omega
  have y3 : 225 ≤ (s[i].toNat : Int) := by omega
  have y4 : ¬ (s[i].toNat : Int) ≤ 236 := by omega
  have y5 : 241 ≤ (s[i].toNat : Int) := by omega
  have y6 : ¬ (s[i].toNat : Int) ≤ 243 := by omega
  have e224 : ((s[i].toNat : Int) == 224) = false := by simp; omega
  have e238 : ((s[i].toNat : Int) == 238) = false := by simp; omega
  have e239 : ((s[i].toNat : Int) == 239) = false := by simp; omega
  have e237 : ((s[i].toNat : Int) == 237) = false := by simp; omega
  have e240 : ((s[i].toNat : Int) == 240) = false := by simp; omega
  have t1 : ((s[i].toNat : Int) == 244) = true := by simp; omega
  by_cases hle : s.size ≤ i + 3
  · have hlez : (s.size : Int) - (i : Int) ≤ 3 := by omega
    go_enter Try.func52, Try.ntmps52
    go_wp2
    go_ret
    exact ⟨0, rfl, by omega, by omega, rfl⟩
  · have hlez : ¬ (s.size : Int) - (i : Int) ≤ 3 := by omega
    have h1z : (i : Int) + 1 < (s.size : Int) := by omega
    have h1n : i + 1 < s.size := by omega
    have hd := s[i + 1].toNat_lt
    by_cases hlo : s[i + 1].toNat < 128
    · have hloz : (s[i + 1].toNat : Int) < 128 := by omega
      go_enter Try.func52, Try.ntmps52
      go_wp2
      go_ret
      exact ⟨0, rfl, by omega, by omega, rfl⟩
    · have hloz : ¬ (s[i + 1].toNat : Int) < 128 := by omega
      by_cases hhi : 143 < s[i + 1].toNat
      · have hhiz : 143 < (s[i + 1].toNat : Int) := by omega
        go_enter Try.func52, Try.ntmps52
        go_wp2
        go_ret
        exact ⟨0, rfl, by omega, by omega, rfl⟩
      · have hhiz : ¬ 143 < (s[i + 1].toNat : Int) := by omega
        go_enter Try.func52, Try.ntmps52
        go_wp2
        go_loopw [9, 10] (fun d k wr => ∃ D K : Nat, 2 ≤ K ∧ K ≤ 3 + 1 ∧ D ≤ 255 ∧ d = .int .u8 D ∧ k = .int .i64 K ∧ wr = w) (fun _ k _ => 3 + 2 - (intOf k).toNat)
        case atStart => exact ⟨_, 2, Nat.le_refl _, by omega, by omega, rfl, rfl, rfl⟩
        case round =>
          obtain ⟨D, K, hK2, hKN, hD, rfl, rfl, rfl⟩ := hrel
          by_cases hK : K ≤ 3
          · have hKz : (K : Int) ≤ 3 := by omega
            have hkz : (i : Int) + (K : Int) < (s.size : Int) := by omega
            have hkn : i + K < s.size := by omega
            have hd2 := s[i + K].toNat_lt
            by_cases hlo2 : s[i + K].toNat < 128
            · have hlo2z : (s[i + K].toNat : Int) < 128 := by omega
              go_wp2
              go_ret
              exact ⟨0, rfl, by omega, by omega, rfl⟩
            · have hlo2z : ¬ (s[i + K].toNat : Int) < 128 := by omega
              by_cases hhi2 : 191 < s[i + K].toNat
              · have hhi2z : 191 < (s[i + K].toNat : Int) := by omega
                go_wp2
                go_ret
                exact ⟨0, rfl, by omega, by omega, rfl⟩
              · have hhi2z : ¬ 191 < (s[i + K].toNat : Int) := by omega
                go_wp2
                go_roundw
                case rel => exact ⟨_, K + 1, by omega, by omega, by omega, rfl, by go_num, trivial⟩
                case measure => simp [intOf]; omega
          · have hKz : ¬ (K : Int) ≤ 3 := by omega
            go_wp2
            go_ret
            exact ⟨3 + 1, rfl, by omega, by omega, rfl⟩

theorem rune_any (s : ByteArray) (i : Nat) (w : World) (hs : s.size ≤ 1152921504606846976) (hi : i < s.size) :
    Calls Try.prog 52 #[.string s, .int .i64 i] w fun e w' => ∃ r : Nat, e = .returned (.int .i64 r) ∧ r ≤ 4 ∧ i + r ≤ s.size ∧ w' = w := by
  have h : s[i].toNat < 128 ∨ (128 ≤ s[i].toNat ∧ s[i].toNat < 194) ∨ 245 ≤ s[i].toNat ∨ (194 ≤ s[i].toNat ∧ s[i].toNat ≤ 223) ∨ s[i].toNat = 224 ∨ (225 ≤ s[i].toNat ∧ s[i].toNat ≤ 236) ∨ s[i].toNat = 238 ∨ s[i].toNat = 239 ∨ s[i].toNat = 237 ∨ s[i].toNat = 240 ∨ (241 ≤ s[i].toNat ∧ s[i].toNat ≤ 243) ∨ s[i].toNat = 244 := by omega
  rcases h with h | h | h | h | h | h | h | h | h | h | h | h
  · exact rune_ascii s i w hs hi h
  · exact rune_low s i w hs hi h
  · exact rune_high s i w hs hi h
  · exact rune_two s i w hs hi h
  · exact rune_e0 s i w hs hi h
  · exact rune_e1 s i w hs hi h
  · exact rune_ee s i w hs hi h
  · exact rune_ef s i w hs hi h
  · exact rune_ed s i w hs hi h
  · exact rune_f0 s i w hs hi h
  · exact rune_f1 s i w hs hi h
  · exact rune_f4 s i w hs hi h

end Go.Proofs.Qxb6001689a

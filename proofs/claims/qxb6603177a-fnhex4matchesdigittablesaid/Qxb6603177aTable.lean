/-
  The walk of hexValue (14) and of FnHex4MatchesDigitTable (5).
-/
import Derived.Test.Qxb6603177aHex
namespace Go.Proofs.Qxb6603177a
open Go.RowKit

def tabT : ByteArray := ⟨#[48, 49, 50, 51, 52, 53, 54, 55, 56, 57, 97, 98, 99, 100, 101, 102, 48, 49, 50, 51, 52, 53, 54, 55, 56, 57, 65, 66, 67, 68, 69, 70]⟩
def tab (k : Nat) : Int := if k < 10 then 48 + k else if k < 16 then 87 + k else if k < 26 then 32 + k else 39 + k
theorem tab_fin : ∀ k : Fin 32, ((tabT[k.val]'(by have := k.isLt; exact this)).toNat : Int) = tab k.val := by decide
theorem tab_at (k : Nat) (h0 : k < 32) (h : k < tabT.size) : ((tabT[k]).toNat : Int) = tab k := tab_fin ⟨k, h0⟩
theorem tab_hit (k : Nat) (hk : k < 32) : hexD (tab k) = ((k % 16 : Nat) : Int) := by
  unfold hexD tab
  (repeat' split) <;> omega
theorem tab_miss (c : Int) (h : ∀ j, j < 32 → tab j ≠ c) : hexD c = -1 := by
  unfold hexD
  by_cases h1 : 48 ≤ c ∧ c ≤ 57
  · exact absurd (by unfold tab; rw [if_pos (by omega)]; omega) (h (c - 48).toNat (by omega))
  · rw [if_neg h1]
    by_cases h2 : 97 ≤ c ∧ c ≤ 102
    · exact absurd (by unfold tab; rw [if_neg (by omega), if_pos (by omega)]; omega) (h (c - 87).toNat (by omega))
    · rw [if_neg h2]
      by_cases h3 : 65 ≤ c ∧ c ≤ 70
      · exact absurd (by unfold tab; rw [if_neg (by omega), if_neg (by omega), if_neg (by omega)]; omega) (h (c - 39).toNat (by omega))
      · rw [if_neg h3]

set_option maxHeartbeats 400000 in
theorem hexValue_any (c : Int) (w : World) :
    Calls Try.prog 14 #[.int .u8 c] w fun e w' => e = .returned (.int .i64 (hexD c)) ∧ w' = w := by
  go_enter Try.func14, Try.ntmps14
  go_wp2
  go_loop [3] (fun i => ∃ k : Nat, k ≤ 32 ∧ i = .int .i64 k ∧ ∀ j, j < k → tab j ≠ c) (fun i => 32 - (intOf i).toNat)
  case atStart => exact ⟨0, by omega, rfl, fun j hj => by omega⟩
  case round =>
    obtain ⟨k, hk, rfl, hall⟩ := hrel
    have HALL : Hid (∀ j, j < k → tab j ≠ c) := hall
    clear hall
    by_cases hlt : k < 32
    · have hltz : (k : Int) < 32 := by omega
      go_wp2
      · rename_i hit _
        go_ret
        have e := tab_at k hlt (by exact hlt)
        have e2 : tab k = c := by rw [← e]; exact eq_of_beq hit
        exact ⟨by rw [← e2, tab_hit k hlt]; go_num, rfl⟩
      · rename_i miss
        go_round
        case rel =>
          refine ⟨k + 1, by omega, by go_num, fun j hj => ?_⟩
          by_cases ej : j = k
          · subst ej
            have e := tab_at j hlt (by exact hlt)
            rw [← e]
            exact ne_of_beq_false miss
          · exact HALL.out j (by omega)
        case measure => simp [intOf]; omega
    · obtain rfl : k = 32 := by omega
      go_wp2
      go_ret
      exact ⟨by rw [tab_miss c HALL.out]; rfl, rfl⟩

def wt (k : Nat) : Int := if k = 0 then 65536 else if k = 1 then 4096 else if k = 2 then 256 else if k = 3 then 16 else 1

theorem want_step (f : Nat → Int) (z : Int) (k : Nat) (hk : k < 4) (hz : z = hexV f k * wt k) : z + hexD (f k) * (wt k / 16) = hexV f (k + 1) * wt (k + 1) := by
  subst hz
  obtain rfl | rfl | rfl | rfl : k = 0 ∨ k = 1 ∨ k = 2 ∨ k = 3 := by omega
  all_goals (simp [wt, hexV]; try omega)

theorem want_bd (f : Nat → Int) (z : Int) (k : Nat) (hk : k ≤ 4) (hz : z = hexV f k * wt k) (hall : ∀ j, j < k → 0 ≤ hexD (f j)) : 0 ≤ z ∧ z ≤ 65535 := by
  subst hz
  have p := hexV_pos f k hall
  have d0 := hexD_lt (f 0); have d1 := hexD_lt (f 1); have d2 := hexD_lt (f 2); have d3 := hexD_lt (f 3)
  obtain rfl | rfl | rfl | rfl | rfl : k = 0 ∨ k = 1 ∨ k = 2 ∨ k = 3 ∨ k = 4 := by omega
  all_goals (simp [wt, hexV] at p ⊢; try omega)

theorem wrap_in (z : Int) (h : 0 ≤ z ∧ z ≤ 65535) : wrap32 z = z := by unfold wrap32; omega

set_option maxHeartbeats 400000 in
theorem zzhex4_long (b off n c : Nat) (f : Nat → Int) (w : World) (hn : 4 ≤ n) (hnc : n ≤ c) (hcm : c ≤ 9223372036854775807) (hB : Bytes w (some ⟨b, off, none⟩) n b off f) :
    Calls Try.prog 13 #[.slice (some ⟨b, off, none⟩) n c] w fun e w' => Hex4 f e ∧ w' = w := by
  have HB : Hid (Bytes w (some ⟨b, off, none⟩) n b off f) := hB
  clear hB
  go_enter Try.func13, Try.ntmps13
  go_wp2_with fail
  refine (hex4_long b off n c f w hn hnc hcm HB.out).mono ?_
  rintro e w' ⟨hh, rfl⟩
  rcases hh with ⟨rfl, hh⟩ | ⟨rfl, hh⟩
  · have HH : Hid _ := hh
    clear hh
    go_wp2
    go_ret2
    exact ⟨.inl ⟨rfl, HH.out⟩, rfl⟩
  · have HH : Hid _ := hh
    clear hh
    go_wp2
    go_ret2
    exact ⟨.inr ⟨rfl, HH.out⟩, rfl⟩

set_option maxHeartbeats 400000 in
theorem table_short (a : Option Addr) (b off n c : Nat) (f : Nat → Int) (w : World) (h4 : n < 4) (ha : a = none → n = 0 ∧ c = 0) (hB : Bytes w a n b off f) :
    Calls Try.prog 5 #[.slice a n c] w fun e w' => e = .returned (.bool true) ∧ Below w.heap.size w w' := by
  have HB : Hid (Bytes w a n b off f) := hB
  have HA : Hid (a = none → n = 0 ∧ c = 0) := ha
  clear hB ha
  go_enter Try.func5, Try.ntmps5
  go_wp2_with (first | (go_at_call 8; refine (clone_any a b off n c f _ (by omega) HA.out HB.out).mono ?_; rintro e w1 ⟨a1, rfl, hB1, hbel1⟩) | (go_at_call 19; refine (hex4_short _ _ _ _ h4).mono ?_; rintro e w' ⟨rfl, rfl⟩) | go_in)
  go_ret
  exact ⟨rfl, hbel1⟩

set_option maxHeartbeats 800000 in
theorem table_main (a : Option Addr) (b off n c : Nat) (f : Nat → Int) (w : World) (hn : n ≤ 1048576) (h4 : 4 ≤ n) (ha : a = none → n = 0 ∧ c = 0) (hB : Bytes w a n b off f) :
    Calls Try.prog 5 #[.slice a n c] w fun e w' => e = .returned (.bool true) ∧ Below w.heap.size w w' := by
  have HB : Hid (Bytes w a n b off f) := hB
  have HA : Hid (a = none → n = 0 ∧ c = 0) := ha
  clear hB ha
  go_enter Try.func5, Try.ntmps5
  go_wp2_with (first | (go_at_call 8; refine (clone_any a b off n c f _ hn HA.out HB.out).mono ?_; rintro e w1 ⟨a1, rfl, hB1, hbel1⟩; obtain rfl : a1 = some ⟨w.heap.size, 0, none⟩ := hB1.1 (by omega)) | (go_at_call 12; go_in))
  refine (zzhex4_long w.heap.size 0 n n f w1 h4 (Nat.le_refl _) (by omega) hB1).mono ?_
  rintro e w' ⟨hh, hw'⟩
  subst hw'
  have HF : Hid (∀ i, i < n → w'.cell? ⟨w.heap.size, i, none⟩ = some (.int .u8 (f i))) := fun i hi => by have := hB1.2.1 i hi; rwa [Nat.zero_add] at this
  clear hB1 HB
  rcases hh with ⟨rfl, hh⟩ | ⟨rfl, hh⟩
  all_goals
    have HH : Hid _ := hh
    clear hh
    go_wp2
    go_loop [5, 6, 7] (fun u5 u6 u7 => ∃ k : Nat, ∃ z g : Int, k ≤ 4 ∧ u7 = .int .i64 k ∧ u5 = .int .i64 z ∧ u6 = .int .i64 g ∧ g = wt k / 16 ∧ z = hexV f k * wt k ∧ ∀ j, j < k → 0 ≤ hexD (f j)) (fun _ _ i => 4 - (intOf i).toNat)
    case atStart => exact ⟨0, 0, 4096, by omega, rfl, rfl, rfl, by simp [wt], by simp [hexV], fun j hj => by omega⟩
    case round =>
      obtain ⟨k, z, g, hk, rfl, rfl, rfl, hg, hz, hall⟩ := hrel
      have HZ : Hid (z = hexV f k * wt k) := hz
      have HALL : Hid (∀ j, j < k → 0 ≤ hexD (f j)) := hall
      obtain ⟨zb0, zb1⟩ := want_bd f z k hk hz hall
      clear hz hall
      by_cases hlt : k < 4
      · have hcx := HF.out k (by omega)
        have hstep := want_step f z k hlt HZ.out
        rw [← hg] at hstep
        have HS : Hid (z + hexD (f k) * g = hexV f (k + 1) * wt (k + 1)) := hstep
        have HG : Hid (g / 16 = wt (k + 1) / 16) := by
          subst hg
          obtain rfl | rfl | rfl | rfl : k = 0 ∨ k = 1 ∨ k = 2 ∨ k = 3 := by omega
          all_goals simp [wt, Hid]
        clear hstep
        have hd1 := hexD_lt (f k)
        by_cases hd0 : 0 ≤ hexD (f k)
        · have HD : Hid (0 ≤ hexD (f k)) := hd0
          have e4 : g = 4096 ∨ g = 256 ∨ g = 16 ∨ g = 1 := by
            subst hg
            obtain rfl | rfl | rfl | rfl : k = 0 ∨ k = 1 ∨ k = 2 ∨ k = 3 := by omega
            all_goals simp [wt]
          clear hg
          have hltz : (k : Int) < 4 := by omega
          have hkn : (k : Int) < (n : Int) := by omega
          rcases e4 with rfl | rfl | rfl | rfl
          all_goals
            go_wp2_with (go_at_call 14; refine (hexValue_any _ _).mono ?_; rintro e w'' ⟨rfl, rfl⟩)
            go_round
            case rel =>
              refine ⟨k + 1, _, _, by omega, by go_num, rfl, rfl, ?_, ?_, ?_⟩
              · exact HG.out
              · have hs := HS.out; omega
              · intro j hj
                by_cases ej : j = k
                · subst ej; exact HD.out
                · exact HALL.out j (by omega)
            case measure => simp [intOf]; omega
        · first
          | (exact absurd (HH.out k hlt) hd0)
          | (clear hg
             have hltz : (k : Int) < 4 := by omega
             have hkn : (k : Int) < (n : Int) := by omega
             go_wp2_with (go_at_call 14; refine (hexValue_any _ _).mono ?_; rintro e w'' ⟨rfl, rfl⟩)
             go_ret
             exact ⟨rfl, hbel1⟩)
      · obtain rfl : k = 4 := by omega
        first
        | (obtain ⟨j, hj, hneg⟩ := HH.out
           have := HALL.out j hj
           omega)
        | (have hw := wrap_in z ⟨zb0, zb1⟩
           have hze : z = hexV f 4 := by rw [HZ.out]; simp [wt]
           subst hze
           clear hg
           go_wp2
           go_ret
           exact ⟨rfl, hbel1⟩)

end Go.Proofs.Qxb6603177a

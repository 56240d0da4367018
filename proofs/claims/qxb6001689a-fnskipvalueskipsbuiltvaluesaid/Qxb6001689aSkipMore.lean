/-
  The walks of ZZSkipValue (13), zzIsStop (14) and zzSameBytes (19).
-/
import Derived.Test.Qxb6001689aSkipWalk
namespace Go.Proofs.Qxb6001689a
open Go.RowKit

theorem zzskip_any (g n cap : Nat) (L R : List Nat) (w : World) (hL : L.length = n) (hb : ∀ i, L.getD i 0 ≤ 255) (hc : At w g 0 L) (hnc : n ≤ cap) (hnb : n ≤ 4611686018427387904) (hR : sk 0 0 L = R) :
    Calls Try.prog 13 #[.slice (some ⟨g, 0, none⟩) n cap] w fun e w' => Rest L g n e R ∧ ∃ m, w' = w.drewN m := by
  have HZ : Hid (Calls Try.prog 41 #[.slice (some ⟨g, 0, none⟩) n cap] w fun e w' => Rest L g n e R ∧ ∃ m, w' = w.drewN m) := skip_any g n cap L R w hL hb hc hnc hnb hR
  clear hc hR hL hb hnc hnb
  go_enter Try.func13, Try.ntmps13
  go_wp2_with (first | (go_at_call 41; refine HZ.out.mono ?_; rintro e w' ⟨⟨p, q, c, hp, hd, hq, rfl⟩, hm⟩))
  go_wp2
  go_ret
  exact ⟨⟨p, q, c, hp, hd, hq, rfl⟩, hm⟩

def stopB (c : Nat) : Bool := isSep c || c == 93 || c == 125

set_option maxHeartbeats 400000 in
theorem stop_any (c : Nat) (w : World) (hc : c ≤ 255) :
    Calls Try.prog 14 #[.int .u8 c] w fun e w' => e = .returned (.bool (stopB c)) ∧ w' = w := by
  have h : c = 44 ∨ (((c : Int) == 44) = false ∧ (c = 32 ∨ (((c : Int) == 32) = false ∧ (c = 9 ∨ (((c : Int) == 9) = false ∧ (c = 10 ∨ (((c : Int) == 10) = false ∧ (c = 13 ∨ (((c : Int) == 13) = false ∧ (c = 93 ∨ (((c : Int) == 93) = false ∧ (c = 125 ∨ ((c : Int) == 125) = false)))))))))))) := by
    simp
    omega
  rcases h with h | ⟨k1, h | ⟨k2, h | ⟨k3, h | ⟨k4, h | ⟨k5, h | ⟨k6, h | k7⟩⟩⟩⟩⟩⟩
  iterate 7
    · subst h
      go_enter Try.func14, Try.ntmps14
      go_wp2
      go_ret
      exact ⟨rfl, rfl⟩
  · have hs : stopB c = false := by
      simp at k1 k2 k3 k4 k5 k6 k7
      unfold stopB isSep
      simp
      omega
    rw [hs]
    go_enter Try.func14, Try.ntmps14
    go_wp2
    go_ret
    exact ⟨rfl, rfl⟩

set_option maxHeartbeats 400000 in
theorem same_any (a1 a2 : Option Addr) (n c1 c2 g1 o1 g2 o2 : Nat) (R : List Nat) (w : World) (hn : n ≤ 4611686018427387904) (hR : R.length = n) (h1 : 0 < n → a1 = some ⟨g1, o1, none⟩) (h2 : 0 < n → a2 = some ⟨g2, o2, none⟩) (A1 : At w g1 o1 R) (A2 : At w g2 o2 R) :
    Calls Try.prog 19 #[.slice a1 n c1, .slice a2 n c2] w fun e w' => e = .returned (.bool true) ∧ ∃ m, w' = w.drewN m := by
  have HA1 : Hid (∀ i, i < n → w.cell? ⟨g1, o1 + i, none⟩ = some (.int .u8 (R.getD i 0 : Nat))) := fun i hi => A1 i (by omega)
  have HA2 : Hid (∀ i, i < n → w.cell? ⟨g2, o2 + i, none⟩ = some (.int .u8 (R.getD i 0 : Nat))) := fun i hi => A2 i (by omega)
  have H1 : Hid (0 < n → a1 = some ⟨g1, o1, none⟩) := h1
  have H2 : Hid (0 < n → a2 = some ⟨g2, o2, none⟩) := h2
  clear A1 A2 hR h1 h2
  go_enter Try.func19, Try.ntmps19
  go_wp2
  go_loopw [5] (fun iv wr => ∃ i : Nat, i ≤ n ∧ iv = .int .i64 i ∧ ∃ m, wr = w.drewN m) (fun i _ => n - (intOf i).toNat)
  case atStart => exact ⟨0, Nat.zero_le _, rfl, 0, rfl⟩
  case round =>
    obtain ⟨i, hi, rfl, m, hm⟩ := hrel
    have HM : Hid (wr = w.drewN m) := hm
    clear hm
    by_cases hlt : i < n
    · obtain rfl := H1.out (by omega)
      obtain rfl := H2.out (by omega)
      have g0 : wr.cell? ⟨g1, o1 + i, none⟩ = some (.int .u8 (R.getD i 0 : Nat)) := by rw [HM.out]; exact HA1.out i hlt
      have g3 : wr.cell? ⟨g2, o2 + i, none⟩ = some (.int .u8 (R.getD i 0 : Nat)) := by rw [HM.out]; exact HA2.out i hlt
      generalize R.getD i 0 = c at g0 g3
      have hltz : (i : Int) < (n : Int) := by omega
      go_wp2
      go_quiet (fail)
      go_wp2
      go_roundw
      case rel => exact ⟨i + 1, by omega, by go_num, m + nq, by rw [HM.out]; exact World.drewN_drewN ..⟩
      case measure => simp [intOf]; omega
    · have hge : ¬ (i : Int) < (n : Int) := by omega
      go_wp2
      go_ret
      exact ⟨rfl, m, HM.out⟩

end Go.Proofs.Qxb6001689a

/-
  numberEnd at whatever slice and start (16, 9); the walk of FnNumberEndStandsAloneAndShifts (4).
-/
import Derived.Test.Qxb6603177aNumEnd
namespace Go.Proofs.Qxb6603177a
open Go.RowKit

theorem numEnd_nil : numEnd [] = none := rfl

theorem numberEnd_any (a : Option Addr) (b off n c : Nat) (f : Nat → Int) (i : Int) (w : World) (hn : n ≤ 1048576) (hi : 0 ≤ i) (hB : Bytes w a n b off f) :
    Calls Try.prog 16 #[.slice a n c, .int .i64 i] w fun e w' => e = .returned (.int .i64 (endAt i (numEnd (suf f n i.toNat)))) ∧ w' = w := by
  by_cases h : i < (n : Int)
  · obtain ⟨k, rfl⟩ := Int.eq_ofNat_of_zero_le hi
    have ha := hB.1 (by omega)
    subst ha
    exact numberEnd_some b off n c f k w hn (by omega) hB
  · rw [suf_nil f n _ (by omega), numEnd_nil]
    exact numberEnd_past a n c i w (by omega)

set_option maxHeartbeats 400000 in
theorem zz_any (a : Option Addr) (b off n c : Nat) (f : Nat → Int) (i R : Int) (w : World) (hn : n ≤ 1048576) (hi : 0 ≤ i) (hB : Bytes w a n b off f) (hR : endAt i (numEnd (suf f n i.toNat)) = R) :
    Calls Try.prog 9 #[.slice a n c, .int .i64 i] w fun e w' => e = .returned (.int .i64 R) ∧ w' = w := by
  have HB : Hid (Bytes w a n b off f) := hB
  have HR : Hid (endAt i (numEnd (suf f n i.toNat)) = R) := hR
  clear hB hR
  go_enter Try.func9, Try.ntmps9
  go_wp2_with (go_at_call 16; refine (numberEnd_any a b off n c f i _ hn hi HB.out).mono ?_; rw [HR.out]; rintro e w' ⟨rfl, rfl⟩)
  go_ret
  exact ⟨rfl, rfl⟩

theorem bytes_none {w : World} {a : Option Addr} {b off : Nat} {f : Nat → Int} : Bytes w a 0 b off f := ⟨fun h => by omega, fun i hi => by omega, fun i hi => by omega⟩

set_option maxHeartbeats 400000 in
theorem shift_end (a : Option Addr) (b off n c : Nat) (f : Nat → Int) (w : World) (hn : n ≤ 1048576) (ha : a = none → n = 0 ∧ c = 0) (hB : Bytes w a n b off f) :
    Calls Try.prog 4 #[.slice a n c, .int .i64 n] w fun e w' => e = .returned (.bool true) ∧ Below w.heap.size w w' := by
  have HB : Hid (Bytes w a n b off f) := hB
  have HA : Hid (a = none → n = 0 ∧ c = 0) := ha
  clear hB ha
  go_enter Try.func4, Try.ntmps4
  go_wp2_with (first | (go_at_call 8; refine (clone_any a b off n c f _ hn HA.out HB.out).mono ?_; rintro e w1 ⟨a1, rfl, hB1, hbel1⟩) | (go_at_call 11; go_in))
  refine (zz_any a1 w.heap.size 0 n n f n (-1) _ hn (by omega) hB1 (by rw [suf_nil f n _ (by omega)]; rfl)).mono ?_
  rintro e w' ⟨rfl, hw⟩
  subst hw
  go_wp2_with fail
  refine (zz_any a1 0 0 0 0 f 0 (-1) _ (by omega) (by omega) bytes_none (by rw [suf_nil f 0 _ (by omega)]; rfl)).mono ?_
  rintro e w' ⟨rfl, hw⟩
  subst hw
  go_wp2
  go_ret
  exact ⟨rfl, hbel1⟩

/-- The same bytes, read from place i on. -/
theorem bytes_from {w : World} {b n i : Nat} {f : Nat → Int} (hB : Bytes w (some ⟨b, 0, none⟩) n b 0 f) (hi : i ≤ n) : Bytes w (some ⟨b, i, none⟩) (n - i) b i (fun j => f (i + j)) :=
  ⟨fun _ => rfl, fun j hj => by have := hB.2.1 (i + j) (by omega); rwa [Nat.zero_add] at this, fun j hj => hB.2.2 (i + j) (by omega)⟩
theorem bytes_upto {w : World} {b n m : Nat} {f : Nat → Int} (hB : Bytes w (some ⟨b, 0, none⟩) n b 0 f) (hm : m ≤ n) : Bytes w (some ⟨b, 0, none⟩) m b 0 f :=
  ⟨fun _ => rfl, fun j hj => hB.2.1 j (by omega), fun j hj => hB.2.2 j (by omega)⟩

set_option maxHeartbeats 400000 in
theorem shift_none (a : Option Addr) (b off n c : Nat) (f : Nat → Int) (i : Nat) (w : World) (hn : n ≤ 1048576) (hi : i < n) (hE : numEnd (suf f n i) = none) (ha : a = none → n = 0 ∧ c = 0) (hB : Bytes w a n b off f) :
    Calls Try.prog 4 #[.slice a n c, .int .i64 i] w fun e w' => e = .returned (.bool true) ∧ Below w.heap.size w w' := by
  have HB : Hid (Bytes w a n b off f) := hB
  have HA : Hid (a = none → n = 0 ∧ c = 0) := ha
  have HE : Hid (numEnd (suf f n i) = none) := hE
  clear hB ha hE
  go_enter Try.func4, Try.ntmps4
  go_wp2_with (first | (go_at_call 8; refine (clone_any a b off n c f _ hn HA.out HB.out).mono ?_; rintro e w1 ⟨a1, rfl, hB1, hbel1⟩; obtain rfl : a1 = some ⟨w.heap.size, 0, none⟩ := hB1.1 (by omega)) | (go_at_call 11; go_in))
  refine (zz_any _ w.heap.size 0 n n f i (-1) _ hn (by omega) hB1 (by rw [Int.toNat_natCast, HE.out]; rfl)).mono ?_
  rintro e w' ⟨rfl, hw⟩
  subst hw
  go_wp2_with fail
  refine (zz_any _ w.heap.size i (n - i) (n - i) (fun j => f (i + j)) 0 (-1) _ (by omega) (by omega) (bytes_from hB1 (by omega)) (by rw [suf_shift]; show endAt 0 (numEnd (suf f n (i + 0))) = -1; rw [Nat.add_zero, HE.out]; rfl)).mono ?_
  rintro e w' ⟨rfl, hw⟩
  subst hw
  go_wp2
  go_ret
  exact ⟨rfl, hbel1⟩

set_option maxHeartbeats 400000 in
theorem shift_some (a : Option Addr) (b off n c : Nat) (f : Nat → Int) (i k : Nat) (w : World) (hn : n ≤ 1048576) (hi : i < n) (hE : numEnd (suf f n i) = some k) (ha : a = none → n = 0 ∧ c = 0) (hB : Bytes w a n b off f) :
    Calls Try.prog 4 #[.slice a n c, .int .i64 i] w fun e w' => e = .returned (.bool true) ∧ Below w.heap.size w w' := by
  have HB : Hid (Bytes w a n b off f) := hB
  have HA : Hid (a = none → n = 0 ∧ c = 0) := ha
  have HE : Hid (numEnd (suf f n i) = some k) := hE
  obtain ⟨hk1, hk2⟩ := numEnd_bd hE
  rw [suf_length] at hk2
  have hcut := numEnd_cut hE
  have HC : Hid (numEnd (suf f (i + k) i) = some k) := by
    have e := suf_take f n i (i + k) (by omega)
    rw [Nat.add_sub_cancel_left] at e
    rw [e] at hcut
    exact hcut
  clear hB ha hE hcut
  go_enter Try.func4, Try.ntmps4
  go_wp2_with (first | (go_at_call 8; refine (clone_any a b off n c f _ hn HA.out HB.out).mono ?_; rintro e w1 ⟨a1, rfl, hB1, hbel1⟩; obtain rfl : a1 = some ⟨w.heap.size, 0, none⟩ := hB1.1 (by omega)) | (go_at_call 11; go_in))
  refine (zz_any _ w.heap.size 0 n n f i ((i : Int) + k) _ hn (by omega) hB1 (by rw [Int.toNat_natCast, HE.out]; rfl)).mono ?_
  rintro e w' ⟨rfl, hw⟩
  subst hw
  go_wp2_with fail
  refine (zz_any _ w.heap.size i (n - i) (n - i) (fun j => f (i + j)) 0 k _ (by omega) (by omega) (bytes_from hB1 (by omega)) (by rw [suf_shift]; show endAt 0 (numEnd (suf f n (i + 0))) = (k : Int); rw [Nat.add_zero, HE.out]; simp [endAt])).mono ?_
  rintro e w' ⟨rfl, hw⟩
  subst hw
  go_wp2_with fail
  refine (zz_any _ w.heap.size 0 (i + k) n f i ((i : Int) + k) _ (by omega) (by omega) (bytes_upto hB1 (by omega)) (by rw [Int.toNat_natCast, HC.out]; rfl)).mono ?_
  rintro e w' ⟨rfl, hw⟩
  subst hw
  go_wp2
  go_ret
  exact ⟨rfl, hbel1⟩

end Go.Proofs.Qxb6603177a

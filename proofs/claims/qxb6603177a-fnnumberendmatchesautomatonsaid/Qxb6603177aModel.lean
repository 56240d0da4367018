/-
  The walks of numberEndModel (10) and of FnNumberEndMatchesAutomaton (3).
-/
import Derived.Test.Qxb6603177aStep
import Derived.Test.Qxb6603177aShift
namespace Go.Proofs.Qxb6603177a
open Go.RowKit

theorem stp_le {s t : Nat} {c : Int} (h : stp s c = some t) : t ≤ 8 := by
  unfold stp at h
  (repeat' split at h) <;> simp_all <;> omega

theorem runA_go {f : Nat → Int} {n p s t : Nat} (hp : p < n) (h : stp s (f p) = some t) : runA (suf f n p) s = ((runA (suf f n (p + 1)) t).1, (runA (suf f n (p + 1)) t).2 + 1) := by
  rw [suf_cons f n p hp]; simp only [runA, h]
theorem runA_stop {f : Nat → Int} {n p s : Nat} (hp : p < n) (h : stp s (f p) = none) : runA (suf f n p) s = (s, 0) := by
  rw [suf_cons f n p hp]; simp only [runA, h]
theorem runA_off {f : Nat → Int} {n p s : Nat} (hp : n ≤ p) : runA (suf f n p) s = (s, 0) := by
  rw [suf_nil f n p hp]; rfl

/-- Where the run stands: in state s at place k, begun at i. -/
def At (f : Nat → Int) (n i k s : Nat) : Prop := runA (suf f n i) 0 = ((runA (suf f n k) s).1, (k - i) + (runA (suf f n k) s).2) ∧ i ≤ k

theorem At.fin {f : Nat → Int} {n i k s : Nat} (h : At f n i k s) (he : runA (suf f n k) s = (s, 0)) : endAt i (numEnd (suf f n i)) = if acc s then (k : Int) else -1 := by
  obtain ⟨h, hik⟩ := h
  rw [← res0]
  unfold res
  rw [h, he]
  simp only [Nat.add_zero]
  split
  · simp only [endAt]; omega
  · rfl

set_option maxHeartbeats 400000 in
theorem model_past (a : Option Addr) (n c : Nat) (i : Int) (w : World) (h : (n : Int) ≤ i) :
    Calls Try.prog 10 #[.slice a n c, .int .i64 i] w fun e w' => e = .returned (.int .i64 (-1)) ∧ w' = w := by
  have hz : ¬ i < (n : Int) := by omega
  go_enter Try.func10, Try.ntmps10
  go_wp2
  go_loop [5, 6] (fun s p => s = .int .i64 0 ∧ p = .int .i64 i) (fun _ _ => 0)
  case atStart => exact ⟨rfl, rfl⟩
  case round =>
    obtain ⟨rfl, rfl⟩ := hrel
    go_wp2
    go_ret
    exact ⟨rfl, rfl⟩

set_option maxHeartbeats 400000 in
theorem model_some (b off n c : Nat) (f : Nat → Int) (i : Nat) (R : Int) (w : World) (hn : n ≤ 1048576) (hi : i < n) (hB : Bytes w (some ⟨b, off, none⟩) n b off f) (hR : endAt i (numEnd (suf f n i)) = R) :
    Calls Try.prog 10 #[.slice (some ⟨b, off, none⟩) n c, .int .i64 i] w fun e w' => e = .returned (.int .i64 R) ∧ w' = w := by
  have HC : Hid (∀ p, p < n → w.cell? ⟨b, off + p, none⟩ = some (.int .u8 (f p))) := hB.2.1
  have HR : Hid (endAt i (numEnd (suf f n i)) = R) := hR
  clear hB hR
  go_enter Try.func10, Try.ntmps10
  go_wp2
  go_loop [5, 6] (fun u5 u6 => ∃ s k : Nat, s ≤ 8 ∧ k ≤ n ∧ u5 = .int .i64 s ∧ u6 = .int .i64 k ∧ At f n i k s) (fun _ u => n - (intOf u).toNat)
  case atStart => exact ⟨0, i, by omega, by omega, rfl, rfl, by simp, Nat.le_refl _⟩
  case round =>
    obtain ⟨s, k, hs, hk, rfl, rfl, hat⟩ := hrel
    have HAT : Hid (At f n i k s) := hat
    clear hat
    by_cases hlt : k < n
    · have hcx := HC.out k hlt
      have hltz : (k : Int) < (n : Int) := by omega
      cases hst : stp s (f k) with
      | none =>
        have hE := HAT.out.fin (runA_stop hlt hst)
        rw [HR.out] at hE
        have HE : Hid (R = if acc s then (k : Int) else -1) := hE
        have hI : stI s (f k) = -1 := by simp only [stI, hst]
        clear hE hst
        go_wp2_with (first | (go_at_call 17; refine (numStep_any s hs (f k) _).mono ?_; rw [hI]; rintro e w' ⟨rfl, rfl⟩) | (go_at_call 18; refine (numAccepting_any s hs _).mono ?_; rintro e w' ⟨rfl, rfl⟩))
        all_goals
          go_ret
          refine ⟨ret_i ?_, rfl⟩
          rw [HE.out]
          first | rw [if_pos (by assumption)] | rw [if_neg (by simp [*])]
      | some t =>
        have ht := stp_le hst
        have HA2 : Hid (At f n i (k + 1) t) := by
          obtain ⟨h1, h2⟩ := HAT.out
          refine ⟨?_, by omega⟩
          rw [h1, runA_go hlt hst]
          simp only [Prod.mk.injEq, true_and]
          omega
        have hI : stI s (f k) = (t : Int) := by simp only [stI, hst]
        clear hst
        go_wp2_with (first | (go_at_call 17; refine (numStep_any s hs (f k) _).mono ?_; rw [hI]; rintro e w' ⟨rfl, rfl⟩))
        go_round
        case rel => exact ⟨t, k + 1, ht, by omega, rfl, by go_num, HA2.out⟩
        case measure => simp [intOf]; omega
    · have hE := HAT.out.fin (runA_off (by omega))
      rw [HR.out] at hE
      have HE : Hid (R = if acc s then (k : Int) else -1) := hE
      clear hE
      go_wp2_with (go_at_call 18; refine (numAccepting_any s hs _).mono ?_; rintro e w' ⟨rfl, rfl⟩)
      all_goals
        go_ret
        refine ⟨ret_i ?_, rfl⟩
        rw [HE.out]
        first | rw [if_pos (by assumption)] | rw [if_neg (by simp [*])]

theorem model_any (a : Option Addr) (b off n c : Nat) (f : Nat → Int) (i : Int) (w : World) (hn : n ≤ 1048576) (hi : 0 ≤ i) (hB : Bytes w a n b off f) :
    Calls Try.prog 10 #[.slice a n c, .int .i64 i] w fun e w' => e = .returned (.int .i64 (endAt i (numEnd (suf f n i.toNat)))) ∧ w' = w := by
  by_cases h : i < (n : Int)
  · obtain ⟨k, rfl⟩ := Int.eq_ofNat_of_zero_le hi
    have ha := hB.1 (by omega)
    subst ha
    exact model_some b off n c f k _ w hn (by omega) hB rfl
  · rw [suf_nil f n _ (by omega), numEnd_nil]
    exact model_past a n c i w (by omega)

set_option maxHeartbeats 400000 in
theorem auto_main (a : Option Addr) (b off n c : Nat) (f : Nat → Int) (i : Int) (w : World) (hn : n ≤ 1048576) (hi : 0 ≤ i) (ha : a = none → n = 0 ∧ c = 0) (hB : Bytes w a n b off f) :
    Calls Try.prog 3 #[.slice a n c, .int .i64 i] w fun e w' => e = .returned (.bool true) ∧ Below w.heap.size w w' := by
  have HB : Hid (Bytes w a n b off f) := hB
  have HA : Hid (a = none → n = 0 ∧ c = 0) := ha
  clear hB ha
  generalize hR : endAt i (numEnd (suf f n i.toNat)) = R
  have HR : Hid (endAt i (numEnd (suf f n i.toNat)) = R) := hR
  clear hR
  go_enter Try.func3, Try.ntmps3
  go_wp2_with (first | (go_at_call 8; refine (clone_any a b off n c f _ hn HA.out HB.out).mono ?_; rintro e w1 ⟨a1, rfl, hB1, hbel1⟩) | (go_at_call 7; go_in))
  refine (zz_any a1 w.heap.size 0 n n f i R _ hn hi hB1 HR.out).mono ?_
  rintro e w' ⟨rfl, hw⟩
  subst hw
  go_wp2_with fail
  refine (model_any a1 w.heap.size 0 n n f i _ hn hi hB1).mono ?_
  rw [HR.out]
  rintro e w' ⟨rfl, hw⟩
  subst hw
  go_wp2
  go_ret
  exact ⟨rfl, hbel1⟩

end Go.Proofs.Qxb6603177a

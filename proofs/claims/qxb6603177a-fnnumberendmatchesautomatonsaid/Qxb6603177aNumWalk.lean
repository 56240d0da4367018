/-
  The walks of digitsEnd (20), numberEnd (16), ZZnumberEnd (9) of package jsonscan: they answer 'endAt i (numEnd ..)'.
-/
import Derived.Test.Qxb6603177aClone
import Derived.Test.Qxb6603177aNum
import Derived.Deep.DeepCutAuto
namespace Go.Proofs.Qxb6603177a
open Go.RowKit

theorem ret_int {k : IntKind} {a b : Int} (h : a = b) : Ending.returned (.int k a) = .returned (.int k b) := by rw [h]

theorem digs_hit {f : Nat → Int} {n p : Nat} (h : p < n) (h1 : 48 ≤ f p) (h2 : f p ≤ 57) : digs (suf f n p) = digs (suf f n (p + 1)) + 1 := by
  rw [suf_cons f n p h]
  simp [digs, isD, h1, h2]
theorem digs_miss {f : Nat → Int} {n p : Nat} (h : p < n → ¬ (48 ≤ f p ∧ f p ≤ 57)) : digs (suf f n p) = 0 := by
  by_cases hp : p < n
  · have := h hp
    rw [suf_cons f n p hp]
    simp only [digs, isD, Bool.and_eq_true, decide_eq_true_eq, if_neg this]
  · rw [suf_nil f n p (by omega)]; rfl

set_option maxHeartbeats 400000 in
theorem digitsEnd_any (a : Option Addr) (b off n c : Nat) (f : Nat → Int) (p : Nat) (w : World) (hn : n ≤ 1048576) (hp : p ≤ n) (hB : Bytes w a n b off f) :
    Calls Try.prog 20 #[.slice a n c, .int .i64 p] w fun e w' => e = .returned (.int .i64 ((p : Int) + (digs (suf f n p) : Int))) ∧ w' = w := by
  have HB : Hid (Bytes w a n b off f) := hB
  clear hB
  go_enter Try.func20, Try.ntmps20
  go_wp2
  go_loop [1] (fun i => ∃ k : Nat, k ≤ n ∧ p ≤ k ∧ i = .int .i64 k ∧ k + digs (suf f n k) = p + digs (suf f n p)) (fun i => n - (intOf i).toNat)
  case atStart => exact ⟨p, hp, Nat.le_refl _, rfl, rfl⟩
  case round =>
    obtain ⟨k, hk, hpk, rfl, heq⟩ := hrel
    have HE : Hid (k + digs (suf f n k) = p + digs (suf f n p)) := heq
    clear heq
    by_cases hlt : k < n
    · obtain ⟨ha, hc, hr⟩ := HB.out
      obtain rfl := ha (by omega)
      have hcx : w.cell? ⟨b, off + k, none⟩ = some (.int .u8 (f k)) := hc k hlt
      clear ha hc hr
      have hltz : (k : Int) < (n : Int) := by omega
      go_wp2
      all_goals
        first
        | (go_round
           case rel =>
             refine ⟨k + 1, by omega, by omega, by go_num, ?_⟩
             have h1 := digs_hit (f := f) hlt (by assumption) (by assumption)
             have h2 := HE.out
             omega
           case measure => simp [intOf]; omega)
        | (go_ret
           have h1 := digs_miss (f := f) (n := n) (p := k) (fun _ => by omega)
           have h2 := HE.out
           exact ⟨ret_int (by omega), rfl⟩)
    · have h1 := digs_miss (f := f) (n := n) (p := k) (fun h => by omega)
      have H1 : Hid _ := h1
      clear h1
      go_wp2
      go_ret
      have h1 := H1.out
      have h2 := HE.out
      exact ⟨ret_int (by omega), rfl⟩

theorem digitsEnd_int (a : Option Addr) (b off n c : Nat) (f : Nat → Int) (p : Nat) (x : Int) (hx : x = (p : Int)) (w : World) (hn : n ≤ 1048576) (hp : p ≤ n) (hB : Bytes w a n b off f) :
    Calls Try.prog 20 #[.slice a n c, .int .i64 x] w fun e w' => e = .returned (.int .i64 (x + (digs (suf f n p) : Int))) ∧ w' = w := by
  subst hx
  exact digitsEnd_any a b off n c f p w hn hp hB

set_option maxHeartbeats 400000 in
theorem numberEnd_past (a : Option Addr) (n c : Nat) (i : Int) (w : World) (h : (n : Int) ≤ i) :
    Calls Try.prog 16 #[.slice a n c, .int .i64 i] w fun e w' => e = .returned (.int .i64 (-1)) ∧ w' = w := by
  have hz : ¬ i < (n : Int) := by omega
  have hd : decide (i < (n : Int)) = false := decide_eq_false hz
  go_enter Try.func16, Try.ntmps16
  go_wp2
  go_ret
  exact ⟨rfl, rfl⟩

section
variable {f : Nat → Int} {n p : Nat}
theorem sgn_yes (hp : p < n) (h : (f p == 45) = true) : sgn (suf f n p) = 1 := by
  rw [suf_cons f n p hp]; simp only [sgn, if_pos (eq_of_beq h)]
theorem sgn_no (hp : p < n) (h : (f p == 45) = false) : sgn (suf f n p) = 0 := by
  rw [suf_cons f n p hp]; simp only [sgn, if_neg (ne_of_beq_false h)]
theorem intl_zero (hp : p < n) (h : (f p == 48) = true) : intl (suf f n p) = some 1 := by
  rw [suf_cons f n p hp]; simp only [intl, if_pos (eq_of_beq h)]
theorem intl_dig (hp : p < n) (h1 : 49 ≤ f p) (h2 : f p ≤ 57) : intl (suf f n p) = some (digs (suf f n p)) := by
  rw [suf_cons f n p hp]; simp only [intl]; rw [if_neg (by omega), if_pos ⟨h1, h2⟩]
theorem intl_off (hp : n ≤ p) : intl (suf f n p) = none := by rw [suf_nil f n p hp]; rfl
theorem intl_none (hp : p < n) (h1 : (f p == 48) = false) (h2 : ¬ (49 ≤ f p ∧ f p ≤ 57)) : intl (suf f n p) = none := by
  have := ne_of_beq_false h1
  rw [suf_cons f n p hp]; simp only [intl, if_neg this, if_neg h2]
theorem frac_off (hp : n ≤ p) : frac (suf f n p) = some 0 := by rw [suf_nil f n p hp]; rfl
theorem frac_not (hp : p < n) (h : (f p == 46) = false) : frac (suf f n p) = some 0 := by
  rw [suf_cons f n p hp]; simp only [frac, if_neg (ne_of_beq_false h)]
theorem frac_none (hp : p < n) (h : (f p == 46) = true) (hd : digs (suf f n (p + 1)) = 0) : frac (suf f n p) = none := by
  rw [suf_cons f n p hp]; simp only [frac, if_pos (eq_of_beq h), if_pos hd]
theorem frac_some (hp : p < n) (h : (f p == 46) = true) (hd : digs (suf f n (p + 1)) ≠ 0) : frac (suf f n p) = some (1 + digs (suf f n (p + 1))) := by
  rw [suf_cons f n p hp]; simp only [frac, if_pos (eq_of_beq h), if_neg hd]
theorem expo_off (hp : n ≤ p) : expo (suf f n p) = some 0 := by rw [suf_nil f n p hp]; rfl
theorem expo_not (hp : p < n) (h : (f p == 101) = false) (h2 : (f p == 69) = false) : expo (suf f n p) = some 0 := by
  rw [suf_cons f n p hp]; simp only [expo, ne_of_beq_false h, ne_of_beq_false h2, or_self, if_false]
theorem expo_is (hp : p < n) (h : f p = 101 ∨ f p = 69) {s : Nat} (hs : esgn (suf f n (p + 1)) = s) :
    expo (suf f n p) = if digs (suf f n (p + 1 + s)) = 0 then none else some (1 + s + digs (suf f n (p + 1 + s))) := by
  subst hs
  rw [suf_cons f n p hp]; simp only [expo, if_pos h]; rw [suf_drop]
theorem esgn_off (hp : n ≤ p) : esgn (suf f n p) = 0 := by rw [suf_nil f n p hp]; rfl
theorem esgn_yes (hp : p < n) (h : f p = 43 ∨ f p = 45) : esgn (suf f n p) = 1 := by
  rw [suf_cons f n p hp]; simp only [esgn, if_pos h]
theorem esgn_no (hp : p < n) (h1 : (f p == 43) = false) (h2 : (f p == 45) = false) : esgn (suf f n p) = 0 := by
  rw [suf_cons f n p hp]; simp only [esgn, ne_of_beq_false h1, ne_of_beq_false h2, or_self, if_false]
theorem digs_room : p + digs (suf f n p) ≤ n ∨ n < p := by
  have := digs_le (suf f n p)
  rw [suf_length] at this
  omega
theorem end_int {i : Nat} (h : intl (suf f n (i + sgn (suf f n i))) = none) : endAt i (numEnd (suf f n i)) = -1 := by
  unfold numEnd; rw [suf_drop, h]; rfl
theorem end_frac {i a : Nat} (h : intl (suf f n (i + sgn (suf f n i))) = some a) (h2 : frac (suf f n (i + sgn (suf f n i) + a)) = none) : endAt i (numEnd (suf f n i)) = -1 := by
  unfold numEnd; rw [suf_drop, h]; simp only; rw [suf_drop, ← Nat.add_assoc, h2]; rfl
theorem end_expo {i a b : Nat} (h : intl (suf f n (i + sgn (suf f n i))) = some a) (h2 : frac (suf f n (i + sgn (suf f n i) + a)) = some b) (h3 : expo (suf f n (i + sgn (suf f n i) + a + b)) = none) :
    endAt i (numEnd (suf f n i)) = -1 := by
  unfold numEnd; rw [suf_drop, h]; simp only; rw [suf_drop, ← Nat.add_assoc, h2]; simp only; rw [suf_drop, ← Nat.add_assoc, ← Nat.add_assoc, h3]; rfl
theorem end_all {i a b c : Nat} (h : intl (suf f n (i + sgn (suf f n i))) = some a) (h2 : frac (suf f n (i + sgn (suf f n i) + a)) = some b) (h3 : expo (suf f n (i + sgn (suf f n i) + a + b)) = some c) :
    endAt i (numEnd (suf f n i)) = ((i + sgn (suf f n i) + a + b + c : Nat) : Int) := by
  unfold numEnd; rw [suf_drop, h]; simp only; rw [suf_drop, ← Nat.add_assoc, h2]; simp only; rw [suf_drop, ← Nat.add_assoc, ← Nat.add_assoc, h3]; simp only [endAt]; omega
end

end Go.Proofs.Qxb6603177a

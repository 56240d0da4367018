/-
  The walk of jsonscan.hex4 (19), with its plain answer: hexD (a digit's value, -1 where it is none), hexV (the positional value of the first k digits).
-/
import Derived.Test.Qxb6603177aClone
namespace Go.Proofs.Qxb6603177a
open Go.RowKit

def hexD (c : Int) : Int := if 48 ≤ c ∧ c ≤ 57 then c - 48 else if 97 ≤ c ∧ c ≤ 102 then c - 87 else if 65 ≤ c ∧ c ≤ 70 then c - 55 else -1
def hexV (f : Nat → Int) : Nat → Int
  | 0 => 0
  | k + 1 => 16 * hexV f k + hexD (f k)

theorem hexD_lt (c : Int) : hexD c < 16 := by unfold hexD; (repeat' split) <;> omega
theorem hexV_pos (f : Nat → Int) (k : Nat) (h : ∀ j, j < k → 0 ≤ hexD (f j)) : 0 ≤ hexV f k := by
  induction k with
  | zero => simp [hexV]
  | succ k ih => have := ih (fun j hj => h j (by omega)); have := h k (by omega); simp only [hexV]; omega
theorem hexV_lt (f : Nat → Int) (k : Nat) (hk : k < 4) : hexV f k < 4096 := by
  have d0 := hexD_lt (f 0); have d1 := hexD_lt (f 1); have d2 := hexD_lt (f 2)
  match k, hk with
  | 0, _ => simp [hexV]
  | 1, _ => simp only [hexV]; omega
  | 2, _ => simp only [hexV]; omega
  | 3, _ => simp only [hexV]; omega

theorem or_step (v d : Int) (h0 : 0 ≤ v) (h1 : v < 4096) (d0 : 0 ≤ d) (d1 : d < 16) : bits BinOp.or IntKind.i32 (wrap32 (v * 16)) d = 16 * v + d := by
  have e : wrap32 (v * 16) = v * 16 := by unfold wrap32; omega
  rw [e, bits_join .i32 31 (by decide) wraps_i32 4 (v * 16) d (by omega) (by omega) (by omega) d0 d1 (by omega)]
  omega

theorem val_step {f : Nat → Int} {k : Nat} {d : Int} (hk : k < 4) (hall : ∀ j, j < k → 0 ≤ hexD (f j)) (hd : hexD (f k) = d) (h0 : 0 ≤ d) :
    Value.int IntKind.i32 (bits BinOp.or IntKind.i32 (wrap32 (hexV f k * 16)) d) = Value.int IntKind.i32 (hexV f (k + 1)) ∧ ∀ j, j < k + 1 → 0 ≤ hexD (f j) := by
  have hl := hexD_lt (f k)
  refine ⟨by rw [or_step _ _ (hexV_pos f k hall) (hexV_lt f k hk) h0 (by omega)]; simp only [hexV]; rw [hd], fun j hj => ?_⟩
  by_cases e : j = k
  · subst e; omega
  · exact hall j (by omega)

set_option maxHeartbeats 400000 in
theorem hex4_short (a : Option Addr) (n c : Nat) (w : World) (hn : n < 4) :
    Calls Try.prog 19 #[.slice a n c] w fun e w' => e = .returned (.tuple #[.int .i32 0, .bool false]) ∧ w' = w := by
  go_enter Try.func19, Try.ntmps19
  go_wp2
  go_ret2
  exact ⟨rfl, rfl⟩

def Hex4 (f : Nat → Int) (e : Ending) : Prop :=
  (e = .returned (.tuple #[.int .i32 (hexV f 4), .bool true]) ∧ ∀ j, j < 4 → 0 ≤ hexD (f j)) ∨ (e = .returned (.tuple #[.int .i32 0, .bool false]) ∧ ∃ j, j < 4 ∧ hexD (f j) < 0)

theorem hex4_no {f : Nat → Int} {k : Nat} (hk : k < 4) (h1 : ¬ (48 ≤ f k ∧ f k ≤ 57)) (h2 : ¬ (97 ≤ f k ∧ f k ≤ 102)) (h3 : ¬ (65 ≤ f k ∧ f k ≤ 70)) :
    Hex4 f (.returned (.tuple #[.int .i32 0, .bool false])) := .inr ⟨rfl, k, hk, by simp [hexD, h1, h2, h3]⟩

set_option maxHeartbeats 400000 in
theorem hex4_long (b off n c : Nat) (f : Nat → Int) (w : World) (hn : 4 ≤ n) (hnc : n ≤ c) (hcm : c ≤ 9223372036854775807) (hB : Bytes w (some ⟨b, off, none⟩) n b off f) :
    Calls Try.prog 19 #[.slice (some ⟨b, off, none⟩) n c] w fun e w' => Hex4 f e ∧ w' = w := by
  have HB : Hid (Bytes w (some ⟨b, off, none⟩) n b off f) := hB
  clear hB
  go_enter Try.func19, Try.ntmps19
  go_wp2
  go_loop [4, 13] (fun r i => ∃ k : Nat, k ≤ 4 ∧ i = .int .i64 k ∧ r = .int .i32 (hexV f k) ∧ ∀ j, j < k → 0 ≤ hexD (f j)) (fun _ i => 4 - (intOf i).toNat)
  case atStart => exact ⟨0, by omega, rfl, rfl, fun j hj => by omega⟩
  case round =>
    obtain ⟨k, hk, rfl, rfl, hall⟩ := hrel
    by_cases hlt : k < 4
    · obtain ⟨_, hc, hr⟩ := HB.out
      have hcx : w.cell? ⟨b, off + k, none⟩ = some (.int .u8 (f k)) := hc k (by omega)
      have hrk := hr k (by omega)
      obtain ⟨hrk1, hrk2⟩ := hrk
      clear hc hr
      have hltz : (k : Int) < 4 := by omega
      go_wp2
      all_goals
        first
        | (go_round
           case rel =>
             obtain ⟨e1, e2⟩ := val_step (f := f) (k := k) hlt hall (d := _) (by unfold hexD; first | (rw [if_pos (by omega)]) | (rw [if_neg (by omega), if_pos (by omega)]) | (rw [if_neg (by omega), if_neg (by omega), if_pos (by omega)])) (by omega)
             exact ⟨k + 1, by omega, by go_num, e1, e2⟩
           case measure => simp [intOf]; omega)
        | (go_ret2
           exact ⟨hex4_no hlt (by omega) (by omega) (by omega), rfl⟩)
    · obtain rfl : k = 4 := by omega
      go_wp2
      go_ret2
      exact ⟨.inl ⟨rfl, hall⟩, rfl⟩

end Go.Proofs.Qxb6603177a

/-
  Slices of strings: zzCloneStrings (20), zzStringsBytes (23), zzSameStrings (24).
-/
import Derived.Test.Qxb6000104aRows
import Derived.Test.Qxb6000104aAppend
import Derived.WalkSpells
import Derived.WalkLawsBesides
import Derived.Deep.OwnRows
import Derived.Deep.QuietTactic
import Derived.BigQuiet
namespace Go.Proofs.Qxb6000104a
open Go.RowKit

theorem info9 : (Try.prog.info? 9).map (fun i => (i.zero, i.size, i.bytes)) = some (some (.string ByteArray.empty), 1, 16) := by kernel_rfl

/-- What is known of a slice of strings: it leads to n cells that hold the strings f. -/
def Strs (w : World) (a : Option Addr) (n : Nat) (b off : Nat) (f : Nat → ByteArray) : Prop :=
  (0 < n → a = some ⟨b, off, none⟩) ∧ (∀ i, i < n → w.cell? ⟨b, off + i, none⟩ = some (.string (f i))) ∧ ∀ i, i < n → (f i).size ≤ 9223372036854775807

theorem Strs.later {w w' : World} {a : Option Addr} {n b off : Nat} {f : Nat → ByteArray} (h : Strs w a n b off f) (hb : Below w.heap.size w w') : Strs w' a n b off f :=
  ⟨h.1, fun i hi => cell_later hb (h.2.1 i hi), h.2.2⟩

set_option maxHeartbeats 400000 in
theorem clone_nil (w : World) :
    Calls Try.prog 20 #[.slice none 0 0] w fun e w' => e = .returned (.slice none 0 0) ∧ w' = w := by
  have q28 : ∀ (w : World) (a : Option Addr) (n c n' c' : Nat), (binOp .eql 28 (.slice a n c) (.slice none n' c')).run Try.prog w = .ok (.bool a.isNone) w := fun w a n c n' c' => Lib.run_eql_slice_nil w _ _ a n c n' c' Try.underlying28
  go_enter Try.func20, Try.ntmps20
  go_wp2
  go_ret
  exact ⟨rfl, rfl⟩

def copied (f : Nat → ByteArray) (k : Nat) : Nat → Value := fun j => .string (if j < k then f j else ByteArray.empty)

theorem copied_step {w : World} {b n k : Nat} {f : Nat → ByteArray} (h : w.rowIs b 9 n (copied f k)) : (w.setCell ⟨b, k, none⟩ (.string (f k))).rowIs b 9 n (copied f (k + 1)) := by
  refine (h.set k _).congr fun i _ => ?_
  unfold copied
  by_cases e : i = k
  · subst e; simp
  · by_cases e2 : i < k
    · simp [e, e2, show i < k + 1 by omega]
    · simp [e, e2, show ¬ i < k + 1 by omega]

set_option maxHeartbeats 400000 in
theorem clone_some (x : Addr) (b off n c : Nat) (f : Nat → ByteArray) (w : World) (hn : n ≤ 1048576) (hB : Strs w (some x) n b off f) :
    Calls Try.prog 20 #[.slice (some x) n c] w fun e w' => e = .returned (.slice (some ⟨w.heap.size, 0, none⟩) n n) ∧ w'.rowIs w.heap.size 9 n (fun j => .string (f j)) ∧ Below w.heap.size w w' := by
  have q28 : ∀ (w : World) (a : Option Addr) (n c n' c' : Nat), (binOp .eql 28 (.slice a n c) (.slice none n' c')).run Try.prog w = .ok (.bool a.isNone) w := fun w a n c n' c' => Lib.run_eql_slice_nil w _ _ a n c n' c' Try.underlying28
  have hmk := run_make_row' (P := Try.prog) 28 9 (.string ByteArray.empty) 16 Try.underlying28 info9 rfl .i64 .i64 n (by omega) (by omega)
  have HB : Hid (Strs w (some x) n b off f) := hB
  clear hB
  go_enter Try.func20, Try.ntmps20
  go_wp2
  clear hmk q28
  go_loopw [4] (fun i wr => ∃ k : Nat, k ≤ n ∧ i = .int .i64 k ∧ wr.rowIs w.heap.size 9 n (copied f k) ∧ Below w.heap.size w wr) (fun i _ => n - (intOf i).toNat)
  case atStart => exact ⟨0, Nat.zero_le _, rfl, (World.rowIs_made w _ _ _), (Below.refl _ _).alloc (Nat.le_refl _) _⟩
  case round =>
    obtain ⟨k, hk, rfl, hrow, hbel⟩ := hrel
    by_cases hlt : k < n
    · obtain ⟨ha, hc, _⟩ := HB.out
      obtain rfl : x = ⟨b, off, none⟩ := by simpa using ha (by omega)
      have hcx : wr.cell? ⟨b, off + k, none⟩ = some (.string (f k)) := cell_later hbel (hc k hlt)
      have hcd : wr.cell? ⟨w.heap.size, k, none⟩ = some (copied f k k) := hrow.cell hlt
      have hfd : wr.frozen? ⟨w.heap.size, k, none⟩ = false := hrow.frozen k
      have HR := copied_step hrow
      have HRR : Hid _ := HR
      clear HR ha hc
      have hltz : (k : Int) < (n : Int) := by omega
      go_wp2
      go_roundw
      case rel => exact ⟨k + 1, by omega, by go_num, HRR.out, hbel.setCell (Nat.le_refl _) _⟩
      case measure => simp [intOf]; omega
    · have hk2 : k = n := by omega
      subst hk2
      go_wp2
      go_ret
      exact ⟨rfl, hrow.congr (fun i hi => by simp [copied, hi]), hbel⟩

/-- The clone of a slice of at most 2^20 strings: the same strings at the head of a new block; nothing old has turned. -/
theorem clone_any (a : Option Addr) (b off n c : Nat) (f : Nat → ByteArray) (w : World) (hn : n ≤ 1048576) (ha : a = none → n = 0 ∧ c = 0) (hB : Strs w a n b off f) :
    Calls Try.prog 20 #[.slice a n c] w fun e w' => ∃ a', e = .returned (.slice a' n n) ∧ Strs w' a' n w.heap.size 0 f ∧ (a' = none → n = 0) ∧ Below w.heap.size w w' := by
  cases a with
  | none =>
    obtain ⟨rfl, rfl⟩ := ha rfl
    refine (clone_nil w).mono ?_
    rintro e w' ⟨rfl, rfl⟩
    exact ⟨none, rfl, ⟨fun h => by omega, fun i hi => by omega, fun i hi => by omega⟩, fun _ => rfl, Below.refl _ _⟩
  | some x =>
    refine (clone_some x b off n c f w hn hB).mono ?_
    rintro e w' ⟨rfl, hrow, hbel⟩
    exact ⟨_, rfl, ⟨fun _ => rfl, fun i hi => by simpa using hrow.cell hi, hB.2.2⟩, (fun h => by cases h), hbel⟩

set_option maxHeartbeats 400000 in
theorem bytes_any (a : Option Addr) (b off n c : Nat) (f : Nat → ByteArray) (w : World) (hn : n ≤ 1048576) (hB : Strs w a n b off f) :
    Calls Try.prog 23 #[.slice a n c] w fun e w' => (∃ T : Nat, e = .returned (.int .i64 T) ∧ T ≤ 1048577 ∧ (T ≤ 1048576 → ∀ i, i < n → (f i).size ≤ 1048576)) ∧ w' = w := by
  have HB : Hid (Strs w a n b off f) := hB
  clear hB
  go_enter Try.func23, Try.ntmps23
  go_wp2
  go_loop [3, 4] (fun u3 u4 => ∃ k T : Nat, k ≤ n ∧ u3 = .int .i64 T ∧ u4 = .int .i64 k ∧ T ≤ 1048576 ∧ ∀ i, i < k → (f i).size ≤ 1048576) (fun _ i => n - (intOf i).toNat)
  case atStart => exact ⟨0, 0, Nat.zero_le _, rfl, rfl, by omega, fun i hi => by omega⟩
  case round =>
    obtain ⟨k, T, hk, rfl, rfl, hT, hall⟩ := hrel
    have HALL : Hid (∀ i, i < k → (f i).size ≤ 1048576) := hall
    clear hall
    by_cases hlt : k < n
    · obtain ⟨ha, hc, hs⟩ := HB.out
      obtain rfl := ha (by omega)
      have hcx : w.cell? ⟨b, off + k, none⟩ = some (.string (f k)) := hc k hlt
      have hsk := hs k hlt
      clear ha hc hs
      have hltz : (k : Int) < (n : Int) := by omega
      go_wp2
      · go_ret
        exact ⟨⟨1048577, rfl, by omega, fun h => by omega⟩, rfl⟩
      · go_ret
        exact ⟨⟨1048577, rfl, by omega, fun h => by omega⟩, rfl⟩
      · go_round
        case rel =>
          refine ⟨k + 1, T + (16 + (f k).size), by omega, by go_num, by go_num, by omega, fun i hi => ?_⟩
          by_cases e : i = k
          · subst e; omega
          · exact HALL.out i (by omega)
        case measure => simp [intOf]; omega
    · obtain rfl : k = n := by omega
      go_wp2
      go_ret
      exact ⟨⟨T, rfl, by omega, fun _ => HALL.out⟩, rfl⟩

set_option maxHeartbeats 400000 in
theorem same_any (a a' : Option Addr) (b off n c b' off' c' : Nat) (f : Nat → ByteArray) (w : World) (hn : n ≤ 1048576) (hB : Strs w a n b off f) (hB' : Strs w a' n b' off' f) :
    Calls Try.prog 24 #[.slice a n c, .slice a' n c'] w fun e w' => e = .returned (.bool true) ∧ ∃ m, w' = w.drewN m := by
  have HB : Hid (Strs w a n b off f) := hB
  have HB' : Hid (Strs w a' n b' off' f) := hB'
  clear hB hB'
  go_enter Try.func24, Try.ntmps24
  go_wp2
  go_loopw [5] (fun u wr => ∃ k : Nat, k ≤ n ∧ u = .int .i64 k ∧ ∃ m, wr = w.drewN m) (fun i _ => n - (intOf i).toNat)
  case atStart => exact ⟨0, Nat.zero_le _, rfl, 0, rfl⟩
  case round =>
    obtain ⟨k, hk, rfl, m, hal⟩ := hrel
    have HAL : Hid (wr = w.drewN m) := hal
    clear hal
    by_cases hlt : k < n
    · obtain ⟨ha, hc, _⟩ := HB.out
      obtain ⟨ha', hc', _⟩ := HB'.out
      obtain rfl := ha (by omega)
      obtain rfl := ha' (by omega)
      have hcx : wr.cell? ⟨b, off + k, none⟩ = some (.string (f k)) := by rw [HAL.out]; exact hc k hlt
      have hcy : wr.cell? ⟨b', off' + k, none⟩ = some (.string (f k)) := by rw [HAL.out]; exact hc' k hlt
      clear ha hc ha' hc'
      have hltz : (k : Int) < (n : Int) := by omega
      go_wp2
      go_quiet (fail)
      go_wp2
      go_roundw
      case rel => exact ⟨k + 1, by omega, by go_num, m + nq, by rw [HAL.out]; exact World.drewN_drewN ..⟩
      case measure => simp [intOf]; omega
    · obtain rfl : k = n := by omega
      go_wp2
      go_ret
      exact ⟨rfl, m, HAL.out⟩

end Go.Proofs.Qxb6000104a

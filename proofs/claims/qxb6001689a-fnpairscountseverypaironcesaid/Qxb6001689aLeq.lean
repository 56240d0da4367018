/-
  The walks of zzCloneU16 (38) and zzLeq (39).
-/
import Derived.Test.Qxb6001689aRows
import Derived.WalkKit
import Derived.WalkSpells
import Derived.WalkLawsBesides
import Derived.Deep.OwnRows
import Derived.Deep.QuietTactic
import Derived.BigQuiet
import Derived.OpenShut
namespace Go.Proofs.Qxb6001689a
open Go.RowKit
open Go.WideShapes (add_plain)

theorem info33 : (Try.prog.info? 33).map (fun i => (i.zero, i.size, i.bytes)) = some (some (.int .u16 0), 1, 2) := by kernel_rfl

/-- What is known of a slice of numbers: it leads to n cells that hold the numbers f. -/
def Ints (k : IntKind) (w : World) (a : Option Addr) (n : Nat) (b off : Nat) (f : Nat → Nat) : Prop :=
  (0 < n → a = some ⟨b, off, none⟩) ∧ (∀ i, i < n → w.cell? ⟨b, off + i, none⟩ = some (.int k (f i)))

set_option maxHeartbeats 400000 in
theorem clone_nil (w : World) :
    Calls Try.prog 38 #[.slice none 0 0] w fun e w' => e = .returned (.slice none 0 0) ∧ w' = w := by
  have q68 : ∀ (w : World) (a : Option Addr) (n c n' c' : Nat), (binOp .eql 68 (.slice a n c) (.slice none n' c')).run Try.prog w = .ok (.bool a.isNone) w := fun w a n c n' c' => Lib.run_eql_slice_nil w _ _ a n c n' c' Try.underlying68
  go_enter Try.func38, Try.ntmps38
  go_wp2
  go_ret
  exact ⟨rfl, rfl⟩

def copied (f : Nat → Nat) (k : Nat) : Nat → Value := fun j => .int .u16 (if j < k then (f j : Int) else 0)

theorem copied_step {w : World} {b n k : Nat} {f : Nat → Nat} (h : w.rowIs b 33 n (copied f k)) : (w.setCell ⟨b, k, none⟩ (.int .u16 (f k))).rowIs b 33 n (copied f (k + 1)) := by
  refine (h.set k _).congr fun i _ => ?_
  unfold copied
  by_cases e : i = k
  · subst e; simp
  · by_cases e2 : i < k
    · simp [e, e2, show i < k + 1 by omega]
    · simp [e, e2, show ¬ i < k + 1 by omega]

set_option maxHeartbeats 400000 in
theorem clone_some (x : Addr) (b off n c : Nat) (f : Nat → Nat) (w : World) (hn : n ≤ 1048576) (hB : Ints .u16 w (some x) n b off f) :
    Calls Try.prog 38 #[.slice (some x) n c] w fun e w' => e = .returned (.slice (some ⟨w.heap.size, 0, none⟩) n n) ∧ w'.rowIs w.heap.size 33 n (fun j => .int .u16 (f j)) ∧ Below w.heap.size w w' := by
  have q68 : ∀ (w : World) (a : Option Addr) (n c n' c' : Nat), (binOp .eql 68 (.slice a n c) (.slice none n' c')).run Try.prog w = .ok (.bool a.isNone) w := fun w a n c n' c' => Lib.run_eql_slice_nil w _ _ a n c n' c' Try.underlying68
  have hmk := run_make_row' (P := Try.prog) 68 33 (.int .u16 0) 2 Try.underlying68 info33 rfl .i64 .i64 n (by omega) (by omega)
  have HB : Hid (Ints .u16 w (some x) n b off f) := hB
  clear hB
  go_enter Try.func38, Try.ntmps38
  go_wp2
  clear hmk q68
  go_loopw [4] (fun i wr => ∃ k : Nat, k ≤ n ∧ i = .int .i64 k ∧ wr.rowIs w.heap.size 33 n (copied f k) ∧ Below w.heap.size w wr) (fun i _ => n - (intOf i).toNat)
  case atStart => exact ⟨0, Nat.zero_le _, rfl, (World.rowIs_made w _ _ _), (Below.refl _ _).alloc (Nat.le_refl _) _⟩
  case round =>
    obtain ⟨k, hk, rfl, hrow, hbel⟩ := hrel
    by_cases hlt : k < n
    · obtain ⟨ha, hc⟩ := HB.out
      obtain rfl : x = ⟨b, off, none⟩ := by simpa using ha (by omega)
      have hcx : wr.cell? ⟨b, off + k, none⟩ = some (.int .u16 (f k)) := cell_later hbel (hc k hlt)
      have hcd : wr.cell? ⟨w.heap.size, k, none⟩ = some (copied f k k) := hrow.cell hlt
      have hfd : wr.frozen? ⟨w.heap.size, k, none⟩ = false := hrow.frozen k
      have HRR : Hid ((wr.setCell ⟨w.heap.size, k, none⟩ (.int .u16 (f k))).rowIs w.heap.size 33 n (copied f (k + 1))) := copied_step hrow
      clear ha hc
      have hltz : (k : Int) < (n : Int) := by omega
      go_wp2
      go_roundw
      case rel => exact ⟨k + 1, by omega, by go_num, HRR.out, hbel.setCell (Nat.le_refl _) _⟩
      case measure => simp [intOf]; omega
    · have hk2 : k = n := by omega
      subst hk2
      go_wp2
      go_ret
      exact ⟨rfl, hrow.congr (fun i hi => by simp [copied, hi]), hbel⟩

/-- The clone of a slice of steps. -/
theorem clone_any (a : Option Addr) (b off n c : Nat) (f : Nat → Nat) (w : World) (hn : n ≤ 1048576) (ha : a = none → n = 0 ∧ c = 0) (hB : Ints .u16 w a n b off f) :
    Calls Try.prog 38 #[.slice a n c] w fun e w' => ∃ a', e = .returned (.slice a' n n) ∧ Ints .u16 w' a' n w.heap.size 0 f ∧ Below w.heap.size w w' := by
  cases a with
  | none =>
    obtain ⟨rfl, rfl⟩ := ha rfl
    refine (clone_nil w).mono ?_
    rintro e w' ⟨rfl, rfl⟩
    exact ⟨none, rfl, ⟨fun h => by omega, fun i hi => by omega⟩, Below.refl _ _⟩
  | some x =>
    refine (clone_some x b off n c f w hn hB).mono ?_
    rintro e w' ⟨rfl, hrow, hbel⟩
    exact ⟨_, rfl, ⟨fun _ => rfl, fun i hi => by simpa using hrow.cell hi⟩, hbel⟩

def allLe (A B : Nat → Nat) (n : Nat) : Bool := (List.range n).all fun c => A c ≤ B c
theorem allLe_iff (A B : Nat → Nat) (n : Nat) : allLe A B n = true ↔ ∀ c, c < n → A c ≤ B c := by simp [allLe]

set_option maxHeartbeats 400000 in
theorem leq_any (b1 b2 n c1 c2 : Nat) (A B : Nat → Nat) (w : World) (hn : n ≤ 6) (h1 : ∀ i, i < n → w.cell? ⟨b1, i, none⟩ = some (.int .u64 (A i))) (h2 : ∀ i, i < n → w.cell? ⟨b2, i, none⟩ = some (.int .u64 (B i))) :
    Calls Try.prog 39 #[.slice (some ⟨b1, 0, none⟩) n c1, .slice (some ⟨b2, 0, none⟩) n c2] w fun e w' => e = .returned (.bool (allLe A B n)) ∧ ∃ m, w' = w.drewN m := by
  generalize hq : allLe A B n = q
  have HQ : Hid (allLe A B n = q) := hq
  have H1 : Hid (∀ i, i < n → w.cell? ⟨b1, i, none⟩ = some (.int .u64 (A i))) := h1
  have H2 : Hid (∀ i, i < n → w.cell? ⟨b2, i, none⟩ = some (.int .u64 (B i))) := h2
  clear hq h1 h2
  go_enter Try.func39, Try.ntmps39
  go_wp2
  go_loopw [5] (fun u wr => ∃ k : Nat, k ≤ n ∧ u = .int .i64 k ∧ (∀ i, i < k → A i ≤ B i) ∧ ∃ m, wr = w.drewN m) (fun i _ => n - (intOf i).toNat)
  case atStart => exact ⟨0, Nat.zero_le _, rfl, fun i hi => by omega, 0, rfl⟩
  case round =>
    obtain ⟨k, hk, rfl, hall, m, hal⟩ := hrel
    have HAL : Hid (wr = w.drewN m) := hal
    have HA : Hid (∀ i, i < k → A i ≤ B i) := hall
    clear hal hall
    by_cases hlt : k < n
    · have hcx : wr.cell? ⟨b1, k, none⟩ = some (.int .u64 (A k)) := by rw [HAL.out]; exact H1.out k hlt
      have hcy : wr.cell? ⟨b2, k, none⟩ = some (.int .u64 (B k)) := by rw [HAL.out]; exact H2.out k hlt
      have hltz : (k : Int) < (n : Int) := by omega
      go_wp2
      go_quiet (fail)
      go_wp2
      · have hgt : B k < A k := by assumption
        go_ret
        refine ⟨?_, m + nq, by rw [HAL.out]; exact World.drewN_drewN ..⟩
        have : q = false := by
          rw [← HQ.out]
          cases hx : allLe A B n with
          | false => rfl
          | true => have := (allLe_iff A B n).1 hx k hlt; omega
        rw [this]
        rfl
      · have hle : A k ≤ B k := by first | assumption | omega
        go_roundw
        case rel =>
          refine ⟨k + 1, by omega, by go_num, fun i hi => ?_, m + nq, by rw [HAL.out]; exact World.drewN_drewN ..⟩
          by_cases e : i = k
          · subst e; omega
          · exact HA.out i (by omega)
        case measure => simp [intOf]; omega
    · obtain rfl : k = n := by omega
      go_wp2
      go_ret
      refine ⟨?_, m, HAL.out⟩
      have : q = true := by rw [← HQ.out, allLe_iff]; exact HA.out
      rw [this]
      rfl

end Go.Proofs.Qxb6001689a

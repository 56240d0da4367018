/-
  The walks shared by the four laws of seat b6603177a: cloneBytesB1 (8) and the four byte counts (7, 11, 12, 15).
-/
import Derived.Test.Qxb6603177aRows
import Derived.WalkKit
import Derived.WalkSpells
import Derived.WalkLawsBesides
import Derived.Deep.OwnRows
import Derived.OpenShut
namespace Go.Proofs.Qxb6603177a
open Go.RowKit
open Go.WideShapes (add_plain)

theorem info5 : (Try.prog.info? 5).map (fun i => (i.zero, i.size, i.bytes)) = some (some (.int .u8 0), 1, 1) := by kernel_rfl

/-- What is known of a byte slice: it leads to n cells that hold the bytes f. -/
def Bytes (w : World) (a : Option Addr) (n : Nat) (b off : Nat) (f : Nat → Int) : Prop :=
  (0 < n → a = some ⟨b, off, none⟩) ∧ (∀ i, i < n → w.cell? ⟨b, off + i, none⟩ = some (.int .u8 (f i))) ∧ ∀ i, i < n → 0 ≤ f i ∧ f i ≤ 255

set_option maxHeartbeats 400000 in
theorem clone_nil (w : World) :
    Calls Try.prog 8 #[.slice none 0 0] w fun e w' => e = .returned (.slice none 0 0) ∧ w' = w := by
  have q22 : ∀ (w : World) (a : Option Addr) (n c n' c' : Nat), (binOp .eql 22 (.slice a n c) (.slice none n' c')).run Try.prog w = .ok (.bool a.isNone) w := fun w a n c n' c' => Lib.run_eql_slice_nil w _ _ a n c n' c' Try.underlying22
  go_enter Try.func8, Try.ntmps8
  go_wp2
  go_ret
  exact ⟨rfl, rfl⟩

def copied (f : Nat → Int) (k : Nat) : Nat → Value := fun j => .int .u8 (if j < k then f j else 0)

theorem copied_step {w : World} {b n k : Nat} {f : Nat → Int} (h : w.rowIs b 5 n (copied f k)) : (w.setCell ⟨b, k, none⟩ (.int .u8 (f k))).rowIs b 5 n (copied f (k + 1)) := by
  refine (h.set k _).congr fun i _ => ?_
  unfold copied
  by_cases e : i = k
  · subst e; simp
  · by_cases e2 : i < k
    · simp [e, e2, show i < k + 1 by omega]
    · simp [e, e2, show ¬ i < k + 1 by omega]

set_option maxHeartbeats 400000 in
theorem clone_some (x : Addr) (b off n c : Nat) (f : Nat → Int) (w : World) (hn : n ≤ 1048576) (hB : Bytes w (some x) n b off f) :
    Calls Try.prog 8 #[.slice (some x) n c] w fun e w' => e = .returned (.slice (some ⟨w.heap.size, 0, none⟩) n n) ∧ w'.rowIs w.heap.size 5 n (fun j => .int .u8 (f j)) ∧ Below w.heap.size w w' ∧ w'.heap.size = w.heap.size + 1 := by
  have q22 : ∀ (w : World) (a : Option Addr) (n c n' c' : Nat), (binOp .eql 22 (.slice a n c) (.slice none n' c')).run Try.prog w = .ok (.bool a.isNone) w := fun w a n c n' c' => Lib.run_eql_slice_nil w _ _ a n c n' c' Try.underlying22
  have hmk := run_make_row' (P := Try.prog) 22 5 (.int .u8 0) 1 Try.underlying22 info5 rfl .i64 .i64 n (by omega) (by omega)
  have HB : Hid (Bytes w (some x) n b off f) := hB
  clear hB
  go_enter Try.func8, Try.ntmps8
  go_wp2
  clear hmk q22
  go_loopw [4] (fun i wr => ∃ k : Nat, k ≤ n ∧ i = .int .i64 k ∧ wr.rowIs w.heap.size 5 n (copied f k) ∧ Below w.heap.size w wr ∧ wr.heap.size = w.heap.size + 1) (fun i _ => n - (intOf i).toNat)
  case atStart => exact ⟨0, Nat.zero_le _, rfl, (World.rowIs_made w _ _ _), (Below.refl _ _).alloc (Nat.le_refl _) _, by simp⟩
  case round =>
    obtain ⟨k, hk, rfl, hrow, hbel, hsz⟩ := hrel
    by_cases hlt : k < n
    · obtain ⟨ha, hc, _⟩ := HB.out
      obtain rfl : x = ⟨b, off, none⟩ := by simpa using ha (by omega)
      have hcx : wr.cell? ⟨b, off + k, none⟩ = some (.int .u8 (f k)) := cell_later hbel (hc k hlt)
      have hcd : wr.cell? ⟨w.heap.size, k, none⟩ = some (copied f k k) := hrow.cell hlt
      have hfd : wr.frozen? ⟨w.heap.size, k, none⟩ = false := hrow.frozen k
      have HR := copied_step hrow
      have HRR : Hid _ := HR
      clear HR ha hc
      have hltz : (k : Int) < (n : Int) := by omega
      go_wp2
      go_roundw
      case rel => exact ⟨k + 1, by omega, by go_num, HRR.out, hbel.setCell (Nat.le_refl _) _, by simpa using hsz⟩
      case measure => simp [intOf]; omega
    · have hk2 : k = n := by omega
      subst hk2
      go_wp2
      go_ret
      exact ⟨rfl, hrow.congr (fun i hi => by simp [copied, hi]), hbel, hsz⟩

/-- The clone of a slice of at most 1 MiB: the same bytes at the head of a new block; nothing old has turned. -/
theorem clone_any (a : Option Addr) (b off n c : Nat) (f : Nat → Int) (w : World) (hn : n ≤ 1048576) (ha : a = none → n = 0 ∧ c = 0) (hB : Bytes w a n b off f) :
    Calls Try.prog 8 #[.slice a n c] w fun e w' => ∃ a', e = .returned (.slice a' n n) ∧ Bytes w' a' n w.heap.size 0 f ∧ Below w.heap.size w w' := by
  cases a with
  | none =>
    obtain ⟨rfl, rfl⟩ := ha rfl
    refine (clone_nil w).mono ?_
    rintro e w' ⟨rfl, rfl⟩
    exact ⟨none, rfl, ⟨fun h => by omega, fun i hi => by omega, fun i hi => by omega⟩, Below.refl _ _⟩
  | some x =>
    refine (clone_some x b off n c f w hn hB).mono ?_
    rintro e w' ⟨rfl, hrow, hbel, _⟩
    exact ⟨_, rfl, ⟨fun _ => rfl, fun i hi => by simpa using hrow.cell hi, hB.2.2⟩, hbel⟩

/-- What the shells hand over of a slice of bytes, as 'Bytes'. -/
theorem bytes_of {w : World} {a : Option Addr} {len cap : Nat} {zs : List Int}
    (h : (a = none ∧ len = 0 ∧ cap = 0 ∧ zs = []) ∨ ∃ x, a = some x ∧ len ≤ cap ∧ cap ≤ maxLen ∧ zs.length = cap ∧ (∀ i, i < zs.length → w.cell? (x.add i) = some (.int .u8 (zs.getD i 0))) ∧ ∀ n ∈ zs, (Lit.int .u8 n).wf = true) :
    ∃ b off f, Bytes w a len b off f ∧ (a = none → len = 0 ∧ cap = 0) ∧ len ≤ 9223372036854775807 := by
  rcases h with ⟨rfl, rfl, rfl, rfl⟩ | ⟨x, rfl, hl, hm, hz, hc, hwf⟩
  · exact ⟨0, 0, fun _ => 0, ⟨fun h => by omega, fun i hi => by omega, fun i hi => by omega⟩, fun _ => ⟨rfl, rfl⟩, by omega⟩
  · unfold maxLen at hm
    refine ⟨x.block, x.off, fun i => zs.getD i 0, ⟨fun h0 => ?_, fun i hi => ?_, fun i hi => ?_⟩, (fun h => by cases h), by omega⟩
    · have hs := World.cell?_spot (hc 0 (by omega))
      obtain ⟨b, off, s⟩ := x
      simp [Addr.add] at hs
      subst hs
      rfl
    · have hs := World.cell?_spot (hc 0 (by omega))
      have hci := hc i (by omega)
      obtain ⟨b, off, s⟩ := x
      simp [Addr.add] at hs
      subst hs
      rw [add_plain] at hci
      exact hci
    · have := range_u8 hwf i
      show 0 ≤ zs.getD i 0 ∧ zs.getD i 0 ≤ 255
      rw [List.getD_eq_getElem?_getD]
      exact this

end Go.Proofs.Qxb6603177a

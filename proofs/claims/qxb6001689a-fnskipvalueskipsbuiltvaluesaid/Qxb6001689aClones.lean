/-
  The walks of the three clones (12, 16, 17): make, copy.
-/
import Derived.Test.Qxb6001689aRows
import Derived.WalkKit
import Derived.WalkSpells
import Derived.WalkLawsBesides
import Derived.Deep.OwnRows
import Derived.Laws.CopyOwn
namespace Go.Proofs.Qxb6001689a
open Go.RowKit

theorem info5 : (Try.prog.info? 5).map (fun i => (i.zero, i.size, i.bytes)) = some (some (.int .u8 0), 1, 1) := by kernel_rfl
theorem info2 : (Try.prog.info? 2).map (fun i => (i.zero, i.size, i.bytes)) = some (some (.int .i64 0), 1, 8) := by kernel_rfl
theorem info9 : (Try.prog.info? 9).map (fun i => (i.zero, i.size, i.bytes)) = some (some (.string ByteArray.empty), 1, 16) := by kernel_rfl
theorem size5 : (Try.prog.info? 5).map (·.size) = some 1 := by kernel_rfl
theorem size2 : (Try.prog.info? 2).map (·.size) = some 1 := by kernel_rfl
theorem size9 : (Try.prog.info? 9).map (·.size) = some 1 := by kernel_rfl

/-- The values xs lie one behind the other from the offset off of block g on. -/
def Cells (w : World) (g off : Nat) (xs : List Value) : Prop := ∀ i v, xs[i]? = some v → w.cell? ⟨g, off + i, none⟩ = some v

theorem cells_of_heap {w : World} {g : Nat} {xs ys : List Value} {t : TypeId} (h : w.heap[g]? = some (.cells (xs ++ ys).toArray t (0, 0))) : Cells w g 0 xs := by
  intro i v hv
  obtain ⟨hi, hv⟩ := List.getElem?_eq_some_iff.1 hv
  unfold World.cell?
  simp [h, List.getElem?_append, hi, hv]

theorem copy_run (T E : TypeId) (z : Value) (hu : Try.prog.underlying T = some (.slice E)) (hsz : (Try.prog.info? E).map (·.size) = some 1) (x : Addr) (n c : Nat) (xs : List Value) (w : World) (hx : xs.length = n) (hc : 0 < n → ∃ b off, x = ⟨b, off, none⟩ ∧ Cells w b off xs) (h1 : ∀ v ∈ xs, v.oneCell' = true) :
    ∃ W', (Builtin.copy_ #[T, T] 3 #[.slice (some ⟨w.heap.size, 0, none⟩) n n, .slice (some x) n c]).run Try.prog (w.alloc (.cells (madeCells #[z] n) E)) = .ok (.int .i64 n) W' ∧ Cells W' w.heap.size 0 xs ∧ Below w.heap.size w W' := by
  have hb : Below w.heap.size w (w.alloc (.cells (madeCells #[z] n) E)) := (Below.refl _ _).alloc (Nat.le_refl _) _
  rcases Nat.eq_zero_or_pos n with h0 | h0
  · subst h0
    obtain rfl := List.eq_nil_of_length_eq_zero hx
    exact ⟨_, run_copy_none (P := Try.prog) _ T T 3 E _ _ 0 0 0 c hu hsz rfl, (fun i v h => by simp at h), hb⟩
  · obtain ⟨b, off, rfl, hcl⟩ := hc h0
    have hg : (w.alloc (.cells (madeCells #[z] n) E)).heap[w.heap.size]? = some (.cells (madeCells #[z] n) E (0, 0)) := heap_alloc_new w _
    have hr := run_copy_row (P := Try.prog) (w.alloc (.cells (madeCells #[z] n) E)) T T 3 E w.heap.size 0 n n ⟨b, off, none⟩ n c (madeCells #[z] n) E xs hu hsz hg (by rw [hx]; exact (Nat.min_self n).symm)
      (fun j v hj => by rw [Addr.add_lit]; exact cell_later hb (hcl j v hj)) (by rw [hx, size_madeCells]; omega) h1
    rw [hx] at hr
    refine ⟨_, hr, ?_, below_setRow hb (Nat.le_refl _) _⟩
    refine cells_of_heap (t := E) (ys := ((madeCells #[z] n).toList.drop (0 + n))) ?_
    rw [setRow_heap _ _ _ _ _ _ hg]
    simp


set_option maxHeartbeats 400000 in
theorem clone12_nil (w : World) :
    Calls Try.prog 12 #[.slice none 0 0] w fun e w' => e = .returned (.slice none 0 0) ∧ w' = w := by
  have q22 : ∀ (w : World) (a : Option Addr) (n c n' c' : Nat), (binOp .eql 22 (.slice a n c) (.slice none n' c')).run Try.prog w = .ok (.bool a.isNone) w := fun w a n c n' c' => Lib.run_eql_slice_nil w _ _ a n c n' c' Try.underlying22
  go_enter Try.func12, Try.ntmps12
  go_wp2
  go_ret
  exact ⟨rfl, rfl⟩

set_option maxRecDepth 100000 in
set_option maxHeartbeats 400000 in
theorem clone12_some (x : Addr) (n c : Nat) (xs : List Value) (w : World) (hn : n ≤ 1048576) (hx : xs.length = n) (hc : 0 < n → ∃ b off, x = ⟨b, off, none⟩ ∧ Cells w b off xs) (h1 : ∀ v ∈ xs, v.oneCell' = true) :
    Calls Try.prog 12 #[.slice (some x) n c] w fun e w' => e = .returned (.slice (some ⟨w.heap.size, 0, none⟩) n n) ∧ Cells w' w.heap.size 0 xs ∧ Below w.heap.size w w' := by
  have q22 : ∀ (w : World) (a : Option Addr) (n c n' c' : Nat), (binOp .eql 22 (.slice a n c) (.slice none n' c')).run Try.prog w = .ok (.bool a.isNone) w := fun w a n c n' c' => Lib.run_eql_slice_nil w _ _ a n c n' c' Try.underlying22
  have hmk := run_make_row' (P := Try.prog) 22 5 (.int .u8 0) 1 Try.underlying22 info5 rfl .i64 .i64 n (by omega) (by omega)
  have HX : Hid (xs.length = n) := hx
  have HC : Hid (0 < n → ∃ b off, x = ⟨b, off, none⟩ ∧ Cells w b off xs) := hc
  have H1 : Hid (∀ v ∈ xs, v.oneCell' = true) := h1
  clear hx hc h1
  obtain ⟨W', hcp, hcl, hbel⟩ := copy_run 22 5 (.int .u8 0) Try.underlying22 size5 x n c xs w HX.out HC.out H1.out
  go_enter Try.func12, Try.ntmps12
  go_wp2
  go_ret
  exact ⟨rfl, hcl, hbel⟩

theorem clone12 (a : Option Addr) (b off n c : Nat) (xs : List Value) (w : World) (hn : n ≤ 1048576) (hx : xs.length = n) (ha : a = none → n = 0 ∧ c = 0) (hb : 0 < n → a = some ⟨b, off, none⟩) (hc : Cells w b off xs) (h1 : ∀ v ∈ xs, v.oneCell' = true) :
    Calls Try.prog 12 #[.slice a n c] w fun e w' => ∃ a', e = .returned (.slice a' n n) ∧ (0 < n → a' = some ⟨w.heap.size, 0, none⟩) ∧ Cells w' w.heap.size 0 xs ∧ Below w.heap.size w w' := by
  cases a with
  | none =>
    obtain ⟨rfl, rfl⟩ := ha rfl
    obtain rfl := List.eq_nil_of_length_eq_zero hx
    refine (clone12_nil w).mono ?_
    rintro e w' ⟨rfl, rfl⟩
    exact ⟨none, rfl, fun h => by omega, (fun i v h => by simp at h), Below.refl _ _⟩
  | some x =>
    refine (clone12_some x n c xs w hn hx (fun h0 => ⟨b, off, by simpa using hb h0, hc⟩) h1).mono ?_
    rintro e w' ⟨rfl, hcl, hbel⟩
    exact ⟨_, rfl, fun _ => rfl, hcl, hbel⟩

set_option maxHeartbeats 400000 in
theorem clone16_nil (w : World) :
    Calls Try.prog 16 #[.slice none 0 0] w fun e w' => e = .returned (.slice none 0 0) ∧ w' = w := by
  have q26 : ∀ (w : World) (a : Option Addr) (n c n' c' : Nat), (binOp .eql 26 (.slice a n c) (.slice none n' c')).run Try.prog w = .ok (.bool a.isNone) w := fun w a n c n' c' => Lib.run_eql_slice_nil w _ _ a n c n' c' Try.underlying26
  go_enter Try.func16, Try.ntmps16
  go_wp2
  go_ret
  exact ⟨rfl, rfl⟩

set_option maxRecDepth 100000 in
set_option maxHeartbeats 400000 in
theorem clone16_some (x : Addr) (n c : Nat) (xs : List Value) (w : World) (hn : n ≤ 1048576) (hx : xs.length = n) (hc : 0 < n → ∃ b off, x = ⟨b, off, none⟩ ∧ Cells w b off xs) (h1 : ∀ v ∈ xs, v.oneCell' = true) :
    Calls Try.prog 16 #[.slice (some x) n c] w fun e w' => e = .returned (.slice (some ⟨w.heap.size, 0, none⟩) n n) ∧ Cells w' w.heap.size 0 xs ∧ Below w.heap.size w w' := by
  have q26 : ∀ (w : World) (a : Option Addr) (n c n' c' : Nat), (binOp .eql 26 (.slice a n c) (.slice none n' c')).run Try.prog w = .ok (.bool a.isNone) w := fun w a n c n' c' => Lib.run_eql_slice_nil w _ _ a n c n' c' Try.underlying26
  have hmk := run_make_row' (P := Try.prog) 26 2 (.int .i64 0) 8 Try.underlying26 info2 rfl .i64 .i64 n (by omega) (by omega)
  have HX : Hid (xs.length = n) := hx
  have HC : Hid (0 < n → ∃ b off, x = ⟨b, off, none⟩ ∧ Cells w b off xs) := hc
  have H1 : Hid (∀ v ∈ xs, v.oneCell' = true) := h1
  clear hx hc h1
  obtain ⟨W', hcp, hcl, hbel⟩ := copy_run 26 2 (.int .i64 0) Try.underlying26 size2 x n c xs w HX.out HC.out H1.out
  go_enter Try.func16, Try.ntmps16
  go_wp2
  go_ret
  exact ⟨rfl, hcl, hbel⟩

theorem clone16 (a : Option Addr) (b off n c : Nat) (xs : List Value) (w : World) (hn : n ≤ 1048576) (hx : xs.length = n) (ha : a = none → n = 0 ∧ c = 0) (hb : 0 < n → a = some ⟨b, off, none⟩) (hc : Cells w b off xs) (h1 : ∀ v ∈ xs, v.oneCell' = true) :
    Calls Try.prog 16 #[.slice a n c] w fun e w' => ∃ a', e = .returned (.slice a' n n) ∧ (0 < n → a' = some ⟨w.heap.size, 0, none⟩) ∧ Cells w' w.heap.size 0 xs ∧ Below w.heap.size w w' := by
  cases a with
  | none =>
    obtain ⟨rfl, rfl⟩ := ha rfl
    obtain rfl := List.eq_nil_of_length_eq_zero hx
    refine (clone16_nil w).mono ?_
    rintro e w' ⟨rfl, rfl⟩
    exact ⟨none, rfl, fun h => by omega, (fun i v h => by simp at h), Below.refl _ _⟩
  | some x =>
    refine (clone16_some x n c xs w hn hx (fun h0 => ⟨b, off, by simpa using hb h0, hc⟩) h1).mono ?_
    rintro e w' ⟨rfl, hcl, hbel⟩
    exact ⟨_, rfl, fun _ => rfl, hcl, hbel⟩

set_option maxHeartbeats 400000 in
theorem clone17_nil (w : World) :
    Calls Try.prog 17 #[.slice none 0 0] w fun e w' => e = .returned (.slice none 0 0) ∧ w' = w := by
  have q27 : ∀ (w : World) (a : Option Addr) (n c n' c' : Nat), (binOp .eql 27 (.slice a n c) (.slice none n' c')).run Try.prog w = .ok (.bool a.isNone) w := fun w a n c n' c' => Lib.run_eql_slice_nil w _ _ a n c n' c' Try.underlying27
  go_enter Try.func17, Try.ntmps17
  go_wp2
  go_ret
  exact ⟨rfl, rfl⟩

set_option maxRecDepth 100000 in
set_option maxHeartbeats 400000 in
theorem clone17_some (x : Addr) (n c : Nat) (xs : List Value) (w : World) (hn : n ≤ 1048576) (hx : xs.length = n) (hc : 0 < n → ∃ b off, x = ⟨b, off, none⟩ ∧ Cells w b off xs) (h1 : ∀ v ∈ xs, v.oneCell' = true) :
    Calls Try.prog 17 #[.slice (some x) n c] w fun e w' => e = .returned (.slice (some ⟨w.heap.size, 0, none⟩) n n) ∧ Cells w' w.heap.size 0 xs ∧ Below w.heap.size w w' := by
  have q27 : ∀ (w : World) (a : Option Addr) (n c n' c' : Nat), (binOp .eql 27 (.slice a n c) (.slice none n' c')).run Try.prog w = .ok (.bool a.isNone) w := fun w a n c n' c' => Lib.run_eql_slice_nil w _ _ a n c n' c' Try.underlying27
  have hmk := run_make_row' (P := Try.prog) 27 9 (.string ByteArray.empty) 16 Try.underlying27 info9 rfl .i64 .i64 n (by omega) (by omega)
  have HX : Hid (xs.length = n) := hx
  have HC : Hid (0 < n → ∃ b off, x = ⟨b, off, none⟩ ∧ Cells w b off xs) := hc
  have H1 : Hid (∀ v ∈ xs, v.oneCell' = true) := h1
  clear hx hc h1
  obtain ⟨W', hcp, hcl, hbel⟩ := copy_run 27 9 (.string ByteArray.empty) Try.underlying27 size9 x n c xs w HX.out HC.out H1.out
  go_enter Try.func17, Try.ntmps17
  go_wp2
  go_ret
  exact ⟨rfl, hcl, hbel⟩

theorem clone17 (a : Option Addr) (b off n c : Nat) (xs : List Value) (w : World) (hn : n ≤ 1048576) (hx : xs.length = n) (ha : a = none → n = 0 ∧ c = 0) (hb : 0 < n → a = some ⟨b, off, none⟩) (hc : Cells w b off xs) (h1 : ∀ v ∈ xs, v.oneCell' = true) :
    Calls Try.prog 17 #[.slice a n c] w fun e w' => ∃ a', e = .returned (.slice a' n n) ∧ (0 < n → a' = some ⟨w.heap.size, 0, none⟩) ∧ Cells w' w.heap.size 0 xs ∧ Below w.heap.size w w' := by
  cases a with
  | none =>
    obtain ⟨rfl, rfl⟩ := ha rfl
    obtain rfl := List.eq_nil_of_length_eq_zero hx
    refine (clone17_nil w).mono ?_
    rintro e w' ⟨rfl, rfl⟩
    exact ⟨none, rfl, fun h => by omega, (fun i v h => by simp at h), Below.refl _ _⟩
  | some x =>
    refine (clone17_some x n c xs w hn hx (fun h0 => ⟨b, off, by simpa using hb h0, hc⟩) h1).mono ?_
    rintro e w' ⟨rfl, hcl, hbel⟩
    exact ⟨_, rfl, fun _ => rfl, hcl, hbel⟩

end Go.Proofs.Qxb6001689a

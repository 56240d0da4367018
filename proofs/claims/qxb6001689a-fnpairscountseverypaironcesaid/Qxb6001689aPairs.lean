/-
  The walk of (*Log).Pairs (51).
-/
import Derived.Test.Qxb6001689aLeq
import Derived.Test.Qxb6001689aClock
import Derived.Maps.RangeRun
namespace Go.Proofs.Qxb6001689a
open Go.RowKit

/-- The log that ZZPairs makes, as Pairs reads it. -/
structure LogIs (w : World) (bl bm be n h clk : Nat) (E : MapEntry) (bs : Nat → Nat) (C : Nat → Nat → Nat) : Prop where
  l0 : w.cell? ⟨bl, 0, none⟩ = some (.map (some bm))
  l1 : w.cell? ⟨bl, 1, none⟩ = some (.int .i64 n)
  m : w.heap[bm]? = some (.map #[E] clk)
  val : E.val = .slice (some ⟨be, 0, none⟩) n n
  born : E.born < clk
  e0 : ∀ k, k < n → w.cell? ⟨be, k * 7, none⟩ = some (.string ByteArray.empty)
  e1 : ∀ k, k < n → w.cell? ⟨be, k * 7 + 1, none⟩ = some (.int .u64 0)
  e2 : ∀ k, k < n → w.cell? ⟨be, k * 7 + 2, none⟩ = some (.int .u64 0)
  e3 : ∀ k, k < n → w.cell? ⟨be, k * 7 + 3, none⟩ = some (.slice (some ⟨bs k, 0, none⟩) h h)
  e4 : ∀ k, k < n → w.cell? ⟨be, k * 7 + 4, none⟩ = some (.string ByteArray.empty)
  e5 : ∀ k, k < n → w.cell? ⟨be, k * 7 + 5, none⟩ = some (.int .i64 0)
  e6 : ∀ k, k < n → w.cell? ⟨be, k * 7 + 6, none⟩ = some (.int .i64 0)
  c0 : ∀ k, k < n → ∀ c, c < h → w.cell? ⟨bs k, c * 2, none⟩ = some (.pointer none)
  c1 : ∀ k, k < n → ∀ c, c < h → w.cell? ⟨bs k, c * 2 + 1, none⟩ = some (.int .u64 (C k c))

def tot (C : Nat → Nat → Nat) (h : Nat) (k : Nat) : Nat := sumTo (fun f => sumTo (C f) h - 1) k

theorem next_first {w : World} {r bm clk : Nat} {E : MapEntry} (hr : w.heap[r]? = some (.mapIter (some bm) clk #[] clk)) (hb : w.heap[bm]? = some (.map #[E] clk)) (hE : E.born < clk) {B : Nat} {w0 : World} (hbel : Below B w0 w) (hB : B ≤ r) :
    ∃ w1 : World, (Instr.next (.pointer (some ⟨r, 0, none⟩)) false 0).run Try.prog w = .ok (.tuple #[.bool true, E.key, E.val]) w1 ∧ (Instr.entry (.pointer (some ⟨r, 0, none⟩))).run Try.prog w1 = .ok (.tuple #[E.key, E.val]) w1 ∧
      w1.heap[r]? = some (.mapIter (some bm) clk #[E.born] clk) ∧ Below B w0 w1 ∧ w1.heap.size = w.heap.size := by
  rcases run_next_at (P := Try.prog) w 0 r bm clk clk #[] #[E] clk hr hb (by simpa using hE) (Nat.le_refl _) with ⟨h0, _⟩ | ⟨e, he, w1, hal, hrun⟩
  · simp [leftOf] at h0
  · have heE : e = E := by simpa [leftOf] using he
    subst heE
    have hne : bm ≠ r := fun h => by subst h; rw [hr] at hb; simp at hb
    have hlt : r < w.heap.size := (Array.getElem?_eq_some_iff.1 hr).1
    have hh : w1.heap = w.heap := by rcases hal with rfl | rfl <;> rfl
    have hset : (ChangeMaps.setBlock w1 r (.mapIter (some bm) clk (#[].push e.born) clk)).heap[r]? = some (.mapIter (some bm) clk #[e.born] clk) := by
      simp [ChangeMaps.setBlock, hh, hlt]
    have hset2 : (ChangeMaps.setBlock w1 r (.mapIter (some bm) clk (#[].push e.born) clk)).heap[bm]? = some (.map #[e] clk) := by
      simp only [ChangeMaps.setBlock, hh]
      rw [Array.getElem?_setIfInBounds, if_neg (fun h => hne h.symm)]
      exact hb
    refine ⟨_, hrun, run_entry_at _ r bm clk #[] #[e] clk e hset hset2 (by simp) (by simp), hset, ?_, by simp [ChangeMaps.setBlock, hh]⟩
    refine hbel.trans ⟨?_, ?_, ?_, by simp [ChangeMaps.setBlock, hh], fun k hk => ?_⟩
    · rcases hal with rfl | rfl <;> rfl
    · rcases hal with rfl | rfl <;> rfl
    · rcases hal with rfl | rfl <;> rfl
    · simp only [ChangeMaps.setBlock, hh]
      rw [Array.getElem?_setIfInBounds, if_neg (by omega)]

theorem next_last {w : World} {r bm clk : Nat} {E : MapEntry} (hr : w.heap[r]? = some (.mapIter (some bm) clk #[E.born] clk)) (hb : w.heap[bm]? = some (.map #[E] clk)) (hE : E.born < clk) :
    (Instr.next (.pointer (some ⟨r, 0, none⟩)) false 0).run Try.prog w = .ok (.tuple #[.bool false]) w := by
  rcases run_next_at (P := Try.prog) w 0 r bm clk clk #[E.born] #[E] clk hr hb (by simpa using hE) (Nat.le_refl _) with ⟨_, h0⟩ | ⟨e, he, _⟩
  · exact h0
  · simp [leftOf] at he

theorem tup2 {a b c d : Int} (h1 : a = c) (h2 : b = d) : Ending.returned (.tuple #[.int .u64 a, .int .u64 b]) = .returned (.tuple #[.int .u64 c, .int .u64 d]) := by rw [h1, h2]
theorem fin_val (n T : Nat) (hn : n ≤ 64) (hT : T * 2 ≤ n * (n - 1)) : IntKind.u64.wrap (IntKind.u64.wrap ((IntKind.u64.wrap ((n : Int) * IntKind.u64.wrap ((n : Int) - 1))).tdiv 2) - (T : Int)) = ((n * (n - 1) / 2 - T : Nat) : Int) := by
  have hw : ∀ z : Int, IntKind.u64.wrap z = z % 18446744073709551616 := fun z => by simp [IntKind.wrap, IntKind.bits, IntKind.signed]
  simp only [hw]
  cases n with
  | zero =>
    obtain rfl : T = 0 := by omega
    decide
  | succ m =>
    have e1 : (((m + 1 : Nat) : Int) - 1) % 18446744073709551616 = (m : Int) := by omega
    have hP : (m + 1) * m ≤ 64 * 63 := Nat.mul_le_mul hn (by omega)
    have e2 : ((m + 1 : Nat) : Int) * (m : Int) = (((m + 1) * m : Nat) : Int) := by simp
    have hT2 : T * 2 ≤ (m + 1) * m := hT
    rw [e1, e2]
    show _ = (((m + 1) * m / 2 - T : Nat) : Int)
    generalize (m + 1) * m = P at hP hT2
    have e3 : ((P : Int) % 18446744073709551616).tdiv 2 = ((P / 2 : Nat) : Int) := by
      rw [Int.emod_eq_of_lt (by omega) (by omega)]
      rfl
    rw [e3]
    omega

set_option maxHeartbeats 1000000 in
theorem pairs_any (bl bm be n h clk : Nat) (E : MapEntry) (bs : Nat → Nat) (C : Nat → Nat → Nat) (w : World) (hL : LogIs w bl bm be n h clk E bs C) (hn : n ≤ 64) (hh : h ≤ 6) (hC1 : ∀ k, k < n → 1 ≤ sumTo (C k) h) (hC2 : ∀ k, k < n → ∀ c, c ≤ h → sumTo (C k) c ≤ 400) (hT : ∀ k, k ≤ n → tot C h k ≤ 30000) (ho : tot C h n * 2 ≤ n * (n - 1)) :
    Calls Try.prog 51 #[.pointer (some ⟨bl, 0, none⟩)] w fun e w' => e = .returned (.tuple #[.int .u64 (tot C h n : Nat), .int .u64 ((n * (n - 1) / 2 - tot C h n : Nat) : Int)]) ∧ Below w.heap.size w w' := by
  have hl0 := hL.l0
  have hl1 := hL.l1
  have hrg := run_range_map (P := Try.prog) w 98 9 86 bm #[E] clk Try.underlying98 hL.m
  have HL : Hid (LogIs w bl bm be n h clk E bs C) := hL
  have HC : Hid ((∀ k, k < n → 1 ≤ sumTo (C k) h) ∧ (∀ k, k < n → ∀ c, c ≤ h → sumTo (C k) c ≤ 400) ∧ (∀ k, k ≤ n → tot C h k ≤ 30000) ∧ tot C h n * 2 ≤ n * (n - 1)) := ⟨hC1, hC2, hT, ho⟩
  clear hL hC1 hC2 hT ho
  have hmlt : bm < w.heap.size := (Array.getElem?_eq_some_iff.1 HL.out.m).1
  go_enter Try.func51, Try.ntmps51
  go_wp2
  clear hrg
  go_loopw [2] (fun u2 wr => (u2 = .int .u64 0 ∧ wr.heap[w.heap.size]? = some (.mapIter (some bm) clk #[] clk) ∧ Below w.heap.size w wr) ∨ (u2 = .int .u64 (tot C h n : Nat) ∧ wr.heap[w.heap.size]? = some (.mapIter (some bm) clk #[E.born] clk) ∧ Below w.heap.size w wr)) (fun _ wr => 1 - (wr.iterSeen w.heap.size).size)
  case atStart => exact .inl ⟨rfl, heap_alloc_new _ _, (Below.refl _ _).alloc (Nat.le_refl _) _⟩
  case round =>
    rcases hrel with ⟨rfl, hr, hbel⟩ | ⟨rfl, hr, hbel⟩
    · have hb : wr.heap[bm]? = some (.map #[E] clk) := (hbel.block bm hmlt).trans HL.out.m
      obtain ⟨w1, hnext, hentry, hr1, hbel1, hsz⟩ := next_first hr hb HL.out.born hbel (Nat.le_refl _)
      have hE := HL.out.val
      have hms : Hid ((wr.iterSeen w.heap.size).size = 0) := by simp [World.iterSeen, hr, Hid]
      go_wp2
      clear hnext hentry hbel hr hb
      go_loopw [2, 22] (fun u2 u22 wr => ∃ k : Nat, k ≤ n ∧ u22 = .int .i64 k ∧ u2 = .int .u64 (tot C h k : Nat) ∧ wr.heap[w.heap.size]? = some (.mapIter (some bm) clk #[E.born] clk) ∧ Below w.heap.size w wr) (fun _ i _ => n - (intOf i).toNat)
      case atStart => exact ⟨0, Nat.zero_le _, rfl, rfl, hr1, hbel1⟩
      case round =>
        clear hr1 hbel1
        obtain ⟨k, hk, rfl, rfl, hr, hbel⟩ := hrel
        by_cases hlt : k < n
        · have g0 := cell_later hbel (HL.out.e0 k hlt)
          have g1 := cell_later hbel (HL.out.e1 k hlt)
          have g2 := cell_later hbel (HL.out.e2 k hlt)
          have g3 := cell_later hbel (HL.out.e3 k hlt)
          have g4 := cell_later hbel (HL.out.e4 k hlt)
          have g5 := cell_later hbel (HL.out.e5 k hlt)
          have g6 := cell_later hbel (HL.out.e6 k hlt)
          have hltz : (k : Int) < (n : Int) := by omega
          go_wp2
          clear g0 g1 g2 g3 g4 g5 g6
          obtain ⟨hC1, hC2, hT, _⟩ := HC.out
          have hC1k := hC1 k hlt
          have hC2k := hC2 k hlt h (Nat.le_refl _)
          have hTk := hT k hk
          have HC2 : Hid (∀ c, c ≤ h → sumTo (C k) c ≤ 400) := hC2 k hlt
          clear hC1 hC2 hT
          have hral := heap_alloc_old wr (Obj.cells #[Value.string ByteArray.empty, Value.int IntKind.u64 0, Value.int IntKind.u64 0, Value.slice (some ⟨bs k, 0, none⟩) h h, Value.string ByteArray.empty, Value.int IntKind.i64 0, Value.int IntKind.i64 0] 96) (Array.getElem?_eq_some_iff.1 hr).1
          go_loopw [2, 30] (fun u2 u30 wi => ∃ c : Nat, c ≤ h ∧ u30 = .int .i64 c ∧ u2 = .int .u64 ((tot C h k + sumTo (C k) c : Nat) : Int) ∧ wi.heap[w.heap.size]? = some (.mapIter (some bm) clk #[E.born] clk) ∧ Below w.heap.size w wi) (fun _ i _ => h - (intOf i).toNat)
          case atStart => exact ⟨0, Nat.zero_le _, rfl, rfl, hral.trans hr, hbel.alloc hbel.size _⟩
          case round =>
            clear hral hr hbel
            obtain ⟨c, hc, rfl, rfl, hr, hbel⟩ := hrel
            by_cases hlc : c < h
            · have g0 := cell_later hbel (HL.out.c0 k hlt c hlc)
              have g1 := cell_later hbel (HL.out.c1 k hlt c hlc)
              have hlcz : (c : Int) < (h : Int) := by omega
              have hb1 := HC2.out c hc
              have hb2 := HC2.out (c + 1) hlc
              have HS : Hid (sumTo (C k) (c + 1) = sumTo (C k) c + C k c) := rfl
              have hb3 : sumTo (C k) c + C k c ≤ 400 := hb2
              clear hb2
              have hral := heap_alloc_old wr (Obj.cells #[Value.pointer none, Value.int IntKind.u64 (C k c)] 92) (Array.getElem?_eq_some_iff.1 hr).1
              have HR : Hid ((wr.alloc (Obj.cells #[Value.pointer none, Value.int IntKind.u64 (C k c)] 92)).heap[w.heap.size]? = some (.mapIter (some bm) clk #[E.born] clk)) := hral.trans hr
              clear hral
              go_wp2
              go_roundw
              case rel => exact ⟨c + 1, by omega, by go_num, by rw [HS.out]; go_num, HR.out, hbel.alloc hbel.size _⟩
              case measure => simp [intOf]; omega
            · obtain rfl : c = h := by omega
              have HS : Hid (tot C c (k + 1) = tot C c k + (sumTo (C k) c - 1)) := rfl
              go_wp2
              go_roundw
              case rel => exact ⟨k + 1, by omega, by go_num, by rw [HS.out]; go_num, hr, hbel⟩
              case measure => simp [intOf]; omega
        · obtain rfl : k = n := by omega
          go_wp2
          go_roundw
          case rel => exact .inr ⟨rfl, hr, hbel⟩
          case measure =>
            have h1 := hms.out
            have h2 : (wr.iterSeen w.heap.size).size = 1 := by simp [World.iterSeen, hr]
            rw [h1, h2]
            omega
    · have hb : wr.heap[bm]? = some (.map #[E] clk) := (hbel.block bm hmlt).trans HL.out.m
      have hnext := next_last hr hb HL.out.born
      have hl1' := cell_later hbel hl1
      clear hl0 hl1
      go_wp2
      go_ret2
      exact ⟨tup2 rfl (fin_val n (tot C h n) hn HC.out.2.2.2), hbel⟩

end Go.Proofs.Qxb6001689a

/-
  The walk of ZZPairs (40).
-/
import Derived.Test.Qxb6001689aPairs
import Derived.WideMake
import Derived.Carry
namespace Go.Proofs.Qxb6001689a
open Go.RowKit

theorem info92 : (Try.prog.info? 92).map (fun i => (i.zero, i.size, i.bytes)) = some (some (.agg #[.pointer none, .int .u64 0]), 2, 16) := by kernel_rfl
theorem info96 : (Try.prog.info? 96).map (fun i => (i.zero, i.size, i.bytes)) = some (some (.agg #[.string ByteArray.empty, .int .u64 0, .int .u64 0, .slice none 0 0, .string ByteArray.empty, .int .i64 0, .int .i64 0]), 7, 88) := by kernel_rfl

theorem make92 (n : Nat) (hn : n ≤ 6) (w : World) : (Instr.makeSlice 87 (.int .i64 (n : Int)) (.int .i64 (n : Int))).run Try.prog w = .ok (.slice (some ⟨w.heap.size, 0, none⟩) n n) (w.alloc (.cells (madeCells #[.pointer none, .int .u64 0] (n * 2)) 92)) := by
  obtain ⟨i, hi, hz, hsz, hby⟩ := info_parts info92
  have h := run_make (P := Try.prog) w 87 92 i _ Try.underlying87 hi hz .i64 .i64 (n : Int) (n : Int) (by omega) (by omega) (by rw [hby]; omega) (by omega)
  rw [hsz, Int.toNat_natCast] at h
  exact h
theorem make96 (n : Nat) (hn : n ≤ 64) (w : World) : (Instr.makeSlice 86 (.int .i64 (n : Int)) (.int .i64 (n : Int))).run Try.prog w = .ok (.slice (some ⟨w.heap.size, 0, none⟩) n n) (w.alloc (.cells (madeCells #[.string ByteArray.empty, .int .u64 0, .int .u64 0, .slice none 0 0, .string ByteArray.empty, .int .i64 0, .int .i64 0] (n * 7)) 96)) := by
  obtain ⟨i, hi, hz, hsz, hby⟩ := info_parts info96
  have h := run_make (P := Try.prog) w 86 96 i _ Try.underlying86 hi hz .i64 .i64 (n : Int) (n : Int) (by omega) (by omega) (by rw [hby]; omega) (by omega)
  rw [hsz, Int.toNat_natCast] at h
  exact h

/-- The cells of an entries row of which the first j entries are laid. -/
def es (c : Nat → Nat) (j : Nat) : Nat → Value := fun i => if i % 2 = 0 then .pointer none else .int .u64 (if i / 2 < j then (c (i / 2) : Int) else 0)
/-- The cells of the events' row of which the first k events are laid. -/
def ev (e0 h k : Nat) : Nat → Value := fun i =>
  if i % 7 = 0 then .string ByteArray.empty else if i % 7 = 1 then .int .u64 0 else if i % 7 = 2 then .int .u64 0
  else if i % 7 = 3 then (if i / 7 < k then .slice (some ⟨e0 + 1 + i / 7, 0, none⟩) h h else .slice none 0 0)
  else if i % 7 = 4 then .string ByteArray.empty else if i % 7 = 5 then .int .i64 0 else .int .i64 0

theorem es_made (w : World) (c : Nat → Nat) (n : Nat) : (w.alloc (.cells (madeCells #[.pointer none, .int .u64 0] (n * 2)) 92)).rowIs w.heap.size 92 (n * 2) (es c 0) := by
  have h := World.rowIs_alloc w (madeCells #[.pointer none, .int .u64 0] (n * 2)) 92 (es c 0) (fun i hi => by
    rw [size_madeCells] at hi
    have h2 : i % 2 = 0 ∨ i % 2 = 1 := by omega
    rcases h2 with h2 | h2 <;> simp [madeCells, hi, es, h2])
  rwa [size_madeCells] at h
theorem ev_made (w : World) (e0 h n : Nat) : (w.alloc (.cells (madeCells #[.string ByteArray.empty, .int .u64 0, .int .u64 0, .slice none 0 0, .string ByteArray.empty, .int .i64 0, .int .i64 0] (n * 7)) 96)).rowIs w.heap.size 96 (n * 7) (ev e0 h 0) := by
  have h := World.rowIs_alloc w (madeCells #[.string ByteArray.empty, .int .u64 0, .int .u64 0, .slice none 0 0, .string ByteArray.empty, .int .i64 0, .int .i64 0] (n * 7)) 96 (ev e0 h 0) (fun i hi => by
    rw [size_madeCells] at hi
    have h7 : i % 7 = 0 ∨ i % 7 = 1 ∨ i % 7 = 2 ∨ i % 7 = 3 ∨ i % 7 = 4 ∨ i % 7 = 5 ∨ i % 7 = 6 := by omega
    rcases h7 with h7 | h7 | h7 | h7 | h7 | h7 | h7 <;> simp [madeCells, hi, ev, h7])
  rwa [size_madeCells] at h

theorem es_step {w : World} {b n : Nat} {c : Nat → Nat} {j : Nat} (h : w.rowIs b 92 n (es c j)) : ((w.setCell ⟨b, j * 2, none⟩ (.pointer none)).setCell ⟨b, j * 2 + 1, none⟩ (.int .u64 (c j))).rowIs b 92 n (es c (j + 1)) := by
  refine ((h.set (j * 2) _).set (j * 2 + 1) _).congr fun i _ => ?_
  unfold es
  by_cases e1 : i = j * 2 + 1
  · subst e1
    rw [if_pos rfl, if_neg (by omega), if_pos (by omega), show (j * 2 + 1) / 2 = j by omega]
  · rw [if_neg e1]
    by_cases e2 : i = j * 2
    · subst e2
      rw [if_pos rfl, if_pos (by omega)]
    · rw [if_neg e2]
      by_cases e3 : i % 2 = 0
      · rw [if_pos e3, if_pos e3]
      · rw [if_neg e3, if_neg e3]
        by_cases e4 : i / 2 < j
        · rw [if_pos e4, if_pos (by omega)]
        · rw [if_neg e4, if_neg (by omega)]

theorem ev_step {w : World} {b n e0 h k : Nat} (hr : w.rowIs b 96 n (ev e0 h k)) :
    (((((((w.setCell ⟨b, k * 7, none⟩ (.string ByteArray.empty)).setCell ⟨b, k * 7 + 1, none⟩ (.int .u64 0)).setCell ⟨b, k * 7 + 2, none⟩ (.int .u64 0)).setCell ⟨b, k * 7 + 3, none⟩ (.slice (some ⟨e0 + 1 + k, 0, none⟩) h h)).setCell ⟨b, k * 7 + 4, none⟩ (.string ByteArray.empty)).setCell ⟨b, k * 7 + 5, none⟩ (.int .i64 0)).setCell ⟨b, k * 7 + 6, none⟩ (.int .i64 0)).rowIs b 96 n (ev e0 h (k + 1)) := by
  refine (((((((hr.set (k * 7) _).set (k * 7 + 1) _).set (k * 7 + 2) _).set (k * 7 + 3) _).set (k * 7 + 4) _).set (k * 7 + 5) _).set (k * 7 + 6) _).congr fun i _ => ?_
  unfold ev
  by_cases hi : i / 7 = k
  · have h7 : i = k * 7 ∨ i = k * 7 + 1 ∨ i = k * 7 + 2 ∨ i = k * 7 + 3 ∨ i = k * 7 + 4 ∨ i = k * 7 + 5 ∨ i = k * 7 + 6 := by omega
    rcases h7 with rfl | rfl | rfl | rfl | rfl | rfl | rfl
    · simp [show k * 7 % 7 = 0 by omega]
    · simp [show (k * 7 + 1) % 7 = 1 by omega]
    · simp [show (k * 7 + 2) % 7 = 2 by omega]
    · simp [show (k * 7 + 3) % 7 = 3 by omega, hi]
    · simp [show (k * 7 + 4) % 7 = 4 by omega]
    · simp [show (k * 7 + 5) % 7 = 5 by omega]
    · simp [show (k * 7 + 6) % 7 = 6 by omega]
  · rw [if_neg (by omega), if_neg (by omega), if_neg (by omega), if_neg (by omega), if_neg (by omega), if_neg (by omega), if_neg (by omega)]
    by_cases h3 : i % 7 = 3
    · have : (i / 7 < k) = (i / 7 < k + 1) := by rw [eq_iff_iff]; omega
      simp only [h3, this]
    · simp [h3]

theorem other7 {w : World} {b t n b' : Nat} {f : Nat → Value} (h : w.rowIs b t n f) (hne : b ≠ b') (a0 a1 a2 a3 a4 a5 a6 : Nat) (v0 v1 v2 v3 v4 v5 v6 : Value) :
    (((((((w.setCell ⟨b', a0, none⟩ v0).setCell ⟨b', a1, none⟩ v1).setCell ⟨b', a2, none⟩ v2).setCell ⟨b', a3, none⟩ v3).setCell ⟨b', a4, none⟩ v4).setCell ⟨b', a5, none⟩ v5).setCell ⟨b', a6, none⟩ v6).rowIs b t n f :=
  (((((((h.setOther hne _).setOther hne _).setOther hne _).setOther hne _).setOther hne _).setOther hne _).setOther hne _)
theorem below7 {w w0 : World} {B b' : Nat} (h : Below B w0 w) (hne : B ≤ b') (a0 a1 a2 a3 a4 a5 a6 : Nat) (v0 v1 v2 v3 v4 v5 v6 : Value) :
    Below B w0 (((((((w.setCell ⟨b', a0, none⟩ v0).setCell ⟨b', a1, none⟩ v1).setCell ⟨b', a2, none⟩ v2).setCell ⟨b', a3, none⟩ v3).setCell ⟨b', a4, none⟩ v4).setCell ⟨b', a5, none⟩ v5).setCell ⟨b', a6, none⟩ v6) :=
  (((((((h.setCell hne _).setCell hne _).setCell hne _).setCell hne _).setCell hne _).setCell hne _).setCell hne _)

theorem set_push {α : Type} (a : Array α) (x y : α) : (a.push x).setIfInBounds a.size y = a.push y := by
  apply Array.ext'
  simp [Array.toList_setIfInBounds]
def ent (v : Value) : MapEntry := { key := .string ⟨#[]⟩, val := v, born := 0 }
theorem put_first (w : World) (v : Value) : (Instr.mapUpdate 98 (.map (some w.heap.size)) (.string ⟨#[]⟩) v).run Try.prog (w.alloc (.map #[] 0)) = .ok () (w.alloc (.map #[ent v] 1)) := by
  have h := run_mapUpdate_first (P := Try.prog) (w.alloc (.map #[] 0)) 98 9 86 w.heap.size 0 ⟨#[]⟩ v Try.underlying98 Try.underlying9 (heap_alloc_new _ _)
  rw [h]
  show Result.ok () { w.alloc (.map #[] 0) with heap := (w.heap.push (.map #[] 0)).setIfInBounds w.heap.size (.map #[ent v] 1) } = _
  rw [set_push]
  rfl

theorem logIs_made (wr : World) (g0 k h : Nat) (C : Nat → Nat → Nat) (hev : wr.rowIs g0 96 (k * 7) (ev g0 h k)) (hes : ∀ j, j < k → wr.rowIs (g0 + 1 + j) 92 (h * 2) (es (C j) h)) :
    LogIs ((wr.alloc (.map #[ent (.slice (some ⟨g0, 0, none⟩) k k)] 1)).alloc (.cells #[.map (some wr.heap.size), .int .i64 k, .bool false] 100)) (wr.heap.size + 1) wr.heap.size g0 k h 1 (ent (.slice (some ⟨g0, 0, none⟩) k k)) (fun q => g0 + 1 + q) C := by
  have hE := (hev.alloc (.map #[ent (.slice (some ⟨g0, 0, none⟩) k k)] 1)).alloc (.cells #[.map (some wr.heap.size), .int .i64 k, .bool false] 100)
  have hS := fun q hq => ((hes q hq).alloc (.map #[ent (.slice (some ⟨g0, 0, none⟩) k k)] 1)).alloc (.cells #[.map (some wr.heap.size), .int .i64 k, .bool false] 100)
  have hnew := World.rowIs_alloc (wr.alloc (.map #[ent (.slice (some ⟨g0, 0, none⟩) k k)] 1)) #[.map (some wr.heap.size), .int .i64 k, .bool false] 100 (fun i => #[Value.map (some wr.heap.size), .int .i64 k, .bool false].getD i undef) (fun i hi => by
    have h3 : i < 3 := by simpa using hi
    match i, h3 with
    | 0, _ => rfl
    | 1, _ => rfl
    | 2, _ => rfl)
  have hsz1 : (wr.alloc (.map #[ent (.slice (some ⟨g0, 0, none⟩) k k)] 1)).heap.size = wr.heap.size + 1 := by simp
  rw [hsz1] at hnew
  refine ⟨?_, ?_, ?_, rfl, by simp [ent], ?_, ?_, ?_, ?_, ?_, ?_, ?_, ?_, ?_⟩
  · exact hnew.cell (i := 0) (by simp)
  · exact hnew.cell (i := 1) (by simp)
  · rw [heap_alloc_old _ _ (by rw [hsz1]; omega)]
    exact heap_alloc_new _ _
  · intro q hq; rw [hE.cell (i := q * 7) (by omega)]; simp [ev, show q * 7 % 7 = 0 by omega]
  · intro q hq; rw [hE.cell (i := q * 7 + 1) (by omega)]; simp [ev, show (q * 7 + 1) % 7 = 1 by omega]
  · intro q hq; rw [hE.cell (i := q * 7 + 2) (by omega)]; simp [ev, show (q * 7 + 2) % 7 = 2 by omega]
  · intro q hq; rw [hE.cell (i := q * 7 + 3) (by omega)]; simp [ev, show (q * 7 + 3) % 7 = 3 by omega, show (q * 7 + 3) / 7 = q by omega, hq]
  · intro q hq; rw [hE.cell (i := q * 7 + 4) (by omega)]; simp [ev, show (q * 7 + 4) % 7 = 4 by omega]
  · intro q hq; rw [hE.cell (i := q * 7 + 5) (by omega)]; simp [ev, show (q * 7 + 5) % 7 = 5 by omega]
  · intro q hq; rw [hE.cell (i := q * 7 + 6) (by omega)]; simp [ev, show (q * 7 + 6) % 7 = 6 by omega]
  · intro q hq c hc; rw [(hS q hq).cell (i := c * 2) (by omega)]; simp [es]
  · intro q hq c hc; rw [(hS q hq).cell (i := c * 2 + 1) (by omega)]; simp [es, show (c * 2 + 1) % 2 = 1 by omega, show (c * 2 + 1) / 2 = c by omega, hc]

set_option maxHeartbeats 1000000 in
theorem zzpairs_any (a : Option Addr) (g n h cap : Nat) (ha : 0 < n → a = some ⟨g, 0, none⟩) (bl : Nat → Nat) (C : Nat → Nat → Nat) (w : World) (hn : n ≤ 64) (hh : h ≤ 6) (hg : ∀ k, k < n → w.cell? ⟨g, k, none⟩ = some (.slice (some ⟨bl k, 0, none⟩) h h)) (hc : ∀ k, k < n → ∀ c, c < h → w.cell? ⟨bl k, c, none⟩ = some (.int .u64 (C k c)))
    (hC1 : ∀ k, k < n → 1 ≤ sumTo (C k) h) (hC2 : ∀ k, k < n → ∀ c, c ≤ h → sumTo (C k) c ≤ 400) (hT : ∀ k, k ≤ n → tot C h k ≤ 30000) (ho : tot C h n * 2 ≤ n * (n - 1)) :
    Calls Try.prog 40 #[.slice a n cap] w fun e w' => e = .returned (.tuple #[.int .u64 (tot C h n : Nat), .int .u64 ((n * (n - 1) / 2 - tot C h n : Nat) : Int)]) ∧ Below w.heap.size w w' := by
  have HG : Hid ((∀ k, k < n → w.cell? ⟨g, k, none⟩ = some (.slice (some ⟨bl k, 0, none⟩) h h)) ∧ (∀ k, k < n → ∀ c, c < h → w.cell? ⟨bl k, c, none⟩ = some (.int .u64 (C k c)))) := ⟨hg, hc⟩
  have HC : Hid ((∀ k, k < n → 1 ≤ sumTo (C k) h) ∧ (∀ k, k < n → ∀ c, c ≤ h → sumTo (C k) c ≤ 400) ∧ (∀ k, k ≤ n → tot C h k ≤ 30000) ∧ tot C h n * 2 ≤ n * (n - 1)) := ⟨hC1, hC2, hT, ho⟩
  have HAA : Hid (0 < n → a = some ⟨g, 0, none⟩) := ha
  clear hg hc hC1 hC2 hT ho ha
  have hmk := make96 n hn
  go_enter Try.func40, Try.ntmps40
  go_wp2
  clear hmk
  go_loopw [16] (fun i wr => ∃ k : Nat, k ≤ n ∧ i = .int .i64 k ∧ wr.heap.size = w.heap.size + 1 + k ∧ wr.rowIs w.heap.size 96 (n * 7) (ev w.heap.size h k) ∧ (∀ j, j < k → wr.rowIs (w.heap.size + 1 + j) 92 (h * 2) (es (C j) h)) ∧ Below w.heap.size w wr) (fun i _ => n - (intOf i).toNat)
  case atStart => exact ⟨0, Nat.zero_le _, rfl, by simp, ev_made w _ _ _, (fun j hj => by omega), (Below.refl _ _).alloc (Nat.le_refl _) _⟩
  case round =>
    obtain ⟨k, hk, rfl, hsz, hev, hes, hbel⟩ := hrel
    have HES : Hid (∀ j, j < k → wr.rowIs (w.heap.size + 1 + j) 92 (h * 2) (es (C j) h)) := hes
    have HSZ : Hid (wr.heap.size = w.heap.size + 1 + k) := hsz
    clear hes hsz
    by_cases hlt : k < n
    · obtain rfl := HAA.out (by omega)
      have hmk := make92 h hh
      have g0 := cell_later hbel (HG.out.1 k hlt)
      have hltz : (k : Int) < (n : Int) := by omega
      go_wp2
      clear hmk g0
      have hes0 := es_made wr (C k) h
      generalize hR : wr.heap.size = R at HSZ hes0 ⊢
      have HR : Hid (wr.heap.size = R) := hR
      clear hR
      go_loopw [26] (fun i wr => ∃ j : Nat, j ≤ h ∧ i = .int .i64 j ∧ wr.heap.size = R + 1 ∧ wr.rowIs R 92 (h * 2) (es (C k) j) ∧ wr.rowIs w.heap.size 96 (n * 7) (ev w.heap.size h k) ∧ (∀ q, q < k → wr.rowIs (w.heap.size + 1 + q) 92 (h * 2) (es (C q) h)) ∧ Below w.heap.size w wr) (fun i _ => h - (intOf i).toNat)
      case atStart => exact ⟨0, Nat.zero_le _, rfl, by have := HR.out; simp; omega, hes0, hev.alloc _, (fun q hq => (HES.out q hq).alloc _), hbel.alloc hbel.size _⟩
      case round =>
        obtain ⟨j, hj, rfl, hsz2, hrow, hev2, hes2, hbel2⟩ := hrel
        have HES2 : Hid (∀ q, q < k → wr.rowIs (w.heap.size + 1 + q) 92 (h * 2) (es (C q) h)) := hes2
        have HSZ2 : Hid (wr.heap.size = R + 1) := hsz2
        clear hes2 hsz2
        by_cases hlj : j < h
        · have g1 := cell_later hbel2 (HG.out.2 k hlt j hlj)
          have p0 : wr.cell? ⟨R, j * 2, none⟩ = some (es (C k) j (j * 2)) := hrow.cell (by omega)
          have p1 : wr.cell? ⟨R, j * 2 + 1, none⟩ = some (es (C k) j (j * 2 + 1)) := hrow.cell (by omega)
          have q0 : wr.frozen? ⟨R, j * 2, none⟩ = false := hrow.frozen _
          have q1 : wr.frozen? ⟨R, j * 2 + 1, none⟩ = false := hrow.frozen _
          have hljz : (j : Int) < (h : Int) := by omega
          have HST : Hid (((wr.setCell ⟨R, j * 2, none⟩ (.pointer none)).setCell ⟨R, j * 2 + 1, none⟩ (.int .u64 (C k j))).rowIs R 92 (h * 2) (es (C k) (j + 1))) := es_step hrow
          have hRlt : w.heap.size < R := by have := HSZ.out; omega
          go_wp2
          go_roundw
          case rel =>
            refine ⟨j + 1, by omega, by go_num, by simpa using HSZ2.out, HST.out, (hev2.setOther (by show w.heap.size ≠ R; omega) _).setOther (by show w.heap.size ≠ R; omega) _, fun q hq => ?_, (hbel2.setCell (by show w.heap.size ≤ R; omega) _).setCell (by show w.heap.size ≤ R; omega) _⟩
            have := HSZ.out
            exact ((HES2.out q hq).setOther (by show w.heap.size + 1 + q ≠ R; omega) _).setOther (by show w.heap.size + 1 + q ≠ R; omega) _
          case measure => simp [intOf]; omega
        · obtain rfl : j = h := by omega
          have p0 := hev2.cell (i := k * 7) (by omega)
          have p1 := hev2.cell (i := k * 7 + 1) (by omega)
          have p2 := hev2.cell (i := k * 7 + 2) (by omega)
          have p3 := hev2.cell (i := k * 7 + 3) (by omega)
          have p4 := hev2.cell (i := k * 7 + 4) (by omega)
          have p5 := hev2.cell (i := k * 7 + 5) (by omega)
          have p6 := hev2.cell (i := k * 7 + 6) (by omega)
          have q0 := hev2.frozen (k * 7)
          have q1 := hev2.frozen (k * 7 + 1)
          have q2 := hev2.frozen (k * 7 + 2)
          have q3 := hev2.frozen (k * 7 + 3)
          have q4 := hev2.frozen (k * 7 + 4)
          have q5 := hev2.frozen (k * 7 + 5)
          have q6 := hev2.frozen (k * 7 + 6)
          go_wp2
          go_roundw
          case rel =>
            have e := HSZ.out
            subst e
            refine ⟨k + 1, by omega, by go_num, by have := HSZ2.out; simp; omega, ev_step hev2, fun q hq => ?_, below7 hbel2 (Nat.le_refl _) ..⟩
            by_cases eq : q = k
            · subst eq; exact other7 hrow (by omega) ..
            · exact other7 (HES2.out q (by omega)) (by omega) ..
          case measure => simp [intOf]; omega
    · obtain rfl : k = n := by omega
      have hmm := @run_makeMap Try.prog
      have hup := put_first wr (.slice (some ⟨w.heap.size, 0, none⟩) k k)
      go_wp2_with fail
      refine (pairs_any (wr.heap.size + 1) wr.heap.size w.heap.size k h 1 (ent (.slice (some ⟨w.heap.size, 0, none⟩) k k)) (fun q => w.heap.size + 1 + q) C _ (logIs_made wr w.heap.size k h C hev HES.out) hn hh HC.out.1 HC.out.2.1 HC.out.2.2.1 HC.out.2.2.2).mono ?_
      rintro e w' ⟨rfl, hbel'⟩
      have hbw : Below w.heap.size w w' := ((hbel.alloc hbel.size _).alloc (by have := hbel.size; simp; omega) _).trans (hbel'.mono (by have := hbel.size; simp; omega))
      clear hmm hup hbel'
      go_wp2
      go_ret2
      exact ⟨rfl, hbw⟩

end Go.Proofs.Qxb6001689a

/-
  The walks of zzAppendInt (42) and zzAppendNumber (43): what is appended is plain.
-/
import Derived.Test.Qxb6001689aClones
import Derived.Test.Qxb6001689aSkip
import Derived.Test.Qxb6001689aGrow
namespace Go.Proofs.Qxb6001689a
open Go.RowKit

theorem lits_src (w : World) (b : Nat) (x : List Nat) (hb : b = w.heap.size) : Src Try.prog 1 22 (.slice (some ⟨b, 0, none⟩) x.length x.length) x.length (bytesV x) (w.alloc (.cells (bytesV x).toArray 5)) := by
  subst hb
  refine Src.ofSlice _ Try.underlying22 _ _ _ _ (by simp [bytesV_length]) (fun j u hj => ?_) (bytesV_one x)
  rw [Addr.add_lit]
  have h : (w.alloc (.cells (bytesV x).toArray 5)).heap[w.heap.size]? = some (.cells (bytesV x ++ []).toArray 5 (0, 0)) := by rw [List.append_nil]; exact heap_alloc_new w _
  exact cells_of_heap h j u hj

/-- Fit for a number: plain bytes. -/
structure Digits (x : List Nat) (n : Nat) : Prop where
  plain : Plain x
  pos : 0 < x.length
  len : x.length ≤ n
  byte : ∀ c ∈ x, c ≤ 255

theorem tmod10 (a : Nat) : (a : Int).tmod 10 = ((a % 10 : Nat) : Int) := rfl
theorem tdiv10 (a : Nat) : (a : Int).tdiv 10 = ((a / 10 : Nat) : Int) := rfl
theorem pow_down {U I : Nat} (h : U < 10 ^ (I + 1)) : U / 10 < 10 ^ I := by rw [Nat.pow_succ] at h; omega
theorem pow_zero {U I : Nat} (h : U < 10 ^ I) (hU : U ≠ 0) : 1 ≤ I := by
  rcases Nat.eq_zero_or_pos I with h0 | h0
  · subst h0; simp at h; omega
  · exact h0
theorem pow_top {U : Nat} (h : U ≤ 18446744073709551615) : U < 10 ^ 20 := by omega

def dg (f : Nat → Nat) (I : Nat) : List Nat := (List.range (20 - I)).map fun j => f (I + j)
theorem dg_length (f : Nat → Nat) (I : Nat) : (dg f I).length = 20 - I := by simp [dg]
theorem plain_digit {c : Nat} (h : 48 ≤ c ∧ c ≤ 57) : plainB c = true := by
  have : c = 48 ∨ c = 49 ∨ c = 50 ∨ c = 51 ∨ c = 52 ∨ c = 53 ∨ c = 54 ∨ c = 55 ∨ c = 56 ∨ c = 57 := by omega
  rcases this with h | h | h | h | h | h | h | h | h | h <;> subst h <;> rfl
theorem dg_mem {f : Nat → Nat} {I : Nat} (h : ∀ j, I ≤ j → j < 20 → 48 ≤ f j ∧ f j ≤ 57) : ∀ c ∈ dg f I, 48 ≤ c ∧ c ≤ 57 := by
  intro c hc
  simp only [dg, List.mem_map, List.mem_range] at hc
  obtain ⟨j, hj, rfl⟩ := hc
  exact h _ (by omega) (by omega)
theorem dg_digits {f : Nat → Nat} {I : Nat} (hI : I < 20) (h : ∀ j, I ≤ j → j < 20 → 48 ≤ f j ∧ f j ≤ 57) : Digits (dg f I) 20 :=
  ⟨fun c hc => plain_digit (dg_mem h c hc), by rw [dg_length]; omega, by rw [dg_length]; omega, fun c hc => by have := dg_mem h c hc; omega⟩
theorem dg_src {wr : World} {b I : Nat} {f : Nat → Nat} (c : Nat) (h : wr.rowIs b 102 20 fun j => .int .u8 (f j : Nat)) : Src Try.prog 1 22 (.slice (some ⟨b, I, none⟩) (20 - I) c) (20 - I) (bytesV (dg f I)) wr := by
  refine Src.ofSlice _ Try.underlying22 _ _ _ _ (by simp [bytesV_length, dg_length]) (fun j u hj => ?_) (bytesV_one _)
  rw [Addr.add_lit]
  obtain ⟨hj1, hj2⟩ := List.getElem?_eq_some_iff.1 hj
  rw [bytesV_length, dg_length] at hj1
  rw [h.cell (by omega), ← hj2]
  simp [bytesV, dg]

theorem set_digit {wr : World} {b I : Nat} {f : Nat → Nat} (h : wr.rowIs b 102 20 fun j => .int .u8 (f j : Nat)) (c : Nat) :
    (wr.setCell ⟨b, I, none⟩ (.int .u8 (c : Nat))).rowIs b 102 20 fun j => .int .u8 ((if j = I then c else f j : Nat)) := by
  refine (h.set I _).congr fun i _ => ?_
  by_cases e : i = I <;> simp [e]

theorem zero20 (i : Nat) (hi : i < 20) : (#[Value.int .u8 0, .int .u8 0, .int .u8 0, .int .u8 0, .int .u8 0, .int .u8 0, .int .u8 0, .int .u8 0, .int .u8 0, .int .u8 0, .int .u8 0, .int .u8 0, .int .u8 0, .int .u8 0, .int .u8 0, .int .u8 0, .int .u8 0, .int .u8 0, .int .u8 0, .int .u8 0] : Array Value)[i]? = some (.int .u8 (((fun _ => 0 : Nat → Nat) i : Nat) : Int)) := by
  have : (#[Value.int .u8 0, .int .u8 0, .int .u8 0, .int .u8 0, .int .u8 0, .int .u8 0, .int .u8 0, .int .u8 0, .int .u8 0, .int .u8 0, .int .u8 0, .int .u8 0, .int .u8 0, .int .u8 0, .int .u8 0, .int .u8 0, .int .u8 0, .int .u8 0, .int .u8 0, .int .u8 0] : Array Value) = Array.replicate 20 (.int .u8 0) := rfl
  rw [this]
  simp [hi]

theorem al102 : Try.prog.arrayLen 102 = 20 := by simp [Program.arrayLen, Try.underlying102]
theorem slice102 (b J : Nat) (hJ : J < 20) (W : World) : (Instr.sliceAt 102 (.pointer (some ⟨b, 0, none⟩)) (some (.int .i64 (J : Int))) none none).run Try.prog W = .ok (.slice (some ⟨b, J, none⟩) (20 - J) (20 - J)) W := by
  rw [run_sliceAt_array_l W 102 ⟨b, 0, none⟩ (by simp [Program.arrayLen, Program.elem, Try.underlying102]) .i64 (J : Int) (by omega) (by rw [al102]; omega)]
  have h5 : (sizeOf (Try.prog.elem 102)).run Try.prog W = .ok 1 W := by go_simp
  rw [h5]
  simp [slicedAt, al102, show ¬ (20 = J) by omega, Addr.add_lit]

theorem own_later {w w' : World} {base : Nat} {e : TypeId} {v : Value} {n : Nat} {xs : List Value} (h : w.ownsRow base e 1 v n xs) (hb : Below w.heap.size w w') : w'.ownsRow base e 1 v n xs :=
  h.kept (grown_below hb) (by cases hv : v.ownBlock <;> simp)
theorem row_stays {base : Nat} {e t : TypeId} {w0 w w' : World} {v v' : Value} {xs ys : List Value} {n m b : Nat} {f : Nat → Value} (h : Grew base e w w' v v' xs) (ho : w0.ownsRow base e 1 v n ys) (hb : w0.heap.size ≤ b) (hr : w.rowIs b t m f) : w'.rowIs b t m f :=
  hr.of_block (h.gr.block b hr.lt (fun hv => by have := (ho.lt b hv.symm).2; omega))
theorem digits_neg {x : List Nat} (h : Digits x 20) : Digits ([45] ++ x) 21 :=
  ⟨plain_cons (by decide) h.plain, by simp, by have := h.len; simp; omega, fun c hc => by
    rcases List.mem_cons.1 hc with rfl | hc
    · omega
    · exact h.byte c hc⟩
theorem digits_up {x : List Nat} {n m : Nat} (h : Digits x n) (hm : n ≤ m) : Digits x m := ⟨h.plain, h.pos, Nat.le_trans h.len hm, h.byte⟩

set_option maxRecDepth 100000 in
set_option maxHeartbeats 1000000 in
theorem appint_any (base : Nat) (v : Value) (L : List Nat) (k : Int) (w : World) (hk : -9223372036854775808 ≤ k ∧ k ≤ 9223372036854775807) (hown : w.ownsRow base 5 1 v (bytesV L).length (bytesV L)) (hL : L.length ≤ 1099511627776) (hbase : base ≤ w.heap.size) :
    Calls Try.prog 42 #[v, .int .i64 k] w fun e w' => ∃ v' x, e = .returned v' ∧ Digits x 21 ∧ Grew base 5 w w' v v' (bytesV (L ++ x)) := by
  have HO : Hid (w.ownsRow base 5 1 v (bytesV L).length (bytesV L)) := hown
  have HLL : Hid (L.length ≤ 1099511627776) := hL
  have HBS : Hid (base ≤ w.heap.size) := hbase
  clear hown hL hbase
  by_cases hneg : k < 0
  · go_enter Try.func42, Try.ntmps42
    go_wp2
    go_loopw [6, 8] (fun u i wr => ∃ U I : Nat, ∃ f : Nat → Nat, 1 ≤ I ∧ I ≤ 20 ∧ U ≤ 18446744073709551615 ∧ u = .int .u64 U ∧ i = .int .i64 I ∧ U < 10 ^ I ∧ (wr.rowIs w.heap.size 102 20 fun j => .int .u8 (f j : Nat)) ∧ (∀ j, I ≤ j → j < 20 → 48 ≤ f j ∧ f j ≤ 57) ∧ Below w.heap.size w wr) (fun _ i _ => (intOf i).toNat)
    case atStart =>
      exact ⟨(-(k + 1) + 1).toNat, 20, fun _ => 0, by omega, by omega, by omega, by rw [Int.toNat_of_nonneg (by omega)], rfl, pow_top (by omega), World.rowIs_alloc w _ 102 _ (fun i hi => zero20 i hi), fun j h1 h2 => by omega, (Below.refl _ _).alloc (Nat.le_refl _) _⟩
    case round =>
      obtain ⟨U, I, f, hI1, hI2, hU, rfl, rfl, hpow, hrow, hdig, hbel⟩ := hrel
      obtain ⟨J, rfl⟩ : ∃ J, I = J + 1 := ⟨I - 1, by omega⟩
      have HP : Hid (U / 10 < 10 ^ J) := pow_down hpow
      have HROW : Hid ((wr.setCell ⟨w.heap.size, J, none⟩ (.int .u8 ((48 + U % 10 : Nat) : Int))).rowIs w.heap.size 102 20 fun j => .int .u8 ((if j = J then 48 + U % 10 else f j : Nat))) := set_digit hrow _
      have HD : Hid (∀ j, J ≤ j → j < 20 → 48 ≤ (if j = J then 48 + U % 10 else f j) ∧ (if j = J then 48 + U % 10 else f j) ≤ 57) := by
        intro j h1 h2
        by_cases e : j = J
        · rw [if_pos e]; omega
        · rw [if_neg e]; exact hdig j (by omega) h2
      have hcd := hrow.cell (i := J) (by omega)
      have hfd := hrow.frozen J
      have hmod := tmod10 U
      have hdiv := tdiv10 U
      have HBEL : Hid (Below w.heap.size w wr) := hbel
      clear hpow hrow hdig hbel
      by_cases hz : U / 10 = 0
      · have hz2 : (((U / 10 : Nat) : Int) == 0) = true := by simp; omega
        have HOS : Hid (Below w.heap.size w (wr.setCell ⟨w.heap.size, J, none⟩ (.int .u8 ((48 + U % 10 : Nat) : Int)))) := HBEL.out.setCell (Nat.le_refl _) _
        have hsl := slice102 w.heap.size J (by omega)
        have HDD : Hid (Digits (dg (fun j => if j = J then 48 + U % 10 else f j) J) 20) := dg_digits (by omega) HD.out
        go_wp2_with (at_builtin; refine wpList_grow _ rfl _ _ 22 22 rfl base 5 (.int .u8 0) 1 Try.underlying22 info5 rfl v (bytesV L) rfl _ (own_later HO.out HOS.out) (grown_alloc (grown_refl _) _) _ _ _ rfl (lits_src _ _ [45] (by simp)) (by decide) ?c2 (by decide) ?c3 ?_)
        case c2 => have := HLL.out; rw [bytesV_length]; simp; omega
        case c3 => exact Nat.le_trans HBS.out HOS.out.size
        intro v1 w1 HG1
        have HROW1 : Hid (w1.rowIs w.heap.size 102 20 fun j => .int .u8 ((if j = J then 48 + U % 10 else f j : Nat))) := row_stays HG1.out HO.out (Nat.le_refl _) HROW.out
        have HG0 : Hid (Grew base 5 w w1 v v1 (bytesV (L ++ [45]))) := by have := HG1.out.pre (grown_below HOS.out); rw [← bytesV_append] at this; exact this
        clear HROW HG1 HOS HBEL hcd hfd
        go_wp2_with (at_builtin; refine wpList_grow _ rfl _ _ 22 22 rfl base 5 (.int .u8 0) 1 Try.underlying22 info5 rfl v1 (bytesV (L ++ [45])) rfl _ HG0.out.own (grown_refl _) _ _ _ rfl (dg_src _ HROW1.out) (by omega) ?d2 (by decide) ?d3 ?_)
        case d2 => have := HLL.out; rw [bytesV_length]; simp; omega
        case d3 => exact Nat.le_trans HBS.out HG0.out.gr.size
        intro v2 w2 HG2
        go_wp2
        go_ret
        refine ⟨_, _, rfl, digits_neg HDD.out, ?_⟩
        rw [← List.append_assoc, bytesV_append]
        exact HG0.out.trans HG2.out
      · have hz2 : (((U / 10 : Nat) : Int) == 0) = false := by simp; omega
        go_wp2
        go_roundw
        case rel => exact ⟨U / 10, J, _, pow_zero HP.out hz, by omega, by omega, rfl, rfl, HP.out, HROW.out, HD.out, HBEL.out.setCell (Nat.le_refl _) _⟩
        case measure => simp [intOf]
  · go_enter Try.func42, Try.ntmps42
    go_wp2
    go_loopw [6, 8] (fun u i wr => ∃ U I : Nat, ∃ f : Nat → Nat, 1 ≤ I ∧ I ≤ 20 ∧ U ≤ 18446744073709551615 ∧ u = .int .u64 U ∧ i = .int .i64 I ∧ U < 10 ^ I ∧ (wr.rowIs w.heap.size 102 20 fun j => .int .u8 (f j : Nat)) ∧ (∀ j, I ≤ j → j < 20 → 48 ≤ f j ∧ f j ≤ 57) ∧ Below w.heap.size w wr) (fun _ i _ => (intOf i).toNat)
    case atStart =>
      exact ⟨k.toNat, 20, fun _ => 0, by omega, by omega, by omega, by rw [Int.toNat_of_nonneg (by omega)], rfl, pow_top (by omega), World.rowIs_alloc w _ 102 _ (fun i hi => zero20 i hi), fun j h1 h2 => by omega, (Below.refl _ _).alloc (Nat.le_refl _) _⟩
    case round =>
      obtain ⟨U, I, f, hI1, hI2, hU, rfl, rfl, hpow, hrow, hdig, hbel⟩ := hrel
      obtain ⟨J, rfl⟩ : ∃ J, I = J + 1 := ⟨I - 1, by omega⟩
      have HP : Hid (U / 10 < 10 ^ J) := pow_down hpow
      have HROW : Hid ((wr.setCell ⟨w.heap.size, J, none⟩ (.int .u8 ((48 + U % 10 : Nat) : Int))).rowIs w.heap.size 102 20 fun j => .int .u8 ((if j = J then 48 + U % 10 else f j : Nat))) := set_digit hrow _
      have HD : Hid (∀ j, J ≤ j → j < 20 → 48 ≤ (if j = J then 48 + U % 10 else f j) ∧ (if j = J then 48 + U % 10 else f j) ≤ 57) := by
        intro j h1 h2
        by_cases e : j = J
        · rw [if_pos e]; omega
        · rw [if_neg e]; exact hdig j (by omega) h2
      have hcd := hrow.cell (i := J) (by omega)
      have hfd := hrow.frozen J
      have hmod := tmod10 U
      have hdiv := tdiv10 U
      have HBEL : Hid (Below w.heap.size w wr) := hbel
      clear hpow hrow hdig hbel
      by_cases hz : U / 10 = 0
      · have hz2 : (((U / 10 : Nat) : Int) == 0) = true := by simp; omega
        have HOS : Hid (Below w.heap.size w (wr.setCell ⟨w.heap.size, J, none⟩ (.int .u8 ((48 + U % 10 : Nat) : Int)))) := HBEL.out.setCell (Nat.le_refl _) _
        have hsl := slice102 w.heap.size J (by omega)
        have HDD : Hid (Digits (dg (fun j => if j = J then 48 + U % 10 else f j) J) 20) := dg_digits (by omega) HD.out
        go_wp2_with (at_builtin; refine wpList_grow _ rfl _ _ 22 22 rfl base 5 (.int .u8 0) 1 Try.underlying22 info5 rfl v (bytesV L) rfl _ (own_later HO.out HOS.out) (grown_refl _) _ _ _ rfl (dg_src _ HROW.out) (by omega) ?c2 (by decide) ?c3 ?_)
        case c2 => have := HLL.out; rw [bytesV_length]; omega
        case c3 => exact Nat.le_trans HBS.out HOS.out.size
        intro v1 w1 HG1
        go_wp2
        go_ret
        refine ⟨_, _, rfl, digits_up HDD.out (by omega), ?_⟩
        rw [bytesV_append]
        exact HG1.out.pre (grown_below HOS.out)
      · have hz2 : (((U / 10 : Nat) : Int) == 0) = false := by simp; omega
        go_wp2
        go_roundw
        case rel => exact ⟨U / 10, J, _, pow_zero HP.out hz, by omega, by omega, rfl, rfl, HP.out, HROW.out, HD.out, HBEL.out.setCell (Nat.le_refl _) _⟩
        case measure => simp [intOf]

end Go.Proofs.Qxb6001689a

/-
  The walk of FnHex4ReadsBackFourDigits (6): x written as four hex digits, a tail behind them, is read back by hex4.
-/
import Derived.Test.Qxb6603177aHex
namespace Go.Proofs.Qxb6603177a
open Go.RowKit

def chr (up : Bool) (d : Int) : Int := if d < 10 then 48 + d else if up then 55 + d else 87 + d
def nib (x : Int) (j : Nat) : Int := x / 16 ^ (3 - j) % 16
def laid (up : Bool) (x : Int) (k : Nat) : Nat → Value := fun j => .int .u8 (if j < k then chr up (nib x j) else 0)
/-- The four digits, then the first k bytes of the tail. -/
def whole (up : Bool) (x : Int) (f : Nat → Int) (k : Nat) : Nat → Int := fun j => if j < 4 then chr up (nib x j) else if j < 4 + k then f (j - 4) else 0

theorem wraps_i64 (n : Int) (h₀ : 0 ≤ n) (h₁ : n < 2 ^ 63) : IntKind.i64.wrap n = n := by rw [IntKind.wrap_i64]; omega
theorem and15 (x : Int) (h0 : 0 ≤ x) (h1 : x ≤ 65535) : bits BinOp.and IntKind.i64 x 15 = x % 16 := bits_mask .i64 63 (by decide) wraps_i64 4 (by decide) x h0 (by omega)

def lowT : ByteArray := ⟨#[48, 49, 50, 51, 52, 53, 54, 55, 56, 57, 97, 98, 99, 100, 101, 102]⟩
def capT : ByteArray := ⟨#[48, 49, 50, 51, 52, 53, 54, 55, 56, 57, 65, 66, 67, 68, 69, 70]⟩
theorem low_fin : ∀ k : Fin 16, ((lowT[k.val]'(by have := k.isLt; exact this)).toNat : Int) = chr false k.val := by decide
theorem cap_fin : ∀ k : Fin 16, ((capT[k.val]'(by have := k.isLt; exact this)).toNat : Int) = chr true k.val := by decide
theorem low_at (d : Int) (h0 : 0 ≤ d) (h1 : d < 16) (h : d.toNat < lowT.size) : ((lowT[d.toNat]).toNat : Int) = chr false d := by
  obtain ⟨k, rfl⟩ := Int.eq_ofNat_of_zero_le h0
  exact low_fin ⟨k, by omega⟩
theorem cap_at (d : Int) (h0 : 0 ≤ d) (h1 : d < 16) (h : d.toNat < capT.size) : ((capT[d.toNat]).toNat : Int) = chr true d := by
  obtain ⟨k, rfl⟩ := Int.eq_ofNat_of_zero_le h0
  exact cap_fin ⟨k, by omega⟩

theorem nib_lt (x : Int) (j : Nat) : 0 ≤ nib x j ∧ nib x j < 16 := by unfold nib; omega
theorem hexD_chr (up : Bool) (d : Int) (h0 : 0 ≤ d) (h1 : d < 16) : hexD (chr up d) = d := by
  unfold hexD chr
  cases up <;> simp only [Bool.false_eq_true, if_false, if_true] <;> split <;> (repeat' split) <;> omega
theorem chr_bd (up : Bool) (d : Int) (h0 : 0 ≤ d) (h1 : d < 16) : 0 ≤ chr up d ∧ chr up d ≤ 255 := by
  unfold chr
  cases up <;> simp only [Bool.false_eq_true, if_false, if_true] <;> split <;> omega
theorem hexV_back (up : Bool) (x : Int) (f : Nat → Int) (n : Nat) (h0 : 0 ≤ x) (h1 : x ≤ 65535) : hexV (whole up x f n) 4 = x := by
  have e : ∀ j, j < 4 → hexD (whole up x f n j) = nib x j := fun j hj => by
    obtain ⟨a, b⟩ := nib_lt x j
    simp only [whole, if_pos hj]
    exact hexD_chr up _ a b
  simp only [hexV]
  rw [e 0 (by omega), e 1 (by omega), e 2 (by omega), e 3 (by omega)]
  simp only [nib]
  omega

theorem laid_step {w : World} {b n k : Nat} {up : Bool} {x v d : Int} (h : w.rowIs b 5 n (laid up x k)) (hv : v = chr up d) (hd : d = nib x k) : (w.setCell ⟨b, k, none⟩ (.int .u8 v)).rowIs b 5 n (laid up x (k + 1)) := by
  refine (h.set k _).congr fun i _ => ?_
  unfold laid
  by_cases e : i = k
  · subst e; simp [hv, hd]
  · by_cases e2 : i < k
    · simp [e, e2, show i < k + 1 by omega]
    · simp [e, e2, show ¬ i < k + 1 by omega]

theorem whole_start {w : World} {b n : Nat} {up : Bool} {x : Int} {f : Nat → Int} (h : w.rowIs b 5 n (laid up x 4)) : w.rowIs b 5 n (fun j => .int .u8 (whole up x f 0 j)) := by
  refine h.congr fun i _ => ?_
  unfold laid whole
  by_cases e : i < 4
  · simp [e]
  · simp [e]

theorem whole_step {w : World} {b n k : Nat} {up : Bool} {x : Int} {f : Nat → Int} (h : w.rowIs b 5 n (fun j => .int .u8 (whole up x f k j))) : (w.setCell ⟨b, 4 + k, none⟩ (.int .u8 (f k))).rowIs b 5 n (fun j => .int .u8 (whole up x f (k + 1) j)) := by
  refine (h.set (4 + k) _).congr fun i _ => ?_
  unfold whole
  by_cases e : i = 4 + k
  · subst e; rw [if_pos rfl, if_neg (by omega), if_pos (by omega)]; simp
  · by_cases e1 : i < 4
    · simp [e1, e]
    · by_cases e2 : i < 4 + k
      · simp [e, e1, e2, show i < 4 + (k + 1) by omega]
      · simp [e, e1, e2, show ¬ i < 4 + (k + 1) by omega]

theorem hex4_back (up : Bool) (x : Int) (b n : Nat) (f : Nat → Int) (w : World) (hx0 : 0 ≤ x) (hx1 : x ≤ 65535) (hn : n ≤ 1048576) (hf : ∀ i, i < n → 0 ≤ f i ∧ f i ≤ 255) (h : w.rowIs b 5 (4 + n) (fun j => .int .u8 (whole up x f n j))) :
    Calls Try.prog 19 #[.slice (some ⟨b, 0, none⟩) (4 + n) (4 + n)] w fun e w' => e = .returned (.tuple #[.int .i32 x, .bool true]) ∧ w' = w := by
  have hB : Bytes w (some ⟨b, 0, none⟩) (4 + n) b 0 (whole up x f n) := by
    refine ⟨fun _ => rfl, fun i hi => by rw [Nat.zero_add]; exact h.cell hi, fun i hi => ?_⟩
    unfold whole
    by_cases e1 : i < 4
    · simp only [e1, if_true]; obtain ⟨p, q⟩ := nib_lt x i; exact chr_bd up _ p q
    · simp only [e1, if_false, show i < 4 + n from hi, if_true]; exact hf _ (by omega)
  refine (hex4_long b 0 (4 + n) (4 + n) _ w (by omega) (by omega) (by omega) hB).mono ?_
  rintro e w' ⟨hh, rfl⟩
  rcases hh with hh | hh
  · obtain ⟨rfl, _⟩ := hh
    rw [hexV_back up x f n hx0 hx1]
    exact ⟨rfl, rfl⟩
  · obtain ⟨_, j, hj, hneg⟩ := hh
    obtain ⟨p, q⟩ := nib_lt x j
    simp only [whole, if_pos hj] at hneg
    rw [hexD_chr up _ p q] at hneg
    omega

set_option maxHeartbeats 400000 in
theorem readsBack_main (x : Int) (up : Bool) (a : Option Addr) (b off n c : Nat) (f : Nat → Int) (w : World) (hx0 : 0 ≤ x) (hx1 : x ≤ 65535) (hn : n ≤ 1048576) (ha : a = none → n = 0 ∧ c = 0) (hB : Bytes w a n b off f) :
    Calls Try.prog 6 #[.int .i64 x, .bool up, .slice a n c] w fun e w' => e = .returned (.bool true) ∧ Below w.heap.size w w' := by
  have hmk : ∀ w : World, (Instr.makeSlice 22 (.int .i64 (4 + (n : Int))) (.int .i64 (4 + (n : Int)))).run Try.prog w = .ok (.slice (some ⟨w.heap.size, 0, none⟩) (4 + n) (4 + n)) (w.alloc (.cells (madeCells #[.int .u8 0] (4 + n)) 5)) := fun w => by
    have h := run_make_row' (P := Try.prog) 22 5 (.int .u8 0) 1 Try.underlying22 info5 rfl .i64 .i64 (4 + n) (by omega) (by omega) w
    rwa [show ((4 + n : Nat) : Int) = 4 + (n : Int) by omega] at h
  have HF : Hid (∀ i, i < n → 0 ≤ f i ∧ f i ≤ 255) := hB.2.2
  have HB : Hid (Bytes w a n b off f) := hB
  have HA : Hid (a = none → n = 0 ∧ c = 0) := ha
  clear hB ha
  have d0 : bits BinOp.and IntKind.i64 (x / 4096) 15 = x / 4096 % 16 := and15 _ (by omega) (by omega)
  have d1 : bits BinOp.and IntKind.i64 (x / 256) 15 = x / 256 % 16 := and15 _ (by omega) (by omega)
  have d2 : bits BinOp.and IntKind.i64 (x / 16) 15 = x / 16 % 16 := and15 _ (by omega) (by omega)
  have d3 : bits BinOp.and IntKind.i64 x 15 = x % 16 := and15 _ (by omega) (by omega)
  cases up
  all_goals
    go_enter Try.func6, Try.ntmps6
    go_wp2_with (first | (go_at_call 8; refine (clone_any a b off n c f _ hn HA.out HB.out).mono ?_; rintro e w1 ⟨a1, rfl, hB1, hbel1⟩) | go_in)
    clear hmk
    go_loopw [8, 9] (fun i _ wr => ∃ k : Nat, k ≤ 4 ∧ i = .int .i64 k ∧ wr.rowIs w1.heap.size 5 (4 + n) (laid _ x k) ∧ Below w1.heap.size w1 wr) (fun i _ _ => 4 - (intOf i).toNat)
    case atStart => exact ⟨0, Nat.zero_le _, rfl, (World.rowIs_made w1 _ _ _), (Below.refl _ _).alloc (Nat.le_refl _) _⟩
    case round =>
      obtain ⟨k, hk, rfl, hrow, hbel⟩ := hrel
      by_cases hlt : k < 4
      · have hcd : wr.cell? ⟨w1.heap.size, k, none⟩ = some (laid _ x k k) := hrow.cell (by omega)
        have hfd : wr.frozen? ⟨w1.heap.size, k, none⟩ = false := hrow.frozen k
        obtain rfl | rfl | rfl | rfl : k = 0 ∨ k = 1 ∨ k = 2 ∨ k = 3 := by omega
        all_goals
          go_wp2
          go_roundw
          case rel => exact ⟨_, by omega, by go_num, laid_step hrow (by first | exact low_at _ (by omega) (by omega) _ | exact cap_at _ (by omega) (by omega) _) (by simp [nib]), hbel.setCell (Nat.le_refl _) _⟩
          case measure => simp [intOf]
      · obtain rfl : k = 4 := by omega
        have hrow2 := whole_start (f := f) hrow
        clear hrow d0 d1 d2 d3
        have HR : Hid _ := hrow2
        clear hrow2
        go_wp2
        go_loopw [10] (fun i wr => ∃ k : Nat, k ≤ n ∧ i = .int .i64 k ∧ wr.rowIs w1.heap.size 5 (4 + n) (fun j => .int .u8 (whole _ x f k j)) ∧ Below w1.heap.size w1 wr) (fun i _ => n - (intOf i).toNat)
        case atStart => exact ⟨0, Nat.zero_le _, rfl, HR.out, hbel⟩
        case round =>
          clear HR hbel
          obtain ⟨k, hk, rfl, hrow, hbel⟩ := hrel
          by_cases hlt : k < n
          · obtain ⟨ha, hc, _⟩ := hB1
            obtain rfl : a1 = some ⟨w.heap.size, 0, none⟩ := ha (by omega)
            have hcx : wr.cell? ⟨w.heap.size, k, none⟩ = some (.int .u8 (f k)) := cell_later hbel (by have := hc k hlt; rwa [Nat.zero_add] at this)
            have hcd : wr.cell? ⟨w1.heap.size, 4 + k, none⟩ = some (.int .u8 (whole _ x f k (4 + k))) := hrow.cell (i := 4 + k) (by omega)
            have hfd : wr.frozen? ⟨w1.heap.size, 4 + k, none⟩ = false := hrow.frozen (4 + k)
            have HRR : Hid _ := whole_step hrow
            clear ha hc hrow
            have hltz : (k : Int) < (n : Int) := by omega
            go_wp2
            go_roundw
            case rel => exact ⟨k + 1, by omega, by go_num, HRR.out, hbel.setCell (Nat.le_refl _) _⟩
            case measure => simp [intOf]; omega
          · obtain rfl : k = n := by omega
            go_wp2_with (first | (go_at_call 19; refine (hex4_back _ x _ _ f _ hx0 hx1 hn HF.out hrow).mono ?_; rintro e w' ⟨rfl, rfl⟩) | go_in)
            go_ret
            exact ⟨rfl, hbel1.trans (hbel.mono hbel1.size)⟩

end Go.Proofs.Qxb6603177a

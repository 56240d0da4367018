/-
  More of the plain law: bounds, and the two counts together.
-/
import Derived.Test.Qxb6001689aClock
namespace Go.Proofs.Qxb6001689a

def totS (C : Nat → Nat → Nat) (h : Nat) (k : Nat) : Nat := sumTo (fun f => sumTo (C f) h - 1) k

section
variable (h : Nat) (s : Nat → Nat)

def cmp (e f : Nat) : Nat := if leqB h s e f = true ∨ leqB h s f e = true then 1 else 0
/-- The comparable pairs of the rows ahead of e. -/
def ordR (n e : Nat) : Nat := sumTo (fun e => sumTo (fun f => if e < f then cmp h s e f else 0) n) e
/-- The others. -/
def conR (n e : Nat) : Nat := sumTo (fun e => sumTo (fun f => if e < f then 1 - cmp h s e f else 0) n) e

theorem ordR_all (n : Nat) : ordR h s n n = ordered h s n := rfl
theorem cmp_le (e f : Nat) : cmp h s e f ≤ 1 := by unfold cmp; split <;> omega
theorem sum_pos (hh : 0 < h) (f : Nat) : 1 ≤ sumTo (cl h s f) h := by have := sum_clock h s hh f; omega
theorem sum_lt (hh : 0 < h) (f : Nat) : sumTo (cl h s f) h - 1 ≤ f := by
  have h1 := sum_clock h s hh f
  have h2 : sumTo (fun e => if leqB h s e f = true then 1 else 0) f ≤ sumTo (fun _ => 1) f := sumTo_mono (fun i _ => by split <;> omega)
  have h3 : ∀ m, sumTo (fun _ => 1) m = m := fun m => by induction m with | zero => rfl | succ m ih => simp [sumTo, ih]
  rw [h3] at h2
  omega
theorem sum_part (f c : Nat) (hf : f < 64) (hc : c ≤ 6) : sumTo (cl h s f) c ≤ 400 := by
  have h1 : ∀ c, sumTo (cl h s f) c ≤ 64 * c := fun c => by
    induction c with
    | zero => simp [sumTo]
    | succ c ih =>
      have := cl_le h s f c
      have := cnt_le h s c (f + 1)
      simp only [sumTo]
      omega
  have := h1 c
  omega
theorem totS_le (hh : 0 < h) (k : Nat) : totS (cl h s) h k * 2 ≤ k * (k - 1) := by
  induction k with
  | zero => simp [totS, sumTo]
  | succ k ih =>
    have h1 := sum_lt h s hh k
    have e : totS (cl h s) h (k + 1) = totS (cl h s) h k + (sumTo (cl h s k) h - 1) := rfl
    have e2 : (k + 1) * (k + 1 - 1) = k * (k - 1) + 2 * k := by
      cases k with
      | zero => rfl
      | succ m => simp only [Nat.add_sub_cancel]; rw [Nat.add_mul, Nat.mul_comm (m + 1) (m + 1)]; rw [Nat.mul_add (m + 1) m 1]; omega
    rw [e, e2]
    omega
theorem totS_small (hh : 0 < h) (k : Nat) (hk : k ≤ 64) : totS (cl h s) h k ≤ 30000 := by
  have h1 := totS_le h s hh k
  have h2 : k * (k - 1) ≤ 64 * 64 := Nat.mul_le_mul hk (by omega)
  omega
theorem totS_eq (hh : 0 < h) (n : Nat) : totS (cl h s) h n = ordR h s n n := by
  have h1 := ordered_eq h s hh n
  rw [← ordR_all] at h1
  have h2 : sumTo (fun f => sumTo (cl h s f) h) n = sumTo (fun f => (sumTo (cl h s f) h - 1) + 1) n := sumTo_congr (fun f _ => by have := sum_pos h s hh f; omega)
  rw [h2, sumTo_add] at h1
  have h3 : ∀ m, sumTo (fun _ => 1) m = m := fun m => by induction m with | zero => rfl | succ m ih => simp [sumTo, ih]
  rw [h3] at h1
  have : sumTo (fun f => sumTo (cl h s f) h - 1) n = totS (cl h s) h n := rfl
  omega
theorem both_eq (n : Nat) : (ordR h s n n + conR h s n n) * 2 = n * (n - 1) := by
  have e1 : ordR h s n n + conR h s n n = sumTo (fun e => sumTo (fun f => if e < f then 1 else 0) n) n := by
    unfold ordR conR
    rw [← sumTo_add]
    refine sumTo_congr (fun e _ => ?_)
    rw [← sumTo_add]
    refine sumTo_congr (fun f _ => ?_)
    have := cmp_le h s e f
    split <;> omega
  rw [e1, tri (fun _ _ => 1)]
  have h3 : ∀ m, sumTo (fun _ => 1) m = m := fun m => by induction m with | zero => rfl | succ m ih => simp [sumTo, ih]
  simp only [h3]
  clear e1
  induction n with
  | zero => rfl
  | succ k ih =>
    have e2 : (k + 1) * (k + 1 - 1) = k * (k - 1) + 2 * k := by
      cases k with
      | zero => rfl
      | succ m => simp only [Nat.add_sub_cancel]; rw [Nat.add_mul, Nat.mul_comm (m + 1) (m + 1)]; rw [Nat.mul_add (m + 1) m 1]; omega
    rw [e2, ← ih]
    simp only [sumTo]
    omega
theorem conR_eq (hh : 0 < h) (n : Nat) : n * (n - 1) / 2 - totS (cl h s) h n = conR h s n n := by
  have h1 := both_eq h s n
  have h2 := totS_eq h s hh n
  omega
/-- Counts stay small. -/
theorem ordR_le (n e : Nat) : ordR h s n e ≤ e * n ∧ conR h s n e ≤ e * n := by
  have row : ∀ e m, sumTo (fun f => if e < f then cmp h s e f else 0) m ≤ m ∧ sumTo (fun f => if e < f then 1 - cmp h s e f else 0) m ≤ m := fun e m => by
    induction m with
    | zero => simp [sumTo]
    | succ m ih =>
      have := cmp_le h s e m
      simp only [sumTo]
      constructor <;> split <;> omega
  induction e with
  | zero => simp [ordR, conR, sumTo]
  | succ e ih =>
    have r := row e n
    have a : ordR h s n (e + 1) = ordR h s n e + sumTo (fun f => if e < f then cmp h s e f else 0) n := rfl
    have b : conR h s n (e + 1) = conR h s n e + sumTo (fun f => if e < f then 1 - cmp h s e f else 0) n := rfl
    rw [a, b, Nat.add_mul]
    omega
/-- A row of which the places below j have been counted. -/
def ordP (e j : Nat) : Nat := sumTo (fun f => if e < f then cmp h s e f else 0) j
def conP (e j : Nat) : Nat := sumTo (fun f => if e < f then 1 - cmp h s e f else 0) j
theorem part_start (e : Nat) : ordP h s e (e + 1) = 0 ∧ conP h s e (e + 1) = 0 := by
  have z : ∀ (g : Nat → Nat) m, m ≤ e + 1 → sumTo (fun f => if e < f then g f else 0) m = 0 := fun g m hm => by
    induction m with
    | zero => rfl
    | succ m ih => simp only [sumTo]; rw [ih (by omega), if_neg (by omega)]
  exact ⟨z _ _ (Nat.le_refl _), z _ _ (Nat.le_refl _)⟩
theorem part_step {e j : Nat} (hj : e < j) : ordP h s e (j + 1) = ordP h s e j + cmp h s e j ∧ conP h s e (j + 1) = conP h s e j + (1 - cmp h s e j) := by
  constructor <;> (simp only [ordP, conP, sumTo]; rw [if_pos hj])
theorem part_le (e j : Nat) : ordP h s e j ≤ j ∧ conP h s e j ≤ j := by
  induction j with
  | zero => simp [ordP, conP, sumTo]
  | succ m ih =>
    have := cmp_le h s e m
    have a : ordP h s e (m + 1) = ordP h s e m + if e < m then cmp h s e m else 0 := rfl
    have b : conP h s e (m + 1) = conP h s e m + if e < m then 1 - cmp h s e m else 0 := rfl
    rw [a, b]
    constructor <;> split <;> omega
theorem part_all (n e : Nat) : ordR h s n (e + 1) = ordR h s n e + ordP h s e n ∧ conR h s n (e + 1) = conR h s n e + conP h s e n := ⟨rfl, rfl⟩
end

end Go.Proofs.Qxb6001689a

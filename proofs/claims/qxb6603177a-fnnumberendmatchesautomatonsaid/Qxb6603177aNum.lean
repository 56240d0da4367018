/-
  The plain mathematics of a JSON number's end: no Go in sight. 'numEnd l': how many bytes of l its number takes, none where no number stands at l's head.
-/
import Derived.KernelRfl
namespace Go.Proofs.Qxb6603177a

def isD (c : Int) : Bool := decide (48 ≤ c) && decide (c ≤ 57)
def digs : List Int → Nat
  | [] => 0
  | c :: r => if isD c then digs r + 1 else 0
def suf (f : Nat → Int) (n i : Nat) : List Int := (List.range (n - i)).map fun j => f (i + j)

theorem suf_nil (f : Nat → Int) (n i : Nat) (h : n ≤ i) : suf f n i = [] := by simp [suf, show n - i = 0 by omega]
theorem suf_cons (f : Nat → Int) (n i : Nat) (h : i < n) : suf f n i = f i :: suf f n (i + 1) := by
  unfold suf
  rw [show n - i = (n - (i + 1)) + 1 by omega, List.range_succ_eq_map]
  simp only [List.map_cons, List.map_map, Nat.add_zero]
  congr 1
  apply List.map_congr_left
  intro j _
  show f (i + (j + 1)) = f (i + 1 + j)
  congr 1
  omega
theorem suf_length (f : Nat → Int) (n i : Nat) : (suf f n i).length = n - i := by simp [suf]
theorem suf_drop (f : Nat → Int) (n i k : Nat) : (suf f n i).drop k = suf f n (i + k) := by
  induction k generalizing i with
  | zero => simp
  | succ k ih =>
    by_cases h : i < n
    · rw [suf_cons f n i h, List.drop_succ_cons, ih, show i + 1 + k = i + (k + 1) by omega]
    · rw [suf_nil f n i (by omega), suf_nil f n _ (by omega)]; simp
theorem suf_take (f : Nat → Int) (n i m : Nat) (h : m ≤ n) : (suf f n i).take (m - i) = suf f m i := by
  unfold suf
  rw [← List.map_take, List.take_range, show min (m - i) (n - i) = m - i by omega]
theorem suf_shift (f : Nat → Int) (n i k : Nat) : suf (fun j => f (i + j)) (n - i) k = suf f n (i + k) := by
  unfold suf
  rw [show n - i - k = n - (i + k) by omega]
  apply List.map_congr_left
  intro j _
  show f (i + (k + j)) = f (i + k + j)
  congr 1
  omega

theorem digs_le (l : List Int) : digs l ≤ l.length := by
  induction l with
  | nil => simp [digs]
  | cons c r ih => simp only [digs, List.length_cons]; split <;> omega
theorem digs_take (l : List Int) (j : Nat) : digs (l.take j) = min (digs l) j := by
  induction l generalizing j with
  | nil => simp [digs]
  | cons c r ih =>
    cases j with
    | zero => simp [digs]
    | succ j => simp only [List.take_succ_cons, digs]; split <;> simp [ih]
theorem digs_at (f : Nat → Int) (n p d : Nat) (h : d < digs (suf f n p)) : isD (f (p + d)) = true := by
  induction d generalizing p with
  | zero =>
    by_cases hp : p < n
    · rw [suf_cons f n p hp] at h
      simp only [digs] at h
      split at h
      · simpa
      · omega
    · rw [suf_nil f n p (by omega)] at h; simp [digs] at h
  | succ d ih =>
    by_cases hp : p < n
    · rw [suf_cons f n p hp] at h
      simp only [digs] at h
      split at h
      · have := ih (p + 1) (by omega)
        rwa [show p + 1 + d = p + (d + 1) by omega] at this
      · omega
    · rw [suf_nil f n p (by omega)] at h; simp [digs] at h
/-- Where the digits end there is none. -/
theorem digs_off (l : List Int) : digs (l.drop (digs l)) = 0 := by
  induction l with
  | nil => simp [digs]
  | cons c r ih =>
    simp only [digs]
    split
    · simpa using ih
    · simp [digs, *]

def sgn : List Int → Nat
  | [] => 0
  | c :: _ => if c = 45 then 1 else 0
def intl : List Int → Option Nat
  | [] => none
  | c :: r => if c = 48 then some 1 else if 49 ≤ c ∧ c ≤ 57 then some (digs (c :: r)) else none
def frac : List Int → Option Nat
  | [] => some 0
  | c :: r => if c = 46 then (if digs r = 0 then none else some (1 + digs r)) else some 0
def esgn : List Int → Nat
  | [] => 0
  | c :: _ => if c = 43 ∨ c = 45 then 1 else 0
def expo : List Int → Option Nat
  | [] => some 0
  | c :: r => if c = 101 ∨ c = 69 then (if digs (r.drop (esgn r)) = 0 then none else some (1 + esgn r + digs (r.drop (esgn r)))) else some 0

def numEnd (l : List Int) : Option Nat :=
  match intl (l.drop (sgn l)) with
  | none => none
  | some a =>
    match frac (l.drop (sgn l + a)) with
    | none => none
    | some b =>
      match expo (l.drop (sgn l + a + b)) with
      | none => none
      | some c => some (sgn l + a + b + c)

/-- As an int: the position behind it, or -1. -/
def endAt (i : Int) : Option Nat → Int
  | none => -1
  | some k => i + k

theorem intl_bd {l : List Int} {a : Nat} (h : intl l = some a) : 1 ≤ a ∧ a ≤ l.length := by
  cases l with
  | nil => simp [intl] at h
  | cons c r =>
    simp only [intl] at h
    split at h
    · simp at h; subst h; simp
    · split at h
      · rename_i h1
        simp at h
        have := digs_le (c :: r)
        have hd : isD c = true := by simp [isD]; omega
        have : digs (c :: r) = digs r + 1 := by simp [digs, hd]
        omega
      · simp at h
theorem frac_bd {l : List Int} {b : Nat} (h : frac l = some b) : b ≤ l.length := by
  cases l with
  | nil => simp [frac] at h; omega
  | cons c r =>
    have := digs_le r
    simp only [frac] at h
    split at h
    · split at h
      · simp at h
      · simp at h; simp; omega
    · simp at h; omega
theorem esgn_le (l : List Int) : esgn l ≤ l.length := by
  cases l with
  | nil => simp [esgn]
  | cons c r => simp only [esgn]; split <;> simp
theorem expo_bd {l : List Int} {b : Nat} (h : expo l = some b) : b ≤ l.length := by
  cases l with
  | nil => simp [expo] at h; omega
  | cons c r =>
    have h1 := esgn_le r
    have h2 := digs_le (r.drop (esgn r))
    simp only [List.length_drop] at h2
    simp only [expo] at h
    split at h
    · split at h
      · simp at h
      · simp at h; simp; omega
    · simp at h; omega

theorem intl_take {l : List Int} {a j : Nat} (h : intl l = some a) (hj : a ≤ j) : intl (l.take j) = some a := by
  have hb := intl_bd h
  cases l with
  | nil => simp [intl] at h
  | cons c r =>
    obtain ⟨j, rfl⟩ : ∃ i, j = i + 1 := ⟨j - 1, by omega⟩
    have hd := digs_take (c :: r) (j + 1)
    simp only [List.take_succ_cons] at hd ⊢
    simp only [intl] at h ⊢
    split at h
    · simp_all
    · split at h
      · rename_i h0 h1
        rw [if_neg h0, if_pos h1, hd]
        simp at h
        simp [h, hj]
      · simp at h
theorem frac_take {l : List Int} {b j : Nat} (h : frac l = some b) (hj : b ≤ j) : frac (l.take j) = some b := by
  cases l with
  | nil => simpa using h
  | cons c r =>
    simp only [frac] at h
    cases j with
    | zero =>
      split at h
      · split at h <;> simp at h; omega
      · simpa [frac] using h
    | succ j =>
      simp only [List.take_succ_cons, frac, digs_take]
      split at h
      · rename_i h0
        split at h
        · simp at h
        · simp at h
          rw [if_pos h0, if_neg (by omega)]
          simp; omega
      · rename_i h0
        rw [if_neg h0]
        exact h
theorem esgn_take (l : List Int) (j : Nat) (h : 0 < j) : esgn (l.take j) = esgn l := by
  cases l with
  | nil => simp
  | cons c r =>
    obtain ⟨j, rfl⟩ : ∃ i, j = i + 1 := ⟨j - 1, by omega⟩
    simp [esgn]
theorem expo_take {l : List Int} {b j : Nat} (h : expo l = some b) (hj : b ≤ j) : expo (l.take j) = some b := by
  cases l with
  | nil => simpa using h
  | cons c r =>
    simp only [expo] at h
    cases j with
    | zero =>
      split at h
      · split at h <;> simp at h; omega
      · simpa [expo] using h
    | succ j =>
      simp only [List.take_succ_cons, expo]
      split at h
      · rename_i h0
        split at h
        · simp at h
        · simp at h
          rw [if_pos h0, esgn_take r j (by omega), List.drop_take, digs_take, if_neg (by omega)]
          simp; omega
      · rename_i h0
        rw [if_neg h0]
        exact h
theorem sgn_take (l : List Int) (j : Nat) (h : 0 < j) : sgn (l.take j) = sgn l := by
  cases l with
  | nil => simp
  | cons c r =>
    obtain ⟨j, rfl⟩ : ∃ i, j = i + 1 := ⟨j - 1, by omega⟩
    simp [sgn]
theorem sgn_le (l : List Int) : sgn l ≤ l.length := by
  cases l with
  | nil => simp [sgn]
  | cons c r => simp only [sgn]; split <;> simp

theorem numEnd_parts {l : List Int} {k : Nat} (h : numEnd l = some k) :
    ∃ a b c, intl (l.drop (sgn l)) = some a ∧ frac (l.drop (sgn l + a)) = some b ∧ expo (l.drop (sgn l + a + b)) = some c ∧ k = sgn l + a + b + c := by
  unfold numEnd at h
  split at h
  · simp at h
  · rename_i a ha
    split at h
    · simp at h
    · rename_i b hb
      split at h
      · simp at h
      · rename_i c hc
        simp at h
        exact ⟨a, b, c, ha, hb, hc, h.symm⟩
theorem numEnd_bd {l : List Int} {k : Nat} (h : numEnd l = some k) : 1 ≤ k ∧ k ≤ l.length := by
  obtain ⟨a, b, c, ha, hb, hc, rfl⟩ := numEnd_parts h
  have h1 := intl_bd ha
  have h2 := frac_bd hb
  have h3 := expo_bd hc
  have h4 := sgn_le l
  simp only [List.length_drop] at h1 h2 h3
  omega
/-- A number still ends where it ended when the text is cut there. -/
theorem numEnd_cut {l : List Int} {k : Nat} (h : numEnd l = some k) : numEnd (l.take k) = some k := by
  have hbd := numEnd_bd h
  obtain ⟨a, b, c, ha, hb, hc, rfl⟩ := numEnd_parts h
  have h1 := intl_bd ha
  unfold numEnd
  rw [sgn_take l _ (by omega)]
  simp only [List.drop_take]
  rw [intl_take ha (by omega)]
  simp only
  rw [frac_take hb (by omega)]
  simp only
  rw [expo_take hc (by omega)]

end Go.Proofs.Qxb6603177a

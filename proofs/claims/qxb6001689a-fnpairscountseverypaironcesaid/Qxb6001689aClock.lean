/-
  The plain law of vector clocks that a script of steps plays: no Go in sight. 'cl h s k c': entry c of the clock of event k. The pairs whose clocks are comparable are counted by the clocks' own sums.
-/
import Derived.KernelRfl
namespace Go.Proofs.Qxb6001689a

section
variable (h : Nat) (s : Nat → Nat)

def hostOf (k : Nat) : Nat := s k % h
def fromOf (k : Nat) : Nat := s k / h % (k + 1)
/-- The last event of host c ahead of k. -/
def lastOf (c : Nat) : Nat → Option Nat
  | 0 => none
  | k + 1 => if hostOf h s k = c then some k else lastOf c k
/-- How many of the first k events are host c's. -/
def cnt (c : Nat) : Nat → Nat
  | 0 => 0
  | k + 1 => cnt c k + if hostOf h s k = c then 1 else 0

def rowOf (R : List (Nat → Nat)) (l : Nat) : Nat → Nat := R.getD l (fun _ => 0)
def newRow (R : List (Nat → Nat)) (k c : Nat) : Nat :=
  max (match lastOf h s (hostOf h s k) k with | none => 0 | some l => rowOf R l c) (if 0 < fromOf h s k then rowOf R (fromOf h s k - 1) c else 0) + if c = hostOf h s k then 1 else 0
def rows : Nat → List (Nat → Nat)
  | 0 => []
  | k + 1 => rows k ++ [newRow h s (rows k) k]
def cl (k c : Nat) : Nat := rowOf (rows h s (k + 1)) k c

theorem rows_length (k : Nat) : (rows h s k).length = k := by
  induction k with
  | zero => rfl
  | succ k ih => simp [rows, ih]
theorem rowOf_left (R R' : List (Nat → Nat)) (l : Nat) (hl : l < R.length) : rowOf (R ++ R') l = rowOf R l := by
  unfold rowOf
  rw [List.getD_eq_getElem?_getD, List.getD_eq_getElem?_getD, List.getElem?_append_left hl]
theorem rowOf_rows (n k : Nat) (hk : k < n) : rowOf (rows h s n) k = cl h s k := by
  induction n with
  | zero => omega
  | succ n ih =>
    by_cases e : k = n
    · subst e; rfl
    · show rowOf (rows h s n ++ _) k = _
      rw [rowOf_left _ _ _ (by rw [rows_length]; omega), ih (by omega)]
theorem lastOf_lt {c k l : Nat} (hl : lastOf h s c k = some l) : l < k := by
  induction k with
  | zero => simp [lastOf] at hl
  | succ k ih =>
    simp only [lastOf] at hl
    split at hl
    · simp at hl; omega
    · have := ih hl; omega

def pv (f c : Nat) : Nat := match lastOf h s (hostOf h s f) f with | none => 0 | some l => cl h s l c
def wv (f c : Nat) : Nat := if 0 < fromOf h s f then cl h s (fromOf h s f - 1) c else 0
theorem fromOf_le (k : Nat) : fromOf h s k ≤ k := by unfold fromOf; have := Nat.mod_lt (s k / h) (show 0 < k + 1 by omega); omega

theorem cl_eq (f c : Nat) : cl h s f c = max (pv h s f c) (wv h s f c) + if c = hostOf h s f then 1 else 0 := by
  have e1 : cl h s f c = newRow h s (rows h s f) f c := by
    unfold cl
    show rowOf (rows h s f ++ [newRow h s (rows h s f) f]) f c = _
    unfold rowOf
    rw [List.getD_eq_getElem?_getD, List.getElem?_append_right (by rw [rows_length]; omega), rows_length]
    simp
  rw [e1]
  unfold newRow pv wv
  have hw : (if 0 < fromOf h s f then rowOf (rows h s f) (fromOf h s f - 1) c else 0) = if 0 < fromOf h s f then cl h s (fromOf h s f - 1) c else 0 := by
    split
    · have := fromOf_le h s f
      rw [rowOf_rows h s f _ (by omega)]
    · rfl
  rw [hw]
  cases hl : lastOf h s (hostOf h s f) f with
  | none => rfl
  | some l => simp only; rw [rowOf_rows h s f l (lastOf_lt h s hl)]

theorem cnt_mono (c : Nat) {a b : Nat} (hab : a ≤ b) : cnt h s c a ≤ cnt h s c b := by
  induction b with
  | zero => obtain rfl : a = 0 := by omega
            exact Nat.le_refl _
  | succ b ih =>
    by_cases e : a = b + 1
    · subst e; exact Nat.le_refl _
    · have := ih (by omega)
      simp only [cnt]; omega
theorem cnt_le (c k : Nat) : cnt h s c k ≤ k := by
  induction k with
  | zero => simp [cnt]
  | succ k ih => simp only [cnt]; split <;> omega
theorem last_some {c k l : Nat} (hl : lastOf h s c k = some l) : hostOf h s l = c ∧ cnt h s c (l + 1) = cnt h s c k := by
  induction k with
  | zero => simp [lastOf] at hl
  | succ k ih =>
    simp only [lastOf] at hl
    split at hl
    · rename_i hh
      simp at hl
      subst hl
      exact ⟨hh, rfl⟩
    · rename_i hh
      obtain ⟨a, b⟩ := ih hl
      exact ⟨a, by rw [b]; simp [cnt, hh]⟩
theorem last_none {c k : Nat} (hl : lastOf h s c k = none) : cnt h s c k = 0 := by
  induction k with
  | zero => rfl
  | succ k ih =>
    simp only [lastOf] at hl
    split at hl
    · simp at hl
    · rename_i hh
      simp [cnt, hh, ih hl]
theorem cnt_own (e : Nat) : cnt h s (hostOf h s e) (e + 1) = cnt h s (hostOf h s e) e + 1 := by simp [cnt]

theorem cl_le (f : Nat) : ∀ c, cl h s f c ≤ cnt h s c (f + 1) := by
  induction f using Nat.strongRecOn with
  | ind f ih =>
    intro c
    rw [cl_eq]
    have h1 : pv h s f c ≤ cnt h s c f := by
      unfold pv
      cases hl : lastOf h s (hostOf h s f) f with
      | none => simp
      | some l =>
        have hlt := lastOf_lt h s hl
        exact Nat.le_trans (ih l hlt c) (cnt_mono h s c (by omega))
    have h2 : wv h s f c ≤ cnt h s c f := by
      unfold wv
      have := fromOf_le h s f
      split
      · exact Nat.le_trans (ih _ (by omega) c) (cnt_mono h s c (by omega))
      · omega
    have h3 : cnt h s c (f + 1) = cnt h s c f + if c = hostOf h s f then 1 else 0 := by simp only [cnt, eq_comm]
    rw [h3]
    omega
theorem cl_own (f : Nat) : cl h s f (hostOf h s f) = cnt h s (hostOf h s f) (f + 1) := by
  induction f using Nat.strongRecOn with
  | ind f ih =>
    rw [cl_eq, cnt_own, if_pos rfl]
    have h1 : pv h s f (hostOf h s f) = cnt h s (hostOf h s f) f := by
      unfold pv
      cases hl : lastOf h s (hostOf h s f) f with
      | none => simp [last_none h s hl]
      | some l =>
        obtain ⟨hh, hc⟩ := last_some h s hl
        have := ih l (lastOf_lt h s hl)
        rw [hh] at this
        simp only
        rw [this, hc]
    have h2 : wv h s f (hostOf h s f) ≤ cnt h s (hostOf h s f) f := by
      unfold wv
      have := fromOf_le h s f
      split
      · exact Nat.le_trans (cl_le h s _ _) (cnt_mono h s _ (by omega))
      · omega
    rw [h1]
    omega
theorem le_of_cnt {e l : Nat} (hc : cnt h s (hostOf h s e) (e + 1) ≤ cnt h s (hostOf h s e) (l + 1)) : e ≤ l := by
  by_cases hh : e ≤ l
  · exact hh
  · have := cnt_mono h s (hostOf h s e) (show l + 1 ≤ e by omega)
    rw [cnt_own] at hc
    omega
/-- An event whose number a clock reaches lies below that clock. -/
theorem cl_closed (f : Nat) : ∀ e, e ≤ f → cnt h s (hostOf h s e) (e + 1) ≤ cl h s f (hostOf h s e) → ∀ c, cl h s e c ≤ cl h s f c := by
  induction f using Nat.strongRecOn with
  | ind f ih =>
    intro e hef hle c
    by_cases heq : e = f
    · subst heq; exact Nat.le_refl _
    · have hpv : ∀ c, pv h s f c ≤ cl h s f c := fun c => by rw [cl_eq]; omega
      have hwv : ∀ c, wv h s f c ≤ cl h s f c := fun c => by rw [cl_eq]; omega
      have viaLast : ∀ l, lastOf h s (hostOf h s f) f = some l → cnt h s (hostOf h s e) (e + 1) ≤ cl h s l (hostOf h s e) → cl h s e c ≤ cl h s f c := fun l hl hx => by
        have h1 := ih l (lastOf_lt h s hl) e (le_of_cnt h s (Nat.le_trans hx (cl_le h s l _))) hx c
        have h2 := hpv c
        unfold pv at h2
        rw [hl] at h2
        exact Nat.le_trans h1 h2
      by_cases hd : hostOf h s e = hostOf h s f
      · cases hl : lastOf h s (hostOf h s f) f with
        | none =>
          have h0 := last_none h s hl
          have := cnt_mono h s (hostOf h s f) (show e + 1 ≤ f by omega)
          rw [← hd, cnt_own, hd] at this
          omega
        | some l =>
          obtain ⟨hh, hc⟩ := last_some h s hl
          have ho := cl_own h s l
          rw [hh] at ho
          refine viaLast l hl ?_
          rw [hd, ho, hc]
          exact cnt_mono h s _ (by omega)
      · rw [cl_eq, if_neg hd] at hle
        have hpos : 0 < cnt h s (hostOf h s e) (e + 1) := by rw [cnt_own]; omega
        by_cases hp : cnt h s (hostOf h s e) (e + 1) ≤ pv h s f (hostOf h s e)
        · cases hl : lastOf h s (hostOf h s f) f with
          | none => unfold pv at hp; rw [hl] at hp; simp only at hp; omega
          | some l =>
            refine viaLast l hl ?_
            unfold pv at hp
            rw [hl] at hp
            exact hp
        · have hw : cnt h s (hostOf h s e) (e + 1) ≤ wv h s f (hostOf h s e) := by omega
          have h2 := hwv c
          unfold wv at hw h2
          by_cases hf : 0 < fromOf h s f
          · rw [if_pos hf] at hw h2
            have := fromOf_le h s f
            exact Nat.le_trans (ih _ (by omega) e (le_of_cnt h s (Nat.le_trans hw (cl_le h s _ _))) hw c) h2
          · rw [if_neg hf] at hw
            omega

/-! ### Counting -/

def leqB (e f : Nat) : Bool := (List.range h).all fun c => cl h s e c ≤ cl h s f c
theorem leqB_iff (e f : Nat) : leqB h s e f = true ↔ ∀ c, c < h → cl h s e c ≤ cl h s f c := by simp [leqB]
theorem host_lt (hh : 0 < h) (k : Nat) : hostOf h s k < h := Nat.mod_lt _ hh
theorem leq_up (hh : 0 < h) {e f : Nat} (hef : e < f) : leqB h s e f = true ↔ cnt h s (hostOf h s e) (e + 1) ≤ cl h s f (hostOf h s e) := by
  rw [leqB_iff]
  constructor
  · intro k
    have := k _ (host_lt h s hh e)
    rwa [cl_own] at this
  · intro k c _
    exact cl_closed h s f e (by omega) k c
theorem leq_down (hh : 0 < h) {e f : Nat} (hef : e < f) : leqB h s f e = false := by
  cases hx : leqB h s f e with
  | false => rfl
  | true =>
    have := (leqB_iff h s f e).1 hx _ (host_lt h s hh f)
    rw [cl_own] at this
    have h2 := cl_le h s e (hostOf h s f)
    have h3 := cnt_mono h s (hostOf h s f) (show e + 1 ≤ f by omega)
    rw [cnt_own] at this
    omega

def sumTo (g : Nat → Nat) : Nat → Nat
  | 0 => 0
  | n + 1 => sumTo g n + g n
theorem sumTo_congr {g g' : Nat → Nat} {n : Nat} (hg : ∀ i, i < n → g i = g' i) : sumTo g n = sumTo g' n := by
  induction n with
  | zero => rfl
  | succ n ih => simp only [sumTo]; rw [ih (fun i hi => hg i (by omega)), hg n (by omega)]
theorem sumTo_add (g g' : Nat → Nat) (n : Nat) : sumTo (fun i => g i + g' i) n = sumTo g n + sumTo g' n := by
  induction n with
  | zero => rfl
  | succ n ih => simp only [sumTo, ih]; omega
theorem sumTo_one (d v n : Nat) (hd : d < n) : sumTo (fun i => if i = d then v else 0) n = v := by
  induction n with
  | zero => omega
  | succ n ih =>
    simp only [sumTo]
    by_cases e : d = n
    · subst e
      have : sumTo (fun i => if i = d then v else 0) d = sumTo (fun _ => 0) d := sumTo_congr (fun i hi => by rw [if_neg (by omega)])
      rw [this]
      have z : ∀ m, sumTo (fun _ => 0) m = 0 := fun m => by induction m with | zero => rfl | succ m ih => simp [sumTo, ih]
      simp [z]
    · rw [ih (by omega), if_neg (by omega)]
      rfl
theorem sumTo_mono {g g' : Nat → Nat} {n : Nat} (hg : ∀ i, i < n → g i ≤ g' i) : sumTo g n ≤ sumTo g' n := by
  induction n with
  | zero => exact Nat.le_refl _
  | succ n ih => simp only [sumTo]; have := ih (fun i hi => hg i (by omega)); have := hg n (by omega); omega

/-- Of the first k events those whose number X reaches. -/
def below (X : Nat → Nat) (k : Nat) : Nat := sumTo (fun e => if cnt h s (hostOf h s e) (e + 1) ≤ X (hostOf h s e) then 1 else 0) k
theorem below_eq (hh : 0 < h) (X : Nat → Nat) (k : Nat) : below h s X k = sumTo (fun c => min (cnt h s c k) (X c)) h := by
  induction k with
  | zero =>
    have : sumTo (fun c => min (cnt h s c 0) (X c)) h = sumTo (fun _ => 0) h := sumTo_congr (fun i _ => by simp [cnt])
    rw [this]
    have z : ∀ m, sumTo (fun _ => 0) m = 0 := fun m => by induction m with | zero => rfl | succ m ih => simp [sumTo, ih]
    rw [z]
    rfl
  | succ k ih =>
    have hd := host_lt h s hh k
    have e : sumTo (fun c => min (cnt h s c (k + 1)) (X c)) h = sumTo (fun c => min (cnt h s c k) (X c) + if c = hostOf h s k then (if cnt h s (hostOf h s k) (k + 1) ≤ X (hostOf h s k) then 1 else 0) else 0) h := by
      refine sumTo_congr (fun c _ => ?_)
      by_cases ec : c = hostOf h s k
      · subst ec
        rw [if_pos rfl, cnt_own]
        split <;> omega
      · rw [if_neg ec]
        have : cnt h s c (k + 1) = cnt h s c k := by simp [cnt, Ne.symm ec]
        rw [this]
        rfl
    rw [e, sumTo_add, sumTo_one _ _ _ hd, ← ih]
    rfl
/-- ████ The events below f are as many as its clock's entries add up to, less itself. -/
theorem sum_clock (hh : 0 < h) (f : Nat) : sumTo (fun e => if leqB h s e f = true then 1 else 0) f + 1 = sumTo (cl h s f) h := by
  have e1 : sumTo (fun e => if leqB h s e f = true then 1 else 0) f = below h s (cl h s f) f := by
    refine sumTo_congr (fun e he => ?_)
    by_cases k : cnt h s (hostOf h s e) (e + 1) ≤ cl h s f (hostOf h s e)
    · rw [if_pos ((leq_up h s hh he).2 k), if_pos k]
    · rw [if_neg (fun hx => k ((leq_up h s hh he).1 hx)), if_neg k]
  rw [e1, below_eq h s hh]
  have e2 : sumTo (cl h s f) h = sumTo (fun c => min (cnt h s c f) (cl h s f c) + if c = hostOf h s f then 1 else 0) h := by
    refine sumTo_congr (fun c _ => ?_)
    by_cases ec : c = hostOf h s f
    · subst ec
      rw [if_pos rfl, cl_own, cnt_own]
      omega
    · rw [if_neg ec]
      have h1 := cl_le h s f c
      have h2 : cnt h s c (f + 1) = cnt h s c f := by simp [cnt, Ne.symm ec]
      rw [h2] at h1
      omega
  rw [e2, sumTo_add, sumTo_one _ _ _ (host_lt h s hh f)]

/-- A triangle summed by rows and by columns. -/
theorem tri (g : Nat → Nat → Nat) (n : Nat) : sumTo (fun e => sumTo (fun f => if e < f then g e f else 0) n) n = sumTo (fun f => sumTo (fun e => g e f) f) n := by
  induction n with
  | zero => rfl
  | succ n ih =>
    simp only [sumTo]
    have e1 : sumTo (fun e => sumTo (fun f => if e < f then g e f else 0) n + if e < n then g e n else 0) n = sumTo (fun e => sumTo (fun f => if e < f then g e f else 0) n) n + sumTo (fun e => g e n) n := by
      rw [sumTo_add]
      congr 1
      exact sumTo_congr (fun i hi => by rw [if_pos hi])
    rw [e1, ih]
    have e2 : sumTo (fun f => if n < f then g n f else 0) n = 0 := by
      have : sumTo (fun f => if n < f then g n f else 0) n = sumTo (fun _ => 0) n := sumTo_congr (fun i hi => by rw [if_neg (by omega)])
      rw [this]
      have z : ∀ m, sumTo (fun _ => 0) m = 0 := fun m => by induction m with | zero => rfl | succ m ih => simp [sumTo, ih]
      exact z n
    rw [e2]
    simp

/-- The comparable pairs, e ahead of f, counted row by row. -/
def ordered (n : Nat) : Nat := sumTo (fun e => sumTo (fun f => if e < f then (if leqB h s e f = true ∨ leqB h s f e = true then 1 else 0) else 0) n) n
theorem ordered_eq (hh : 0 < h) (n : Nat) : ordered h s n + n = sumTo (fun f => sumTo (cl h s f) h) n := by
  unfold ordered
  rw [tri]
  have e : sumTo (fun f => sumTo (cl h s f) h) n = sumTo (fun f => sumTo (fun e => if leqB h s e f = true ∨ leqB h s f e = true then 1 else 0) f + 1) n := by
    refine sumTo_congr (fun f _ => ?_)
    rw [← sum_clock h s hh f]
    congr 1
    refine sumTo_congr (fun i hi => ?_)
    rw [leq_down h s hh hi]
    simp
  rw [e, sumTo_add]
  congr 1
  have : ∀ m, sumTo (fun _ => 1) m = m := fun m => by induction m with | zero => rfl | succ m ih => simp [sumTo, ih]
  exact (this n).symm
end

end Go.Proofs.Qxb6001689a

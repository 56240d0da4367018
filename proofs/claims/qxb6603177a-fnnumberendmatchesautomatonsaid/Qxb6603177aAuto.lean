/-
  The plain law of the automaton: running the table from state 0 gives what 'numEnd' gives. No Go in sight.
-/
import Derived.Test.Qxb6603177aNum
namespace Go.Proofs.Qxb6603177a

def stp (s : Nat) (c : Int) : Option Nat :=
  if s = 0 then (if c = 45 then some 1 else if c = 48 then some 2 else if isD c then some 3 else none)
  else if s = 1 then (if c = 48 then some 2 else if isD c then some 3 else none)
  else if s = 2 then (if c = 46 then some 4 else if c = 101 ∨ c = 69 then some 6 else none)
  else if s = 3 then (if isD c then some 3 else if c = 46 then some 4 else if c = 101 ∨ c = 69 then some 6 else none)
  else if s = 4 then (if isD c then some 5 else none)
  else if s = 5 then (if isD c then some 5 else if c = 101 ∨ c = 69 then some 6 else none)
  else if s = 6 then (if c = 43 ∨ c = 45 then some 7 else if isD c then some 8 else none)
  else (if isD c then some 8 else none)
def stI (s : Nat) (c : Int) : Int := match stp s c with | none => -1 | some t => t
def acc (s : Nat) : Bool := s == 2 || s == 3 || s == 5 || s == 8

/-- The state at the end and how many bytes were eaten. -/
def runA : List Int → Nat → Nat × Nat
  | [], s => (s, 0)
  | c :: r, s => match stp s c with
    | none => (s, 0)
    | some t => ((runA r t).1, (runA r t).2 + 1)
def res (l : List Int) (s : Nat) : Option Nat := if acc (runA l s).1 then some (runA l s).2 else none

theorem res_nil (s : Nat) : res [] s = if acc s then some 0 else none := rfl
theorem res_stop {c : Int} {r : List Int} {s : Nat} (h : stp s c = none) : res (c :: r) s = if acc s then some 0 else none := by
  simp only [res, runA, h]
theorem res_go {c : Int} {r : List Int} {s t : Nat} (h : stp s c = some t) : res (c :: r) s = (res r t).map (· + 1) := by
  simp only [res, runA, h]
  split <;> rfl

theorem isD_iff (c : Int) : isD c = true ↔ 48 ≤ c ∧ c ≤ 57 := by simp [isD]

theorem res8 (l : List Int) : res l 8 = some (digs l) := by
  induction l with
  | nil => rfl
  | cons c r ih =>
    by_cases h : isD c = true
    · rw [res_go (t := 8) (by simp [stp, h]), ih]; simp [digs, h]
    · rw [res_stop (by simp [stp, h])]; simp [digs, h, acc]
theorem res7 (l : List Int) : res l 7 = if digs l = 0 then none else some (digs l) := by
  cases l with
  | nil => rfl
  | cons c r =>
    by_cases h : isD c = true
    · rw [res_go (t := 8) (by simp [stp, h]), res8]; simp [digs, h]
    · rw [res_stop (by simp [stp, h])]; simp [digs, h, acc]
theorem res6 (l : List Int) : res l 6 = if digs (l.drop (esgn l)) = 0 then none else some (esgn l + digs (l.drop (esgn l))) := by
  cases l with
  | nil => rfl
  | cons c r =>
    by_cases h : c = 43 ∨ c = 45
    · rw [res_go (t := 7) (by simp [stp, h]), res7]
      simp only [esgn, if_pos h, List.drop_one, List.tail_cons]
      split <;> simp; omega
    · simp only [esgn, if_neg h, List.drop_zero]
      by_cases h2 : isD c = true
      · rw [res_go (t := 8) (by simp [stp, h, h2]), res8]; simp [digs, h2]
      · rw [res_stop (by simp [stp, h, h2])]; simp [digs, h2, acc]

theorem expo_cons_e {c : Int} {r : List Int} (h : c = 101 ∨ c = 69) : expo (c :: r) = (res r 6).map (· + 1) := by
  rw [res6]
  simp only [expo, if_pos h]
  split <;> simp; omega
theorem expo_cons_n {c : Int} {r : List Int} (h : ¬ (c = 101 ∨ c = 69)) : expo (c :: r) = some 0 := by simp only [expo, if_neg h]

theorem res5 (l : List Int) : res l 5 = (expo (l.drop (digs l))).map (· + digs l) := by
  induction l with
  | nil => rfl
  | cons c r ih =>
    by_cases h : isD c = true
    · rw [res_go (t := 5) (by simp [stp, h]), ih]
      simp only [digs, h, if_true, List.drop_succ_cons]
      cases expo (r.drop (digs r)) <;> simp; omega
    · have hd : digs (c :: r) = 0 := by simp [digs, h]
      rw [hd]
      simp only [List.drop_zero, Nat.add_zero, Option.map_id']
      by_cases h2 : c = 101 ∨ c = 69
      · rw [res_go (t := 6) (by simp [stp, h, h2]), expo_cons_e h2]
      · rw [res_stop (by simp [stp, h, h2]), expo_cons_n h2]; rfl
theorem res4 (l : List Int) : res l 4 = if digs l = 0 then none else (expo (l.drop (digs l))).map (· + digs l) := by
  cases l with
  | nil => rfl
  | cons c r =>
    by_cases h : isD c = true
    · rw [res_go (t := 5) (by simp [stp, h]), res5]
      simp only [digs, h, if_true, List.drop_succ_cons]
      rw [if_neg (by omega)]
      cases expo (r.drop (digs r)) <;> simp; omega
    · rw [res_stop (by simp [stp, h])]; simp [digs, h, acc]

/-- What may stand behind the integer part. -/
def fe (l : List Int) : Option Nat := match frac l with | none => none | some b => (expo (l.drop b)).map (· + b)

theorem fe_dot {r : List Int} : fe (46 :: r) = (res r 4).map (· + 1) := by
  rw [res4]
  simp only [fe, frac, if_true]
  by_cases h : digs r = 0
  · simp [h]
  · simp only [if_neg h]
    rw [Nat.add_comm 1, List.drop_succ_cons]
    cases expo (r.drop (digs r)) <;> simp; omega
theorem fe_not {c : Int} {r : List Int} (h : c ≠ 46) : fe (c :: r) = expo (c :: r) := by
  simp only [fe, frac, if_neg h, List.drop_zero]
  simp
theorem fe_nil : fe [] = some 0 := rfl

theorem res2 (l : List Int) : res l 2 = fe l := by
  cases l with
  | nil => rfl
  | cons c r =>
    by_cases h : c = 46
    · subst h
      rw [res_go (t := 4) (by simp [stp]), fe_dot]
    · rw [fe_not h]
      by_cases h2 : c = 101 ∨ c = 69
      · rw [res_go (t := 6) (by simp [stp, h, h2]), expo_cons_e h2]
      · rw [res_stop (by simp [stp, h, h2]), expo_cons_n h2]; rfl
theorem res3 (l : List Int) : res l 3 = (fe (l.drop (digs l))).map (· + digs l) := by
  induction l with
  | nil => rfl
  | cons c r ih =>
    by_cases h : isD c = true
    · rw [res_go (t := 3) (by simp [stp, h]), ih]
      simp only [digs, h, if_true, List.drop_succ_cons]
      cases fe (r.drop (digs r)) <;> simp; omega
    · have hd : digs (c :: r) = 0 := by simp [digs, h]
      rw [hd]
      simp only [List.drop_zero, Nat.add_zero, Option.map_id']
      by_cases h1 : c = 46
      · subst h1
        rw [res_go (t := 4) (by simp [stp, h]), fe_dot]
      · rw [fe_not h1]
        by_cases h2 : c = 101 ∨ c = 69
        · rw [res_go (t := 6) (by simp [stp, h, h1, h2]), expo_cons_e h2]
        · rw [res_stop (by simp [stp, h, h1, h2]), expo_cons_n h2]; rfl

def ife (l : List Int) : Option Nat := match intl l with | none => none | some a => (fe (l.drop a)).map (· + a)

theorem ife_zero {r : List Int} : ife (48 :: r) = (res r 2).map (· + 1) := by
  rw [res2]; simp [ife, intl]
theorem ife_dig {c : Int} {r : List Int} (h0 : c ≠ 48) (h : isD c = true) : ife (c :: r) = (res r 3).map (· + 1) := by
  have h' := (isD_iff c).1 h
  rw [res3]
  simp only [ife, intl, if_neg h0, if_pos (show 49 ≤ c ∧ c ≤ 57 by omega), digs, h, if_true, List.drop_succ_cons]
  cases fe (r.drop (digs r)) <;> simp; omega
theorem ife_no {c : Int} {r : List Int} (h0 : c ≠ 48) (h : ¬ isD c = true) : ife (c :: r) = none := by
  have h' : ¬ (49 ≤ c ∧ c ≤ 57) := fun k => h ((isD_iff c).2 (by omega))
  simp only [ife, intl, if_neg h0, if_neg h']

theorem res1 (l : List Int) : res l 1 = ife l := by
  cases l with
  | nil => rfl
  | cons c r =>
    by_cases h : c = 48
    · subst h
      rw [res_go (t := 2) (by simp [stp]), ife_zero]
    · by_cases h2 : isD c = true
      · rw [res_go (t := 3) (by simp [stp, h, h2]), ife_dig h h2]
      · rw [res_stop (by simp [stp, h, h2]), ife_no h h2]; rfl
theorem numEnd_ife (l : List Int) : numEnd l = (ife (l.drop (sgn l))).map (· + sgn l) := by
  unfold numEnd ife fe
  cases h : intl (l.drop (sgn l)) with
  | none => rfl
  | some a =>
    simp only [List.drop_drop]
    cases h2 : frac (l.drop (sgn l + a)) with
    | none => rfl
    | some b =>
      simp only
      cases h3 : expo (l.drop (sgn l + a + b)) with
      | none => rfl
      | some c => simp; omega
/-- ████ the table-driven run and the grammar agree. -/
theorem res0 (l : List Int) : res l 0 = numEnd l := by
  rw [numEnd_ife]
  cases l with
  | nil => rfl
  | cons c r =>
    by_cases h : c = 45
    · subst h
      rw [res_go (t := 1) (by simp [stp]), res1]
      simp [sgn]
    · simp only [sgn, if_neg h, List.drop_zero, Nat.add_zero, Option.map_id']
      by_cases h0 : c = 48
      · subst h0
        rw [res_go (t := 2) (by simp [stp]), ife_zero]
      · by_cases h2 : isD c = true
        · rw [res_go (t := 3) (by simp [stp, h, h0, h2]), ife_dig h0 h2]
        · rw [res_stop (by simp [stp, h, h0, h2]), ife_no h0 h2]; rfl

end Go.Proofs.Qxb6603177a

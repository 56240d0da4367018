/-
  The plain law of the scan that skips one JSON value: no Go in sight. Bytes are natural numbers.
-/
import Derived.NoCompiler
namespace Go.Proofs.Qxb6001689a

/-- The bytes at which a number or a literal ends at the top level, brackets apart. -/
def isSep (c : Nat) : Bool := c == 44 || c == 32 || c == 9 || c == 10 || c == 13

/-- What is left of the text behind the value: d brackets are open; m: 0 outside a string, 1 inside one, 2 behind a backslash in one. -/
def sk : Nat → Nat → List Nat → List Nat
  | _, _, [] => []
  | d, 0, c :: r =>
    if c = 34 then sk d 1 r
    else if c = 123 ∨ c = 91 then sk (d + 1) 0 r
    else if c = 125 ∨ c = 93 then (if d = 0 then c :: r else if d = 1 then r else sk (d - 1) 0 r)
    else if d = 0 ∧ isSep c = true then c :: r
    else sk d 0 r
  | d, 1, c :: r => if c = 34 then (if d = 0 then r else sk d 0 r) else if c = 92 then sk d 2 r else sk d 1 r
  | d, _ + 2, _ :: r => sk d 1 r

theorem sk_nil (d m : Nat) : sk d m [] = [] := by unfold sk; rfl

/-- A byte that no part of the scan takes for anything. -/
def plainB (c : Nat) : Bool := !(c == 34 || c == 92 || c == 123 || c == 91 || c == 125 || c == 93 || isSep c)
def Plain (l : List Nat) : Prop := ∀ c, c ∈ l → plainB c = true

theorem plain_nil : Plain [] := fun c h => by cases h
theorem plain_append {a b : List Nat} (ha : Plain a) (hb : Plain b) : Plain (a ++ b) := fun c h => by
  rcases List.mem_append.1 h with h | h
  · exact ha c h
  · exact hb c h
theorem plain_cons {c : Nat} {l : List Nat} (hc : plainB c = true) (h : Plain l) : Plain (c :: l) := fun x hx => by
  rcases List.mem_cons.1 hx with rfl | hx
  · exact hc
  · exact h x hx

theorem plain_ne {c : Nat} (h : plainB c = true) : c ≠ 34 ∧ c ≠ 92 ∧ ¬(c = 123 ∨ c = 91) ∧ ¬(c = 125 ∨ c = 93) ∧ isSep c = false := by
  unfold plainB at h
  simp only [Bool.not_eq_true', Bool.or_eq_false_iff, beq_eq_false_iff_ne, ne_eq] at h
  obtain ⟨⟨⟨⟨⟨⟨h1, h2⟩, h3⟩, h4⟩, h5⟩, h6⟩, h7⟩ := h
  exact ⟨h1, h2, by omega, by omega, h7⟩

theorem sk_plain (d : Nat) : ∀ (x t : List Nat), Plain x → sk d 0 (x ++ t) = sk d 0 t
  | [], _, _ => rfl
  | c :: x, t, h => by
    obtain ⟨h1, _, h3, h4, h5⟩ := plain_ne (h c (List.mem_cons_self ..))
    rw [List.cons_append, sk, if_neg h1, if_neg h3, if_neg h4, if_neg (by simp [h5])]
    exact sk_plain d x t (fun y hy => h y (List.mem_cons_of_mem _ hy))

/-- Bytes that a string may hold as they are. -/
def InStr (l : List Nat) : Prop := ∀ d t, sk d 1 (l ++ t) = sk d 1 t
theorem instr_nil : InStr [] := fun _ _ => rfl
theorem instr_append {a b : List Nat} (ha : InStr a) (hb : InStr b) : InStr (a ++ b) := fun d t => by rw [List.append_assoc, ha, hb]
theorem instr_one {c : Nat} (h1 : c ≠ 34) (h2 : c ≠ 92) : InStr [c] := fun d t => by
  rw [List.singleton_append, sk, if_neg h1, if_neg h2]
theorem instr_esc (c : Nat) : InStr [92, c] := fun d t => by
  show sk d 1 (92 :: c :: t) = _
  rw [sk, if_neg (by decide), if_pos rfl, sk]
theorem instr_plain : ∀ {x : List Nat}, Plain x → InStr x
  | [], _ => instr_nil
  | c :: x, h => by
    obtain ⟨h1, h2, _⟩ := plain_ne (h c (List.mem_cons_self ..))
    exact instr_append (a := [c]) (instr_one h1 h2) (instr_plain (fun y hy => h y (List.mem_cons_of_mem _ hy)))
theorem instr_u {a b : Nat} (ha : plainB a = true) (hb : plainB b = true) : InStr [92, 117, 48, 48, a, b] :=
  instr_append (a := [92, 117]) (instr_esc 117) (instr_plain (plain_cons (by decide) (plain_cons (by decide) (plain_cons ha (plain_cons hb plain_nil)))))

/-- One whole string. -/
def Str (l : List Nat) : Prop := ∀ d t, sk d 0 (l ++ t) = if d = 0 then t else sk d 0 t
theorem str_of {b : List Nat} (h : InStr b) : Str (34 :: (b ++ [34])) := fun d t => by
  rw [List.cons_append, List.append_assoc, sk, if_pos rfl, h, List.singleton_append, sk, if_pos rfl]

/-- The text so far, d brackets open, 0 < d: the scan has not ended, and stands at depth d. -/
def Goes (out : List Nat) (d : Nat) : Prop := ∀ t, sk 0 0 (out ++ t) = sk d 0 t
/-- The text is a whole value: behind it the scan stops where the tail allows it. -/
def Whole (out : List Nat) : Prop := ∀ t, (∀ c r, t = c :: r → c = 125 ∨ c = 93 ∨ isSep c = true) → sk 0 0 (out ++ t) = t

theorem sk_stop {t : List Nat} (h : ∀ c r, t = c :: r → c = 125 ∨ c = 93 ∨ isSep c = true) : sk 0 0 t = t := by
  cases t with
  | nil => exact sk_nil 0 0
  | cons c r =>
    have hc := h c r rfl
    have hsep : isSep c = true → c ≠ 34 ∧ ¬(c = 123 ∨ c = 91) := by
      intro hs
      unfold isSep at hs
      simp only [Bool.or_eq_true, beq_iff_eq] at hs
      omega
    rw [sk]
    by_cases hb : c = 125 ∨ c = 93
    · rw [if_neg (by omega), if_neg (by omega), if_pos hb, if_pos rfl]
    · have hs : isSep c = true := by
        rcases hc with h | h | h
        · exact absurd (.inl h) hb
        · exact absurd (.inr h) hb
        · exact h
      obtain ⟨h1, h2⟩ := hsep hs
      rw [if_neg h1, if_neg h2, if_neg hb, if_pos ⟨rfl, hs⟩]

theorem goes_nil : Goes [] 0 := fun _ => rfl
theorem goes_plain {out x : List Nat} {d : Nat} (h : Goes out d) (hx : Plain x) : Goes (out ++ x) d := fun t => by rw [List.append_assoc, h, sk_plain d x t hx]
theorem goes_open {out : List Nat} {d c : Nat} (h : Goes out d) (hc : c = 123 ∨ c = 91) : Goes (out ++ [c]) (d + 1) := fun t => by
  rw [List.append_assoc, h, List.singleton_append, sk, if_neg (by omega), if_pos hc]
theorem goes_close {out : List Nat} {d c : Nat} (h : Goes out (d + 2)) (hc : c = 125 ∨ c = 93) : Goes (out ++ [c]) (d + 1) := fun t => by
  rw [List.append_assoc, h, List.singleton_append, sk, if_neg (by omega), if_neg (by omega), if_pos hc, if_neg (by omega), if_neg (by omega)]
  rfl
theorem whole_close {out : List Nat} {c : Nat} (h : Goes out 1) (hc : c = 125 ∨ c = 93) : Whole (out ++ [c]) := fun t _ => by
  rw [List.append_assoc, h, List.singleton_append, sk, if_neg (by omega), if_neg (by omega), if_pos hc, if_neg (by omega), if_pos rfl]
theorem goes_comma {out : List Nat} {d : Nat} (h : Goes out (d + 1)) : Goes (out ++ [44]) (d + 1) := fun t => by
  rw [List.append_assoc, h, List.singleton_append, sk, if_neg (by omega), if_neg (by omega), if_neg (by omega), if_neg (by omega)]
theorem goes_str {out x : List Nat} {d : Nat} (h : Goes out (d + 1)) (hx : Str x) : Goes (out ++ x) (d + 1) := fun t => by
  rw [List.append_assoc, h, hx, if_neg (by omega)]
theorem whole_str {out x : List Nat} (h : Goes out 0) (hx : Str x) : Whole (out ++ x) := fun t _ => by
  rw [List.append_assoc, h, hx, if_pos rfl]
theorem whole_plain {out x : List Nat} (h : Goes out 0) (hx : Plain x) : Whole (out ++ x) := fun t ht => by
  rw [goes_plain h hx, sk_stop ht]
end Go.Proofs.Qxb6001689a

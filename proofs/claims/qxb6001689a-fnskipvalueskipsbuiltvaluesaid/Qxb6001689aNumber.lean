/-
  The walk of zzAppendNumber (43).
-/
import Derived.Test.Qxb6001689aInt
namespace Go.Proofs.Qxb6001689a
open Go.RowKit

theorem digits_add {x y : List Nat} {n m : Nat} (h : Digits x n) (hp : Plain y) (hy : y.length ≤ m) (hb : ∀ c ∈ y, c ≤ 255) : Digits (x ++ y) (n + m) :=
  ⟨plain_append h.plain hp, by have := h.pos; simp; omega, by have := h.len; simp; omega, fun c hc => by
    rcases List.mem_append.1 hc with hc | hc
    · exact h.byte c hc
    · exact hb c hc⟩

theorem plain_p : Plain [46, 50, 53] := plain_cons (by decide) (plain_cons (by decide) (plain_cons (by decide) plain_nil))
theorem plain_e : Plain [101, 45, 55] := plain_cons (by decide) (plain_cons (by decide) (plain_cons (by decide) plain_nil))
theorem digits_p {x : List Nat} (h : Digits x 21) : Digits (x ++ [46, 50, 53]) 24 := digits_add (m := 3) h plain_p (by simp) (by simp)
theorem digits_e {x : List Nat} (h : Digits x 24) : Digits (x ++ [101, 45, 55]) 27 := digits_add (m := 3) h plain_e (by simp) (by simp)

set_option maxRecDepth 100000 in
set_option maxHeartbeats 1000000 in
theorem number_any (base : Nat) (v : Value) (L : List Nat) (k : Int) (w : World) (hk : -9223372036854775808 ≤ k ∧ k ≤ 9223372036854775807) (hown : w.ownsRow base 5 1 v (bytesV L).length (bytesV L)) (hL : L.length ≤ 1099511627700) (hbase : base ≤ w.heap.size) :
    Calls Try.prog 43 #[v, .int .i64 k] w fun e w' => ∃ v' x, e = .returned v' ∧ Digits x 27 ∧ Grew base 5 w w' v v' (bytesV (L ++ x)) := by
  have HI : Hid (Calls Try.prog 42 #[v, .int .i64 k] w fun e w' => ∃ v' x, e = .returned v' ∧ Digits x 21 ∧ Grew base 5 w w' v v' (bytesV (L ++ x))) := appint_any base v L k w hk hown (by omega) hbase
  have HLL : Hid (L.length ≤ 1099511627700) := hL
  have HBS : Hid (base ≤ w.heap.size) := hbase
  clear hown hL hbase
  by_cases h3 : k.tmod 3 = 0
  · have e3 : (k.tmod 3 == 0) = true := by simpa using h3
    go_enter Try.func43, Try.ntmps43
    go_wp2_with (first | (go_at_call 42; refine HI.out.mono ?_; rintro e w1 ⟨v1, x, rfl, hd, hg⟩) | (at_builtin; refine wpList_grow _ rfl _ _ 22 22 rfl base 5 (.int .u8 0) 1 Try.underlying22 info5 rfl v1 (bytesV (L ++ x)) rfl w1 hg.own (grown_alloc (grown_refl _) _) _ _ _ rfl (lits_src _ _ [46, 50, 53] (by simp)) (by decide) ?c2 (by decide) ?c3 ?_))
    case c2 => have := HLL.out; have := hd.len; rw [bytesV_length]; simp; omega
    case c3 => exact Nat.le_trans HBS.out hg.gr.size
    intro v2 w2 HG2
    obtain ⟨y, hy⟩ : ∃ y, y = x ++ [46, 50, 53] := ⟨_, rfl⟩
    have HD : Hid (Digits y 24) := by
      rw [hy]
      exact digits_p hd
    have HG : Hid (Grew base 5 w w2 v v2 (bytesV (L ++ y))) := by
      rw [hy, ← List.append_assoc, bytesV_append]
      exact hg.trans HG2.out
    clear hy hd hg HG2
    by_cases h5 : k.tmod 5 = 0
    · have e5 : (k.tmod 5 == 0) = true := by simpa using h5
      go_wp2_with ((at_builtin; refine wpList_grow _ rfl _ _ 22 22 rfl base 5 (.int .u8 0) 1 Try.underlying22 info5 rfl v2 (bytesV (L ++ y)) rfl w2 HG.out.own (grown_alloc (grown_refl _) _) _ _ _ rfl (lits_src _ _ [101, 45, 55] (by simp)) (by decide) ?d2 (by decide) ?d3 ?_))
      case d2 => have := HLL.out; have := HD.out.len; rw [bytesV_length]; simp; omega
      case d3 => exact Nat.le_trans HBS.out HG.out.gr.size
      intro v3 w3 HG3
      go_wp2
      go_ret
      refine ⟨_, y ++ [101, 45, 55], rfl, digits_e HD.out, ?_⟩
      rw [← List.append_assoc, bytesV_append]
      exact HG.out.trans HG3.out
    · have e5 : (k.tmod 5 == 0) = false := by simpa using h5
      go_wp2
      go_ret
      exact ⟨_, y, rfl, digits_up HD.out (by omega), HG.out⟩
  · have e3 : (k.tmod 3 == 0) = false := by simpa using h3
    by_cases h5 : k.tmod 5 = 0
    · have e5 : (k.tmod 5 == 0) = true := by simpa using h5
      go_enter Try.func43, Try.ntmps43
      go_wp2_with (first | (go_at_call 42; refine HI.out.mono ?_; rintro e w2 ⟨v2, y, rfl, hd, hg⟩) | (at_builtin; refine wpList_grow _ rfl _ _ 22 22 rfl base 5 (.int .u8 0) 1 Try.underlying22 info5 rfl v2 (bytesV (L ++ y)) rfl w2 hg.own (grown_alloc (grown_refl _) _) _ _ _ rfl (lits_src _ _ [101, 45, 55] (by simp)) (by decide) ?f2 (by decide) ?f3 ?_))
      case f2 => have := HLL.out; have := hd.len; rw [bytesV_length]; simp; omega
      case f3 => exact Nat.le_trans HBS.out hg.gr.size
      intro v3 w3 HG3
      go_wp2
      go_ret
      refine ⟨_, y ++ [101, 45, 55], rfl, digits_e (digits_up hd (by omega)), ?_⟩
      rw [← List.append_assoc, bytesV_append]
      exact hg.trans HG3.out
    · have e5 : (k.tmod 5 == 0) = false := by simpa using h5
      go_enter Try.func43, Try.ntmps43
      go_wp2_with (first | (go_at_call 42; refine HI.out.mono ?_; rintro e w2 ⟨v2, y, rfl, hd, hg⟩))
      try go_wp2
      go_ret
      exact ⟨_, y, rfl, digits_up hd (by omega), hg⟩

end Go.Proofs.Qxb6001689a

/-
  The plain law of FnReplicaNamesSubdomainsConcatenate; owned rows as 'Strs'.
-/
import Derived.Test.Qxb6000104aNames
namespace Go.Proofs.Qxb6000104a
open Go.RowKit

def tailL (B : List ByteArray) (f : Nat → ByteArray) : Nat → List ByteArray
  | 0 => []
  | k + 1 => tailL B f k ++ blk B (f k)
theorem namesL_tail (B : List ByteArray) (f : Nat → ByteArray) (n : Nat) : namesL B f n = B ++ tailL B f n := by
  induction n with
  | zero => simp [namesL, tailL]
  | succ n ih => simp only [namesL, tailL, ih, List.append_assoc]
theorem tailL_length (B : List ByteArray) (f : Nat → ByteArray) (n : Nat) : (tailL B f n).length = B.length * n := by
  induction n with
  | zero => simp [tailL]
  | succ n ih => simp only [tailL, List.length_append, ih, blk, List.length_map]; rw [Nat.mul_add B.length n 1]; omega
def both (n : Nat) (f f' : Nat → ByteArray) : Nat → ByteArray := fun i => if i < n then f i else f' (i - n)
theorem tailL_congr (B : List ByteArray) (f f' : Nat → ByteArray) (n : Nat) (h : ∀ i, i < n → f i = f' i) : tailL B f n = tailL B f' n := by
  induction n with
  | zero => rfl
  | succ n ih => simp only [tailL]; rw [ih (fun i hi => h i (by omega)), h n (by omega)]
theorem tailL_both (B : List ByteArray) (f f' : Nat → ByteArray) (n m : Nat) : tailL B (both n f f') (n + m) = tailL B f n ++ tailL B f' m := by
  induction m with
  | zero =>
    simp only [Nat.add_zero, tailL, List.append_nil]
    exact tailL_congr B _ _ n (fun i hi => by simp [both, hi])
  | succ m ih =>
    show tailL B (both n f f') (n + m) ++ blk B (both n f f' (n + m)) = _
    rw [ih]
    simp [tailL, both, List.append_assoc, show ¬ n + m < n by omega]
/-- The names for both lists are the names for the first, then those for the second without their leading block. -/
theorem names_both (B : List ByteArray) (f f' : Nat → ByteArray) (n m : Nat) : namesL B (both n f f') (n + m) = namesL B f n ++ tailL B f' m := by
  rw [namesL_tail, tailL_both, namesL_tail, List.append_assoc]

/-- An owned row of strings, as 'Strs'. -/
theorem own_strs {w : World} {base : Nat} {v : Value} {n : Nat} {l : List ByteArray} (h : w.ownsRow base 9 1 v n (strs l)) (hs : ∀ x ∈ l, x.size ≤ 9223372036854775807) :
    ∃ a b c, v = .slice a n c ∧ Strs w a n b 0 (fun i => l.getD i ByteArray.empty) ∧ n ≤ c ∧ c ≤ maxLen := by
  have hl : l.length = n := by have := h.1; simpa [strs] using this
  rcases Nat.eq_zero_or_pos n with h0 | h0
  · subst h0
    rcases h.2 with ⟨rfl, _⟩ | ⟨g, cap, cur, rfl, _, _, _, hcm, _⟩
    · exact ⟨none, 0, 0, rfl, ⟨fun h => by omega, fun i hi => by omega, fun i hi => by omega⟩, by omega, by unfold maxLen; omega⟩
    · exact ⟨_, 0, cap, rfl, ⟨fun h => by omega, fun i hi => by omega, fun i hi => by omega⟩, by omega, hcm⟩
  · obtain ⟨g, cap, rfl, _, _, hnc, hcm, hc⟩ := own_shape h h0
    refine ⟨_, g, cap, rfl, ⟨fun _ => rfl, fun i hi => ?_, fun i hi => ?_⟩, hnc, hcm⟩
    · rw [Nat.zero_add]
      refine hc i hi _ ?_
      rw [strs_at (show i < l.length by omega)]
      simp [List.getD, show i < l.length by omega]
    · apply hs
      show l.getD i ByteArray.empty ∈ l
      rw [List.getD_eq_getElem?_getD, List.getElem?_eq_getElem (by omega)]
      simp

theorem fits_left {g r : ByteArray} {n1 n m : Nat} {f1 f f' : Nat → ByteArray} (h : Fits g r n1 f1 (n + m) (both n f f')) : Fits g r n1 f1 n f :=
  ⟨h.l1, by have := h.l2; omega, h.g, h.r, h.s1, fun i hi => by have := h.s2 i (by omega); simpa [both, hi] using this,
    Nat.le_trans (Nat.mul_le_mul_left _ (by omega)) h.all⟩
theorem fits_right {g r : ByteArray} {n1 n m : Nat} {f1 f f' : Nat → ByteArray} (h : Fits g r n1 f1 (n + m) (both n f f')) : Fits g r n1 f1 m f' :=
  ⟨h.l1, by have := h.l2; omega, h.g, h.r, h.s1, fun i hi => by have := h.s2 (n + i) (by omega); simpa [both, show ¬ n + i < n by omega] using this,
    Nat.le_trans (Nat.mul_le_mul_left _ (by omega)) h.all⟩

theorem namesL_size {g r : ByteArray} {n1 n2 : Nat} {f1 f2 : Nat → ByteArray} (hF : Fits g r n1 f1 n2 f2) : ∀ x ∈ namesL (baseL g r n1 f1) f2 n2, x.size ≤ 9223372036854775807 := by
  have hb := baseL_size hF
  have hs := hF.s2
  generalize baseL g r n1 f1 = B at hb
  clear hF
  induction n2 with
  | zero => intro x hx; have := hb x hx; omega
  | succ n ih =>
    intro x hx
    simp only [namesL, List.mem_append] at hx
    rcases hx with hx | hx
    · exact ih (fun i hi => hs i (by omega)) x hx
    · simp only [blk, List.mem_map] at hx
      obtain ⟨y, hy, rfl⟩ := hx
      have h1 := hb y hy
      have h2 := hs n (by omega)
      have h3 : dot.size = 1 := rfl
      simp only [ByteArray.size_append]
      omega

end Go.Proofs.Qxb6000104a

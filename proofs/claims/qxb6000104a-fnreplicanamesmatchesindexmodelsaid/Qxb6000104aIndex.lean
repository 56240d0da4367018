/-
  The walk of FnReplicaNamesMatchesIndexModel (7).
-/
import Derived.Test.Qxb6000104aNames
namespace Go.Proofs.Qxb6000104a
open Go.RowKit

theorem namesL_length (B : List ByteArray) (f : Nat → ByteArray) (n : Nat) : (namesL B f n).length = B.length * (n + 1) := by
  induction n with
  | zero => simp [namesL]
  | succ n ih => simp only [namesL, List.length_append, ih, blk, List.length_map]; rw [Nat.mul_add B.length (n + 1) 1]; omega
theorem namesL_at (B : List ByteArray) (f : Nat → ByteArray) (n q j : Nat) (hj : j < B.length) (hq : q ≤ n) :
    (namesL B f n)[B.length * q + j]? = some (if q = 0 then B[j] else f (q - 1) ++ dot ++ B[j]) := by
  induction n with
  | zero =>
    obtain rfl : q = 0 := by omega
    simp [namesL, hj]
  | succ n ih =>
    simp only [namesL]
    have hl := namesL_length B f n
    by_cases h : q ≤ n
    · have h2 : B.length * q ≤ B.length * n := Nat.mul_le_mul_left _ h
      rw [List.getElem?_append_left (by rw [hl, Nat.mul_add]; omega)]
      exact ih h
    · obtain rfl : q = n + 1 := by omega
      rw [List.getElem?_append_right (by rw [hl]; omega), hl, Nat.add_sub_cancel_left]
      simp [blk, hj]
theorem baseL_first (g r : ByteArray) (n : Nat) (f : Nat → ByteArray) : (baseL g r n f)[0]? = some g := rfl
theorem baseL_mid (g r : ByteArray) (n : Nat) (f : Nat → ByteArray) (j : Nat) (h : j < n) : (baseL g r n f)[j + 1]? = some (f j) := by
  simp [baseL, List.getElem?_append, h]
theorem baseL_last (g r : ByteArray) (n : Nat) (f : Nat → ByteArray) : (baseL g r n f)[n + 1]? = some r := by
  simp [baseL]

/-- Name k of the answer, by its block q and its place j in the block. -/
theorem name_at (g r : ByteArray) (n1 : Nat) (f1 f2 : Nat → ByteArray) (n2 q j : Nat) (x : ByteArray) (hx : (baseL g r n1 f1)[j]? = some x) (hq : q ≤ n2) :
    (strs (namesL (baseL g r n1 f1) f2 n2))[(n1 + 2) * q + j]? = some (.string (if q = 0 then x else f2 (q - 1) ++ dot ++ x)) := by
  obtain ⟨hj, he⟩ := List.getElem?_eq_some_iff.1 hx
  have h := namesL_at (baseL g r n1 f1) f2 n2 q j hj hq
  rw [baseL_length, he] at h
  simp [strs, h]

theorem tmod_of {k m q j : Nat} (hj : j < m + 2) (hk : k = (m + 2) * q + j) : (k : Int).tmod ((m : Int) + 2) = (j : Int) := by
  have h : k % (m + 2) = j := by rw [hk, Nat.mul_add_mod]; exact Nat.mod_eq_of_lt hj
  have e : (k : Int).tmod (((m + 2 : Nat)) : Int) = ((k % (m + 2) : Nat) : Int) := rfl
  rw [h] at e
  simpa using e
theorem tdiv_of {k m q j : Nat} (hj : j < m + 2) (hk : k = (m + 2) * q + j) : (k : Int).tdiv ((m : Int) + 2) = (q : Int) := by
  have h : k / (m + 2) = q := by rw [hk, Nat.mul_add_div (by omega), Nat.div_eq_of_lt hj]; rfl
  have e : (k : Int).tdiv (((m + 2 : Nat)) : Int) = ((k / (m + 2) : Nat) : Int) := rfl
  rw [h] at e
  simpa using e

set_option maxHeartbeats 1000000 in
theorem index_main (g r : ByteArray) (a1 : Option Addr) (b1 o1 n1 c1 : Nat) (f1 : Nat → ByteArray) (a2 : Option Addr) (b2 o2 n2 c2 : Nat) (f2 : Nat → ByteArray) (w : World)
    (hg : g.size ≤ 9223372036854775807) (hr : r.size ≤ 9223372036854775807) (hn1 : n1 ≤ 9223372036854775807) (hn2 : n2 ≤ 9223372036854775807) (h1 : Strs w a1 n1 b1 o1 f1) (ha1 : a1 = none → n1 = 0 ∧ c1 = 0) (h2 : Strs w a2 n2 b2 o2 f2) (ha2 : a2 = none → n2 = 0 ∧ c2 = 0) :
    Calls Try.prog 7 #[.string g, .string r, .slice a1 n1 c1, .slice a2 n2 c2] w fun e w' => e = .returned (.bool true) ∧ Below w.heap.size w w' := by
  have H1 : Hid (Strs w a1 n1 b1 o1 f1 ∧ (a1 = none → n1 = 0 ∧ c1 = 0)) := ⟨h1, ha1⟩
  have H2 : Hid (Strs w a2 n2 b2 o2 f2 ∧ (a2 = none → n2 = 0 ∧ c2 = 0)) := ⟨h2, ha2⟩
  have HB : Hid (g.size ≤ 9223372036854775807 ∧ r.size ≤ 9223372036854775807 ∧ n1 ≤ 9223372036854775807 ∧ n2 ≤ 9223372036854775807) := ⟨hg, hr, hn1, hn2⟩
  clear h1 ha1 h2 ha2 hg hr hn1 hn2
  go_enter Try.func7, Try.ntmps7
  go_wp2_with fail
  refine (zz18 g r a1 b1 o1 n1 c1 f1 a2 b2 o2 n2 c2 f2 w HB.out.1 HB.out.2.1 HB.out.2.2.1 HB.out.2.2.2 H1.out.1 H2.out.1).mono ?_
  rintro e w' ⟨⟨q, rfl⟩, hw⟩
  subst hw
  cases q
  · go_wp2_with fail
    go_ret
    exact ⟨rfl, Below.refl _ _⟩
  go_wp2_with fail
  refine (fits_any g r a1 b1 o1 n1 c1 f1 a2 b2 o2 n2 c2 f2 w' HB.out.1 HB.out.2.1 HB.out.2.2.1 HB.out.2.2.2 H1.out.1 H2.out.1).mono ?_
  rintro e w ⟨hq, hw⟩
  subst hw
  rcases hq with rfl | ⟨rfl, hF⟩
  · go_wp2_with fail
    go_ret
    exact ⟨rfl, Below.refl _ _⟩
  have HF : Hid (Fits g r n1 f1 n2 f2) := hF
  have hl1 := hF.l1
  have hl2 := hF.l2
  clear hF
  go_wp2_with fail
  refine (clone_any a1 b1 o1 n1 c1 f1 w (by omega) H1.out.2 H1.out.1).mono ?_
  rintro e w1 ⟨d1, rfl, hS1, hd1, hbel1⟩
  have H3 : Hid (Strs w1 a2 n2 b2 o2 f2) := H2.out.1.later hbel1
  go_wp2_with fail
  refine (clone_any a2 b2 o2 n2 c2 f2 w1 (by omega) H2.out.2 H3.out).mono ?_
  rintro e w2 ⟨d2, rfl, hS2, hd2, hbel2⟩
  have hS1' : Strs w2 d1 n1 w.heap.size 0 f1 := hS1.later hbel2
  go_wp2_with (go_at_call 21; go_in)
  refine (names_any g r d1 w.heap.size 0 n1 n1 f1 d2 w1.heap.size 0 n2 n2 f2 w2 HF.out hS1' hd1 hS2).mono ?_
  rintro e w3 ⟨⟨v, rfl, hown⟩, hbel3⟩
  have HBEL : Hid (Below w.heap.size w w3) := (hbel1.trans (hbel2.mono hbel1.size)).trans (hbel3.mono (Nat.le_trans hbel1.size hbel2.size))
  have HM : Hid (0 ≤ ((n1 : Int) + 2) * ((n2 : Int) + 1) ∧ ((n1 : Int) + 2) * ((n2 : Int) + 1) ≤ 16789506) := mul_small (a := n1) (b := n2) hl1 hl2
  have hmul : wrap64 (((n1 : Int) + 2) * ((n2 : Int) + 1)) = (((n1 + 2) * (n2 + 1) : Nat) : Int) := by
    obtain ⟨p, q⟩ := HM.out
    have e : (((n1 + 2) * (n2 + 1) : Nat) : Int) = ((n1 : Int) + 2) * ((n2 : Int) + 1) := by simp
    rw [e]
    unfold wrap64
    omega
  have hNle := HF.out.all
  have HN : Hid ((n1 + 2) * (n2 + 1) = (n1 + 2) * (n2 + 1)) := rfl
  have hN0 : 0 < (n1 + 2) * (n2 + 1) := Nat.mul_pos (by omega) (by omega)
  obtain ⟨gv, cv, rfl, _, _, hNc, hcm, hcells⟩ := own_shape hown hN0
  have HC : Hid (∀ j, j < (n1 + 2) * (n2 + 1) → ∀ u, (strs (namesL (baseL g r n1 f1) f2 n2))[j]? = some u → w3.cell? ⟨gv, j, none⟩ = some u) := hcells
  have HS1 : Hid (Strs w3 d1 n1 w.heap.size 0 f1) := hS1'.later hbel3
  have HS2 : Hid (Strs w3 d2 n2 w1.heap.size 0 f2) := hS2.later hbel3
  clear hcells hown hS1 hS1' hS2 hbel1 hbel2 hbel3 H3 hNc hcm
  generalize hNe : (n1 + 2) * (n2 + 1) = N at hmul hNle hN0 HC ⊢
  have HNe : Hid ((n1 + 2) * (n2 + 1) = N) := hNe
  clear hNe HN
  go_wp2
  go_loop [11] (fun i => ∃ k : Nat, k ≤ N ∧ i = .int .i64 k) (fun i => N - (intOf i).toNat)
  case atStart => exact ⟨0, Nat.zero_le _, rfl⟩
  case round =>
    clear hmul
    obtain ⟨k, hk, rfl⟩ := hrel
    by_cases hlt : k < N
    · obtain ⟨q, j, hj, hkq⟩ : ∃ q j, j < n1 + 2 ∧ k = (n1 + 2) * q + j := ⟨k / (n1 + 2), k % (n1 + 2), Nat.mod_lt _ (by omega), (Nat.div_add_mod k (n1 + 2)).symm⟩
      have hltz : (k : Int) < (N : Int) := by omega
      have hq : q ≤ n2 := by
        have h1 : (n1 + 2) * q < (n1 + 2) * (n2 + 1) := by rw [HNe.out]; omega
        have := Nat.lt_of_mul_lt_mul_left h1
        omega
      have hmod : (k : Int).tmod ((n1 : Int) + 2) = (j : Int) := tmod_of hj hkq
      have hdiv : (k : Int).tdiv ((n1 : Int) + 2) = (q : Int) := tdiv_of hj hkq
      have HK : Hid (∀ x, (baseL g r n1 f1)[j]? = some x → w3.cell? ⟨gv, k, none⟩ = some (.string (if q = 0 then x else f2 (q - 1) ++ dot ++ x))) := fun x hx => HC.out k hlt _ (by rw [hkq]; exact name_at g r n1 f1 f2 n2 q j x hx hq)
      clear hkq
      have hcase : j = n1 + 1 ∨ (∃ i, j = i + 1 ∧ i < n1) ∨ j = 0 := by
        rcases Nat.eq_zero_or_pos j with h | h
        · exact .inr (.inr h)
        · by_cases h2 : j = n1 + 1
          · exact .inl h2
          · exact .inr (.inl ⟨j - 1, by omega, by omega⟩)
      rcases hcase with rfl | ⟨i, rfl, hi⟩ | rfl
      · have hx := HK.out r (baseL_last ..)
        rcases Nat.eq_zero_or_pos q with hq0 | hq0
        · subst hq0
          rw [if_pos rfl] at hx
          go_wp2
          go_round
          case rel => exact ⟨k + 1, by omega, by go_num⟩
          case measure => simp [intOf]; omega
        · obtain ⟨p, rfl⟩ : ∃ p, q = p + 1 := ⟨q - 1, by omega⟩
          rw [if_neg (by omega), Nat.add_sub_cancel] at hx
          unfold dot at hx
          obtain ⟨hs1, hs2, _⟩ := HS2.out
          obtain rfl : d2 = some ⟨w1.heap.size, 0, none⟩ := hs1 (by omega)
          have hcs : w3.cell? ⟨w1.heap.size, p, none⟩ = some (.string (f2 p)) := by have h := hs2 p (by omega); rwa [Nat.zero_add] at h
          have hz1 := HF.out.s2 p (by omega)
          have hz2 : r.size ≤ 1048576 := HF.out.r
          clear hs1 hs2
          have hpz : (p : Int) < (n2 : Int) := by omega
          go_wp2
          go_round
          case rel => exact ⟨k + 1, by omega, by go_num⟩
          case measure => simp [intOf]; omega
      · have hx := HK.out (f1 i) (baseL_mid _ _ _ _ _ hi)
        obtain ⟨hs3, hs4, _⟩ := HS1.out
        obtain rfl : d1 = some ⟨w.heap.size, 0, none⟩ := hs3 (by omega)
        have hca : w3.cell? ⟨w.heap.size, i, none⟩ = some (.string (f1 i)) := by have h := hs4 i hi; rwa [Nat.zero_add] at h
        clear hs3 hs4
        have hiz : (i : Int) < (n1 : Int) := by omega
        rcases Nat.eq_zero_or_pos q with hq0 | hq0
        · subst hq0
          rw [if_pos rfl] at hx
          go_wp2
          go_round
          case rel => exact ⟨k + 1, by omega, by go_num⟩
          case measure => simp [intOf]; omega
        · obtain ⟨p, rfl⟩ : ∃ p, q = p + 1 := ⟨q - 1, by omega⟩
          rw [if_neg (by omega), Nat.add_sub_cancel] at hx
          unfold dot at hx
          obtain ⟨hs1, hs2, _⟩ := HS2.out
          obtain rfl : d2 = some ⟨w1.heap.size, 0, none⟩ := hs1 (by omega)
          have hcs : w3.cell? ⟨w1.heap.size, p, none⟩ = some (.string (f2 p)) := by have h := hs2 p (by omega); rwa [Nat.zero_add] at h
          have hz1 := HF.out.s2 p (by omega)
          have hz2 : (f1 i).size ≤ 1048576 := HF.out.s1 i hi
          clear hs1 hs2
          have hpz : (p : Int) < (n2 : Int) := by omega
          go_wp2
          go_round
          case rel => exact ⟨k + 1, by omega, by go_num⟩
          case measure => simp [intOf]; omega
      · have hx := HK.out g (baseL_first ..)
        rcases Nat.eq_zero_or_pos q with hq0 | hq0
        · subst hq0
          rw [if_pos rfl] at hx
          go_wp2
          go_round
          case rel => exact ⟨k + 1, by omega, by go_num⟩
          case measure => simp [intOf]; omega
        · obtain ⟨p, rfl⟩ : ∃ p, q = p + 1 := ⟨q - 1, by omega⟩
          rw [if_neg (by omega), Nat.add_sub_cancel] at hx
          unfold dot at hx
          obtain ⟨hs1, hs2, _⟩ := HS2.out
          obtain rfl : d2 = some ⟨w1.heap.size, 0, none⟩ := hs1 (by omega)
          have hcs : w3.cell? ⟨w1.heap.size, p, none⟩ = some (.string (f2 p)) := by have h := hs2 p (by omega); rwa [Nat.zero_add] at h
          have hz1 := HF.out.s2 p (by omega)
          have hz2 : g.size ≤ 1048576 := HF.out.g
          clear hs1 hs2
          have hpz : (p : Int) < (n2 : Int) := by omega
          go_wp2
          go_round
          case rel => exact ⟨k + 1, by omega, by go_num⟩
          case measure => simp [intOf]; omega
    · obtain rfl : k = N := by omega
      go_wp2
      go_ret
      exact ⟨rfl, HBEL.out⟩

end Go.Proofs.Qxb6000104a

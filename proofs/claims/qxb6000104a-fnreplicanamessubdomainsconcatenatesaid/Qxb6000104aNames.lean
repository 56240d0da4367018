/-
  The walk of replicaNames (27), with its plain answer.
-/
import Derived.Test.Qxb6000104aFits
namespace Go.Proofs.Qxb6000104a
open Go.RowKit

def strs (l : List ByteArray) : List Value := l.map Value.string
def baseL (g r : ByteArray) (n : Nat) (f : Nat → ByteArray) : List ByteArray := g :: ((List.range n).map f ++ [r])
def dot : ByteArray := ⟨#[46]⟩
def blk (B : List ByteArray) (s : ByteArray) : List ByteArray := B.map fun x => s ++ dot ++ x
def namesL (B : List ByteArray) (f : Nat → ByteArray) : Nat → List ByteArray
  | 0 => B
  | k + 1 => namesL B f k ++ blk B (f k)

theorem strs_src {w : World} {a : Option Addr} {n c b off : Nat} {f : Nat → ByteArray} (h : Strs w a n b off f) (ha : a = none → n = 0) : Src Try.prog 1 28 (.slice a n c) n (strs ((List.range n).map f)) w := by
  cases a with
  | none =>
    obtain rfl := ha rfl
    exact Src.ofNil w Try.underlying28 c
  | some x =>
    refine Src.ofSlice w Try.underlying28 x n c _ (by simp [strs]) (fun j u hu => ?_) (fun u hu => ?_)
    · have hj : j < n := by
        have := (List.getElem?_eq_some_iff.1 hu).1
        simpa [strs] using this
      have hx : x = ⟨b, off, none⟩ := by simpa using h.1 (by omega)
      subst hx
      rw [Addr.add_lit, h.2.1 j hj]
      simp [strs, hj] at hu
      rw [hu]
    · simp only [strs, List.mem_map] at hu
      obtain ⟨s, _, rfl⟩ := hu
      rfl

theorem own_one (w : World) (v : Value) (B : Nat) (hB : B ≤ w.heap.size) : (w.alloc (.cells #[v] 9)).ownsRow B 9 1 (.slice (some ⟨w.heap.size, 0, none⟩) 1 1) 1 [v] :=
  ⟨rfl, .inr ⟨w.heap.size, 1, #[v], rfl, hB, heap_alloc_new w _, Nat.le_refl _, by unfold maxLen; omega, rfl, rfl⟩⟩
theorem one_src (w : World) (s : ByteArray) : Src Try.prog 1 28 (.slice (some ⟨w.heap.size, 0, none⟩) 1 1) 1 [.string s] (w.alloc (.cells #[.string s] 9)) :=
  Src.ofSlice _ Try.underlying28 _ 1 1 _ rfl (cell_one_new _ _ _) (fun u hu => by simp at hu; subst hu; rfl)

theorem strs_append (a b : List ByteArray) : strs (a ++ b) = strs a ++ strs b := by simp [strs]
theorem strs_take (a : List ByteArray) (n : Nat) : (strs a).take n = strs (a.take n) := by simp [strs, List.map_take]
theorem strs_at {l : List ByteArray} {j : Nat} (h : j < l.length) : (strs l)[j]? = some (.string l[j]) := by simp [strs, h]

/-- What the names are in the middle of the round for subdomain k, behind t of its names. -/
def mid (B : List ByteArray) (f : Nat → ByteArray) (k t : Nat) : List ByteArray := namesL B f k ++ (blk B (f k)).take t
theorem mid_zero (B : List ByteArray) (f : Nat → ByteArray) (k : Nat) : mid B f k 0 = namesL B f k := by simp [mid]
theorem mid_all (B : List ByteArray) (f : Nat → ByteArray) (k : Nat) : mid B f k B.length = namesL B f (k + 1) := by
  unfold mid
  rw [List.take_of_length_le (by simp [blk])]
  rfl
theorem mid_succ (B : List ByteArray) (f : Nat → ByteArray) (k t : Nat) (h : t < B.length) : mid B f k (t + 1) = mid B f k t ++ [f k ++ dot ++ B[t]] := by
  unfold mid
  rw [List.take_succ_eq_append_getElem (by simpa [blk] using h), List.append_assoc]
  simp [blk]
theorem namesL_front (B : List ByteArray) (f : Nat → ByteArray) (k : Nat) : (namesL B f k).take B.length = B := by
  induction k with
  | zero => simp [namesL]
  | succ k ih =>
    have hl : B.length ≤ (namesL B f k).length := by
      have := congrArg List.length ih
      rw [List.length_take] at this
      omega
    simp only [namesL]
    rw [List.take_append_of_le_length hl, ih]
theorem mid_front (B : List ByteArray) (f : Nat → ByteArray) (k t : Nat) : (mid B f k t).take B.length = B := by
  have ih := namesL_front B f k
  have hl : B.length ≤ (namesL B f k).length := by
    have := congrArg List.length ih
    rw [List.length_take] at this
    omega
  unfold mid
  rw [List.take_append_of_le_length hl, ih]
theorem baseL_length (g r : ByteArray) (n : Nat) (f : Nat → ByteArray) : (baseL g r n f).length = n + 2 := by simp [baseL]
theorem baseL_size {g r : ByteArray} {n1 n2 : Nat} {f1 f2 : Nat → ByteArray} (hF : Fits g r n1 f1 n2 f2) : ∀ x ∈ baseL g r n1 f1, x.size ≤ 1048576 := by
  intro x hx
  simp only [baseL, List.mem_cons, List.mem_append, List.mem_map, List.mem_range, List.not_mem_nil, or_false] at hx
  rcases hx with rfl | ⟨i, hi, rfl⟩ | rfl
  · exact hF.g
  · exact hF.s1 i hi
  · exact hF.r

set_option maxHeartbeats 1000000 in
theorem names_any (g r : ByteArray) (a1 : Option Addr) (b1 o1 n1 c1 : Nat) (f1 : Nat → ByteArray) (a2 : Option Addr) (b2 o2 n2 c2 : Nat) (f2 : Nat → ByteArray) (w : World)
    (hF : Fits g r n1 f1 n2 f2) (h1 : Strs w a1 n1 b1 o1 f1) (ha1 : a1 = none → n1 = 0) (h2 : Strs w a2 n2 b2 o2 f2) :
    Calls Try.prog 27 #[.string g, .string r, .slice a1 n1 c1, .slice a2 n2 c2] w fun e w' => (∃ v, e = .returned v ∧ w'.ownsRow w.heap.size 9 1 v ((n1 + 2) * (n2 + 1)) (strs (namesL (baseL g r n1 f1) f2 n2))) ∧ Below w.heap.size w w' := by
  have H1 : Hid (Strs w a1 n1 b1 o1 f1 ∧ (a1 = none → n1 = 0)) := ⟨h1, ha1⟩
  have H2 : Hid (Strs w a2 n2 b2 o2 f2) := h2
  have HF : Hid (Fits g r n1 f1 n2 f2) := hF
  have hl1 := hF.l1
  have hl2 := hF.l2
  have HBs : Hid (∀ x ∈ baseL g r n1 f1, x.size ≤ 1048576) := baseL_size hF
  have HBl : Hid ((baseL g r n1 f1).length = n1 + 2) := baseL_length ..
  have HB0 : Hid (strs (baseL g r n1 f1) = [.string g] ++ strs ((List.range n1).map f1) ++ [.string r]) := by simp [baseL, strs, Hid]
  clear h1 ha1 h2 hF
  generalize baseL g r n1 f1 = B at HBs HBl HB0 ⊢
  go_enter Try.func27, Try.ntmps27
  go_wp2_with (at_builtin; refine wpList_append_src _ rfl _ _ 28 28 rfl w.heap.size 9 (.string ByteArray.empty) 16 Try.underlying28 info9 rfl _ 1 [.string g] rfl (own_one w (.string g) _ (Nat.le_refl _)) _ n1 (strs ((List.range n1).map f1)) rfl (strs_src (H1.out.1.later ((Below.refl _ _).alloc (Nat.le_refl _) _)) H1.out.2) ?c1 ?c2 ?c3 ?c4 ?_)
  case c1 => intro h; cases h
  case c2 => unfold maxLen; omega
  case c3 => omega
  case c4 => simp
  intro v1 w1 hown1 hgr1 _
  have hbel1 : Below w.heap.size w w1 := ((Below.refl _ w).alloc (Nat.le_refl _) _).grown hgr1 (by simp) (fun k hk => by cases hk; exact Nat.le_refl _)
  clear hgr1
  go_wp2_with (at_builtin; (refine wpList_append_src _ rfl _ _ 28 28 rfl w.heap.size 9 (.string ByteArray.empty) 16 Try.underlying28 info9 rfl _ (1 + n1) _ rfl (hown1.alloc _) _ 1 [.string r] rfl (one_src w1 r) ?d1 ?d2 ?d3 ?d4 ?_))
  case d1 => intro h; omega
  case d2 => unfold maxLen; omega
  case d3 => omega
  case d4 => have := hbel1.size; simp; omega
  intro v2 w2 hown2 hgr2 _
  have hbel2 : Below w.heap.size w w2 := (hbel1.alloc hbel1.size _).grown hgr2 (by have := hbel1.size; simp; omega) (fun k hk => (hown1.lt k hk).1)
  have hex : ∃ g2 cap2, v2 = .slice (some ⟨g2, 0, none⟩) (n1 + 2) cap2 ∧ w2.ownsRow w.heap.size 9 1 (.slice (some ⟨g2, 0, none⟩) (n1 + 2) cap2) (n1 + 2) (strs B) := by
    have e : [Value.string g] ++ strs ((List.range n1).map f1) ++ [Value.string r] = strs B := HB0.out.symm
    have h : w2.ownsRow w.heap.size 9 1 v2 (n1 + 2) (strs B) := by
      rw [← e, show n1 + 2 = 1 + n1 + 1 by omega]
      exact hown2
    obtain ⟨g2, cap2, hv, _⟩ := own_shape h (by omega)
    exact ⟨g2, cap2, hv, hv ▸ h⟩
  obtain ⟨g2, cap2, rfl, hown3⟩ := hex
  clear hown2 hgr2 hbel1 hown1 HB0
  go_wp2
  go_loopw [9, 27] (fun v i wr => ∃ k : Nat, k ≤ n2 ∧ i = .int .i64 k ∧ wr.ownsRow w.heap.size 9 1 v ((n1 + 2) * (k + 1)) (strs (namesL B f2 k)) ∧ Below w.heap.size w wr) (fun _ i _ => n2 - (intOf i).toNat)
  case atStart => exact ⟨0, Nat.zero_le _, rfl, by simpa [namesL] using hown3, hbel2⟩
  case round =>
    clear hown3 hbel2
    obtain ⟨k, hk, rfl, hown, hbel⟩ := hrel
    by_cases hlt : k < n2
    · have hN : (n1 + 2) * (k + 1) + (n1 + 2) ≤ 1048576 := by
        have h := HF.out.all
        have h2 : (n1 + 2) * (k + 1 + 1) ≤ (n1 + 2) * (n2 + 1) := Nat.mul_le_mul_left _ (by omega)
        rw [Nat.mul_add _ (k + 1) 1] at h2
        omega
      have hN0 : n1 + 2 ≤ (n1 + 2) * (k + 1) := Nat.le_mul_of_pos_right _ (by omega)
      have HN : Hid ((n1 + 2) * (k + 1) + (n1 + 2) = (n1 + 2) * (k + 1 + 1)) := by show _ = _; rw [Nat.mul_add _ (k + 1) 1]; omega
      generalize (n1 + 2) * (k + 1) = N at hown hN hN0 HN
      obtain ⟨gk, capk, rfl, hgk, _, hNc, hcm, _⟩ := own_shape hown (by omega)
      obtain ⟨ha, hc, _⟩ := H2.out
      obtain rfl := ha (by omega)
      have hcx : wr.cell? ⟨b2, o2 + k, none⟩ = some (.string (f2 k)) := cell_later hbel (hc k hlt)
      have hsk := HF.out.s2 k hlt
      clear ha hc
      unfold maxLen at hcm
      have hltz : (k : Int) < (n2 : Int) := by omega
      have hfr : wr.ownsRow w.heap.size 9 1 (.slice (some ⟨gk, 0, none⟩) (n1 + 2) capk) (n1 + 2) (strs B) := by
        have h := own_front (m := n1 + 2) hown (by omega)
        rwa [strs_take, ← HBl.out, namesL_front, HBl.out] at h
      go_wp2
      go_loopw [9, 35] (fun v i wi => ∃ t : Nat, t ≤ n1 + 2 ∧ i = .int .i64 t ∧ wi.ownsRow w.heap.size 9 1 v (N + t) (strs (mid B f2 k t)) ∧ wi.ownsRow w.heap.size 9 1 (.slice (some ⟨gk, 0, none⟩) (n1 + 2) capk) (n1 + 2) (strs B) ∧ Below w.heap.size w wi) (fun _ i _ => n1 + 2 - (intOf i).toNat)
      case atStart => exact ⟨0, Nat.zero_le _, rfl, by rw [mid_zero]; exact hown, hfr, hbel⟩
      case round =>
        clear hown hfr hbel hcx
        obtain ⟨t, ht, rfl, hown, hfr, hbel⟩ := hrel
        by_cases htl : t < n1 + 2
        · have htB : t < B.length := by rw [HBl.out]; exact htl
          obtain ⟨gq, cq, hv, _, _, _, _, hcells⟩ := own_shape hfr (by omega)
          have hcy : wr.cell? ⟨gk, t, none⟩ = some (.string B[t]) := by
            simp only [Value.slice.injEq, Option.some.injEq, Addr.mk.injEq, true_and, and_true] at hv
            obtain ⟨rfl, rfl⟩ := hv
            exact hcells t (by omega) _ (strs_at htB)
          have hsb := HBs.out B[t] (List.getElem_mem htB)
          have HMS : Hid (strs (mid B f2 k (t + 1)) = strs (mid B f2 k t) ++ [.string (f2 k ++ dot ++ B[t])]) := by show _ = _; rw [mid_succ B f2 k t htB, strs_append]; rfl
          generalize B[t] = x at hcy hsb HMS
          clear hv hcells
          have htz : (t : Int) < (n1 : Int) + 2 := by omega
          go_wp2_with (at_builtin; (refine wpList_append_src _ rfl _ _ 28 28 rfl w.heap.size 9 (.string ByteArray.empty) 16 Try.underlying28 info9 rfl _ (N + t) _ rfl (hown.alloc _) _ 1 [.string (f2 k ++ dot ++ x)] rfl (one_src wr (f2 k ++ dot ++ x)) ?e1 ?e2 ?e3 ?e4 ?_))
          case e1 => intro h; omega
          case e2 => unfold maxLen; omega
          case e3 => omega
          case e4 => have := hbel.size; simp; omega
          intro v' w' hown' hgr' hold'
          have hbel' : Below w.heap.size w w' := (hbel.alloc hbel.size _).grown hgr' (by have := hbel.size; simp; omega) (fun k hk => (hown.lt k hk).1)
          have hfr' : w'.ownsRow w.heap.size 9 1 (.slice (some ⟨gk, 0, none⟩) (n1 + 2) capk) (n1 + 2) (strs B) := by
            have e : (strs (mid B f2 k t)).take (n1 + 2) = strs B := by rw [strs_take, ← HBl.out, mid_front]
            have h := front_kept (m := n1 + 2) (n := N + t) (by rw [e]; exact hfr.alloc _) (by omega) hgr' (hown.alloc _) hold'
            rwa [e] at h
          have hown2' : w'.ownsRow w.heap.size 9 1 v' (N + (t + 1)) (strs (mid B f2 k (t + 1))) := by rw [HMS.out]; exact hown'
          clear hown' hgr' hold' hown hfr hbel hcy
          go_wp2
          go_roundw
          case rel => exact ⟨t + 1, by omega, by go_num, hown2', hfr', hbel'⟩
          case measure => simp [intOf]; omega
        · obtain rfl : t = n1 + 2 := by omega
          have hown2 : wr.ownsRow w.heap.size 9 1 u9 ((n1 + 2) * (k + 1 + 1)) (strs (namesL B f2 (k + 1))) := by
            rw [← mid_all, HBl.out, ← HN.out]; exact hown
          clear hown hfr
          go_wp2
          go_roundw
          case rel => exact ⟨k + 1, by omega, by go_num, hown2, hbel⟩
          case measure => simp [intOf]; omega
    · obtain rfl : k = n2 := by omega
      go_wp2
      go_ret
      exact ⟨⟨_, rfl, hown⟩, hbel⟩

end Go.Proofs.Qxb6000104a

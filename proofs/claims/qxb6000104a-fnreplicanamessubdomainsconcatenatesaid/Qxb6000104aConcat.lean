/-
  The walk of FnReplicaNamesSubdomainsConcatenate (8).
-/
import Derived.Test.Qxb6000104aBoth
import Derived.Test.Qxb6000104aZz22
namespace Go.Proofs.Qxb6000104a
open Go.RowKit

theorem made_own (w : World) (n : Nat) (B : Nat) (hB : B ≤ w.heap.size) (hn : n ≤ 4096) : (w.alloc (.cells (madeCells #[.string ByteArray.empty] n) 9)).ownsRow B 9 1 (.slice (some ⟨w.heap.size, 0, none⟩) 0 n) 0 (strs []) :=
  World.ownsRow_made w _ n hB (by unfold maxLen; omega) (by simp [size_madeCells])

theorem range_snoc (f : Nat → ByteArray) (l : List ByteArray) (k : Nat) : strs (l ++ (List.range (k + 1)).map f) = strs (l ++ (List.range k).map f) ++ [.string (f k)] := by
  rw [List.range_succ, List.map_append, ← List.append_assoc, strs_append]; rfl
theorem range_snoc0 (f : Nat → ByteArray) (k : Nat) : strs ((List.range (k + 1)).map f) = strs ((List.range k).map f) ++ [.string (f k)] := by
  rw [List.range_succ, List.map_append, strs_append]; rfl
theorem Strs.congr {w : World} {a : Option Addr} {n b off : Nat} {f f' : Nat → ByteArray} (h : Strs w a n b off f) (e : ∀ i, i < n → f i = f' i) : Strs w a n b off f' :=
  ⟨h.1, fun i hi => by rw [← e i hi]; exact h.2.1 i hi, fun i hi => by rw [← e i hi]; exact h.2.2 i hi⟩
theorem both_getD (n m : Nat) (f f' : Nat → ByteArray) (i : Nat) (hi : i < n + m) : ((List.range n).map f ++ (List.range m).map f').getD i ByteArray.empty = both n f f' i := by
  unfold both
  rw [List.getD_eq_getElem?_getD]
  by_cases h : i < n
  · rw [List.getElem?_append_left (by simpa using h)]; simp [h]
  · rw [List.getElem?_append_right (by simpa using h)]; simp [h, show i - n < m by omega]
theorem both_sizes {n m : Nat} {f f' : Nat → ByteArray} (h : ∀ i, i < n → (f i).size ≤ 9223372036854775807) (h' : ∀ i, i < m → (f' i).size ≤ 9223372036854775807) : ∀ x ∈ (List.range n).map f ++ (List.range m).map f', x.size ≤ 9223372036854775807 := by
  intro x hx
  simp only [List.mem_append, List.mem_map, List.mem_range] at hx
  rcases hx with ⟨i, hi, rfl⟩ | ⟨i, hi, rfl⟩
  · exact h i hi
  · exact h' i hi

theorem own_strs' {w : World} {base : Nat} {v : Value} {n : Nat} {l : List ByteArray} (h : w.ownsRow base 9 1 v n (strs l)) (hs : ∀ x ∈ l, x.size ≤ 9223372036854775807) (h0 : 0 < n) :
    ∃ g cap, v = .slice (some ⟨g, 0, none⟩) n cap ∧ Strs w (some ⟨g, 0, none⟩) n g 0 (fun i => l.getD i ByteArray.empty) ∧ n ≤ cap ∧ cap ≤ maxLen ∧ l.length = n := by
  have hl : l.length = n := by have := h.1; simpa [strs] using this
  obtain ⟨a, b, c, rfl, hS, hnc, hcm⟩ := own_strs h hs
  have ha := hS.1 h0
  subst ha
  obtain ⟨g, cap, hv, _⟩ := own_shape h h0
  simp only [Value.slice.injEq, Option.some.injEq, Addr.mk.injEq, true_and, and_true] at hv
  exact ⟨b, c, rfl, hS, hnc, hcm, hl⟩
theorem Strs.upto {w : World} {a : Option Addr} {n m b off : Nat} {f : Nat → ByteArray} (h : Strs w a n b off f) (hm : m ≤ n) : Strs w a m b off f :=
  ⟨fun h0 => h.1 (by omega), fun i hi => h.2.1 i (by omega), fun i hi => h.2.2 i (by omega)⟩
theorem Strs.behind {w : World} {n m b : Nat} {f : Nat → ByteArray} (h : Strs w (some ⟨b, 0, none⟩) n b 0 f) (hm : m ≤ n) : Strs w (some ⟨b, m, none⟩) (n - m) b m (fun i => f (m + i)) :=
  ⟨fun _ => rfl, fun i hi => by have := h.2.1 (m + i) (by omega); rwa [Nat.zero_add] at this, fun i hi => h.2.2 (m + i) (by omega)⟩
theorem Strs.zero {w : World} {a : Option Addr} {b off : Nat} {f : Nat → ByteArray} : Strs w a 0 b off f := ⟨fun h => by omega, fun i hi => by omega, fun i hi => by omega⟩
theorem same_eq (a a' : Option Addr) (b off n c b' off' n' c' : Nat) (f : Nat → ByteArray) (w : World) (hnn : n = n') (hn : n ≤ 1048576) (hB : Strs w a n b off f) (hB' : Strs w a' n' b' off' f) :
    Calls Try.prog 24 #[.slice a n c, .slice a' n' c'] w fun e w' => e = .returned (.bool true) ∧ ∃ m, w' = w.drewN m := by
  subst hnn
  exact same_any a a' b off n c b' off' c' f w hn hB hB'
theorem getD_left (l l' : List ByteArray) (i : Nat) (h : i < l.length) : (l ++ l').getD i ByteArray.empty = l.getD i ByteArray.empty := by
  rw [List.getD_eq_getElem?_getD, List.getD_eq_getElem?_getD, List.getElem?_append_left h]
theorem getD_right (l l' : List ByteArray) (i : Nat) : (l ++ l').getD (l.length + i) ByteArray.empty = l'.getD i ByteArray.empty := by
  rw [List.getD_eq_getElem?_getD, List.getD_eq_getElem?_getD, List.getElem?_append_right (by omega), Nat.add_sub_cancel_left]

set_option maxRecDepth 100000 in
set_option maxHeartbeats 2000000 in
theorem concat_main (g r : ByteArray) (a1 : Option Addr) (b1 o1 n1 c1 : Nat) (f1 : Nat → ByteArray) (a3 : Option Addr) (b3 o3 n3 c3 : Nat) (f3 : Nat → ByteArray) (a4 : Option Addr) (b4 o4 n4 c4 : Nat) (f4 : Nat → ByteArray) (w : World)
    (hg : g.size ≤ 9223372036854775807) (hr : r.size ≤ 9223372036854775807) (hn1 : n1 ≤ 9223372036854775807) (hn3 : n3 ≤ 9223372036854775807) (hn4 : n4 ≤ 9223372036854775807) (h1 : Strs w a1 n1 b1 o1 f1) (ha1 : a1 = none → n1 = 0 ∧ c1 = 0) (h3 : Strs w a3 n3 b3 o3 f3) (ha3 : a3 = none → n3 = 0 ∧ c3 = 0) (h4 : Strs w a4 n4 b4 o4 f4) (ha4 : a4 = none → n4 = 0 ∧ c4 = 0) :
    Calls Try.prog 8 #[.string g, .string r, .slice a1 n1 c1, .slice a3 n3 c3, .slice a4 n4 c4] w fun e w' => e = .returned (.bool true) ∧ Below w.heap.size w w' := by
  have H1 : Hid (Strs w a1 n1 b1 o1 f1 ∧ (a1 = none → n1 = 0 ∧ c1 = 0)) := ⟨h1, ha1⟩
  have H3 : Hid (Strs w a3 n3 b3 o3 f3 ∧ (a3 = none → n3 = 0 ∧ c3 = 0)) := ⟨h3, ha3⟩
  have H4 : Hid (Strs w a4 n4 b4 o4 f4 ∧ (a4 = none → n4 = 0 ∧ c4 = 0)) := ⟨h4, ha4⟩
  clear h1 ha1 h3 ha3 h4 ha4
  go_enter Try.func8, Try.ntmps8
  go_wp2_with fail
  refine (zz22 g r a1 b1 o1 n1 c1 f1 a3 b3 o3 n3 c3 f3 a4 b4 o4 n4 c4 f4 w hg hr hn1 hn3 hn4 H1.out.1 H3.out.1 H4.out.1).mono ?_
  rintro e w' ⟨⟨q, rfl⟩, hw⟩
  subst hw
  cases q
  · go_wp2_with fail
    go_ret
    exact ⟨rfl, Below.refl _ _⟩
  by_cases hl1 : 4096 < n1
  · go_wp2_with fail
    go_ret
    exact ⟨rfl, Below.refl _ _⟩
  by_cases hl3 : 4096 < n3
  · go_wp2_with fail
    go_ret
    exact ⟨rfl, Below.refl _ _⟩
  by_cases hl4 : 4096 < n4
  · go_wp2_with fail
    go_ret
    exact ⟨rfl, Below.refl _ _⟩
  by_cases hl34 : 4096 < n3 + n4
  · go_wp2_with fail
    go_ret
    exact ⟨rfl, Below.refl _ _⟩
  by_cases hgs : 1048576 < g.size
  · go_wp2_with fail
    go_ret
    exact ⟨rfl, Below.refl _ _⟩
  by_cases hrs : 1048576 < r.size
  · go_wp2_with fail
    go_ret
    exact ⟨rfl, Below.refl _ _⟩
  go_wp2_with fail
  refine (bytes_any a1 b1 o1 n1 c1 f1 _ (by omega) H1.out.1).mono ?_
  rintro e w ⟨⟨T1, rfl, ht1, _⟩, hw⟩
  subst hw
  go_wp2_with fail
  refine (bytes_any a3 b3 o3 n3 c3 f3 _ (by omega) H3.out.1).mono ?_
  rintro e w' ⟨⟨T3, rfl, ht3, hall3⟩, hw⟩
  subst hw
  have HA3 : Hid (T3 ≤ 1048576 → ∀ i, i < n3 → (f3 i).size ≤ 1048576) := hall3
  clear hall3
  go_wp2_with fail
  refine (bytes_any a4 b4 o4 n4 c4 f4 _ (by omega) H4.out.1).mono ?_
  rintro e w ⟨⟨T4, rfl, ht4, hall4⟩, hw⟩
  subst hw
  have HA4 : Hid (T4 ≤ 1048576 → ∀ i, i < n4 → (f4 i).size ≤ 1048576) := hall4
  clear hall4
  by_cases hT : 1048576 < g.size + r.size + T1 + T3 + T4
  · go_wp2_with fail
    go_ret
    exact ⟨rfl, Below.refl _ _⟩
  go_wp2_with fail
  refine (clone_any a1 b1 o1 n1 c1 f1 w (by omega) H1.out.2 H1.out.1).mono ?_
  rintro e w1 ⟨d1, rfl, hS1, hd1, hbel1⟩
  go_wp2_with fail
  refine (clone_any a3 b3 o3 n3 c3 f3 w1 (by omega) H3.out.2 (H3.out.1.later hbel1)).mono ?_
  rintro e w2 ⟨d3, rfl, hS3, hd3, hbel2⟩
  have hbel12 : Below w.heap.size w w2 := hbel1.trans (hbel2.mono hbel1.size)
  go_wp2_with fail
  refine (clone_any a4 b4 o4 n4 c4 f4 w2 (by omega) H4.out.2 (H4.out.1.later hbel12)).mono ?_
  rintro e w3 ⟨d4, rfl, hS4, hd4, hbel3⟩
  have hbel13 : Below w.heap.size w w3 := hbel12.trans (hbel3.mono hbel12.size)
  have hT1 : Strs w3 d1 n1 w.heap.size 0 f1 := (hS1.later hbel2).later hbel3
  have hT3 : Strs w3 d3 n3 w1.heap.size 0 f3 := hS3.later hbel3
  clear hS1 hS3 hbel1 hbel2 hbel12 hbel3 hn1 hn3 hn4 hg hr
  have hmk : ∀ w : World, (Instr.makeSlice 28 (.int .i64 0) (.int .i64 ((n3 : Int) + (n4 : Int)))).run Try.prog w = .ok (.slice (some ⟨w.heap.size, 0, none⟩) 0 (n3 + n4)) (w.alloc (.cells (madeCells #[.string ByteArray.empty] (n3 + n4)) 9)) := fun w => by
    obtain ⟨i, hi, hz, hsz, hby⟩ := info_parts info9
    have h := run_make (P := Try.prog) w 28 9 i _ Try.underlying28 hi hz .i64 .i64 0 ((n3 : Int) + (n4 : Int)) (by omega) (by omega) (by rw [hby]; omega) (by omega)
    rw [show ((n3 : Int) + (n4 : Int)).toNat = n3 + n4 by omega, hsz, Nat.mul_one] at h
    exact h
  go_wp2_with fail
  clear hmk
  go_loopw [11, 12] (fun v i wr => ∃ k : Nat, k ≤ n3 ∧ i = .int .i64 k ∧ wr.ownsRow w3.heap.size 9 1 v k (strs ((List.range k).map f3)) ∧ Below w3.heap.size w3 wr) (fun _ i _ => n3 - (intOf i).toNat)
  case atStart => exact ⟨0, Nat.zero_le _, rfl, made_own w3 (n3 + n4) _ (Nat.le_refl _) (by omega), (Below.refl _ _).alloc (Nat.le_refl _) _⟩
  case round =>
    obtain ⟨k, hk, rfl, hown, hbel⟩ := hrel
    by_cases hlt : k < n3
    · obtain ⟨hs1, hs2, _⟩ := hT3.later hbel
      obtain rfl : d3 = some ⟨w1.heap.size, 0, none⟩ := hs1 (by omega)
      have hcx : wr.cell? ⟨w1.heap.size, k, none⟩ = some (.string (f3 k)) := by have h := hs2 k hlt; rwa [Nat.zero_add] at h
      clear hs1 hs2
      have hltz : (k : Int) < (n3 : Int) := by omega
      go_wp2_with (at_builtin; (refine wpList_append_src _ rfl _ _ 28 28 rfl w3.heap.size 9 (.string ByteArray.empty) 16 Try.underlying28 info9 rfl _ k _ rfl (hown.alloc _) _ 1 [.string (f3 k)] rfl (one_src wr (f3 k)) ?e1 ?e2 ?e3 ?e4 ?_))
      case e1 => intro _; omega
      case e2 => unfold maxLen; omega
      case e3 => omega
      case e4 => have := hbel.size; simp; omega
      intro v' w' hown' hgr' _
      have hbel' : Below w3.heap.size w3 w' := (hbel.alloc hbel.size _).grown hgr' (by have := hbel.size; simp; omega) (fun k hk => (hown.lt k hk).1)
      rw [← range_snoc0] at hown'
      clear hown hgr' hbel hcx
      go_wp2_with fail
      go_roundw
      case rel => exact ⟨k + 1, by omega, by go_num, hown', hbel'⟩
      case measure => simp [intOf]; omega
    · obtain rfl : k = n3 := by omega
      go_wp2_with fail
      go_loopw [11, 13] (fun v i wr => ∃ j : Nat, j ≤ n4 ∧ i = .int .i64 j ∧ wr.ownsRow w3.heap.size 9 1 v (k + j) (strs ((List.range k).map f3 ++ (List.range j).map f4)) ∧ Below w3.heap.size w3 wr) (fun _ i _ => n4 - (intOf i).toNat)
      case atStart => exact ⟨0, Nat.zero_le _, rfl, by simpa using hown, hbel⟩
      case round =>
        clear hown hbel
        obtain ⟨j, hj, rfl, hown, hbel⟩ := hrel
        by_cases hlt2 : j < n4
        · obtain ⟨hs1, hs2, _⟩ := hS4.later hbel
          obtain rfl : d4 = some ⟨w2.heap.size, 0, none⟩ := hs1 (by omega)
          have hcx : wr.cell? ⟨w2.heap.size, j, none⟩ = some (.string (f4 j)) := by have h := hs2 j hlt2; rwa [Nat.zero_add] at h
          clear hs1 hs2
          have hltz : (j : Int) < (n4 : Int) := by omega
          go_wp2_with (at_builtin; (refine wpList_append_src _ rfl _ _ 28 28 rfl w3.heap.size 9 (.string ByteArray.empty) 16 Try.underlying28 info9 rfl _ (k + j) _ rfl (hown.alloc _) _ 1 [.string (f4 j)] rfl (one_src wr (f4 j)) ?e1 ?e2 ?e3 ?e4 ?_))
          case e1 => intro _; omega
          case e2 => unfold maxLen; omega
          case e3 => omega
          case e4 => have := hbel.size; simp; omega
          intro v' w' hown' hgr' _
          have hbel' : Below w3.heap.size w3 w' := (hbel.alloc hbel.size _).grown hgr' (by have := hbel.size; simp; omega) (fun k hk => (hown.lt k hk).1)
          rw [← range_snoc] at hown'
          clear hown hgr' hbel hcx
          go_wp2_with fail
          go_roundw
          case rel => exact ⟨j + 1, by omega, by go_num, hown', hbel'⟩
          case measure => simp [intOf]; omega
        · obtain rfl : j = n4 := by omega
          obtain ⟨av, bv, cv, rfl, hSv0, hjc, hcv⟩ := own_strs hown (both_sizes hT3.2.2 hS4.2.2)
          have hSv : Strs wr av (k + j) bv 0 (both k f3 f4) := hSv0.congr (fun i hi => both_getD k j f3 f4 i hi)
          have hbel4 : Below w.heap.size w wr := hbel13.trans (hbel.mono hbel13.size)
          have hU1 := hT1.later hbel
          have hU3 := hT3.later hbel
          have hU4 := hS4.later hbel
          clear hown hSv0 hT1 hT3 hS4 hbel hbel13
          go_wp2_with fail
          refine (fits_any g r d1 w.heap.size 0 n1 n1 f1 av bv 0 (k + j) cv (both k f3 f4) wr (by omega) (by omega) (by omega) (by omega) hU1 hSv).mono ?_
          rintro e w5 ⟨hq, hw⟩
          subst hw
          rcases hq with rfl | ⟨rfl, hF⟩
          · go_wp2_with fail
            go_ret
            exact ⟨rfl, hbel4⟩
          have HF : Hid (Fits g r n1 f1 (k + j) (both k f3 f4)) := hF
          clear hF
          go_wp2_with (go_at_call 21; go_in)
          refine (names_any g r d1 w.heap.size 0 n1 n1 f1 av bv 0 (k + j) cv (both k f3 f4) w5 HF.out hU1 hd1 hSv).mono ?_
          rintro e w6 ⟨⟨vf, rfl, hownf⟩, hbel6⟩
          obtain ⟨gf, cf, rfl, hSf, hcf1, hcf2, hlf⟩ := own_strs' hownf (namesL_size HF.out) (Nat.mul_pos (by omega) (by omega))
          generalize hNfe : (n1 + 2) * (k + j + 1) = Nf at hSf hcf1 hlf ⊢
          have HNf : Hid ((n1 + 2) * (k + j + 1) = Nf) := hNfe
          clear hNfe
          have hV1 := hU1.later hbel6
          have hV3 := hU3.later hbel6
          have hV4 := hU4.later hbel6
          have hbel7 : Below w.heap.size w w6 := hbel4.trans (hbel6.mono hbel4.size)
          clear hownf hbel6 hbel4 hU1 hU3 hU4 hSv
          go_wp2_with (go_at_call 21; go_in)
          refine (names_any g r d1 w.heap.size 0 n1 n1 f1 d3 w1.heap.size 0 k k f3 w6 (fits_left HF.out) hV1 hd1 hV3).mono ?_
          rintro e w7 ⟨⟨v1, rfl, hown1⟩, hbel8⟩
          obtain ⟨g1, q1, rfl, hS1, hq11, hq12, hlp1⟩ := own_strs' hown1 (namesL_size (fits_left HF.out)) (Nat.mul_pos (by omega) (by omega))
          generalize hN1e : (n1 + 2) * (k + 1) = N1 at hS1 hq11 hlp1 ⊢
          have HN1 : Hid ((n1 + 2) * (k + 1) = N1) := hN1e
          clear hN1e
          have hW1 := hV1.later hbel8
          have hW4 := hV4.later hbel8
          have hSf' := hSf.later hbel8
          have hbel9 : Below w.heap.size w w7 := hbel7.trans (hbel8.mono hbel7.size)
          clear hown1 hbel8 hbel7 hV1 hV3 hV4 hSf
          go_wp2_with (go_at_call 21; go_in)
          refine (names_any g r d1 w.heap.size 0 n1 n1 f1 d4 w2.heap.size 0 j j f4 w7 (fits_right HF.out) hW1 hd1 hW4).mono ?_
          rintro e w8 ⟨⟨v2, rfl, hown2⟩, hbel10⟩
          obtain ⟨g2, q2, rfl, hS2, hq21, hq22, hlp2⟩ := own_strs' hown2 (namesL_size (fits_right HF.out)) (Nat.mul_pos (by omega) (by omega))
          generalize hN2e : (n1 + 2) * (j + 1) = N2 at hS2 hq21 hlp2 ⊢
          have HN2 : Hid ((n1 + 2) * (j + 1) = N2) := hN2e
          clear hN2e
          have hSf2 := hSf'.later hbel10
          have hS12 := hS1.later hbel10
          have hbel11 : Below w.heap.size w w8 := hbel9.trans (hbel10.mono hbel9.size)
          clear hown2 hbel10 hbel9 hW1 hW4 hSf' hS1
          have hNs : Nf + (n1 + 2) = N1 + N2 := by
            rw [← HNf.out, ← HN1.out, ← HN2.out]; simp only [Nat.mul_add]; omega
          have hN2 : n1 + 2 ≤ N2 := by rw [← HN2.out]; exact Nat.le_mul_of_pos_right _ (by omega)
          have hN1 : n1 + 2 ≤ N1 := by rw [← HN1.out]; exact Nat.le_mul_of_pos_right _ (by omega)
          have hNf : Nf ≤ 1048576 := by rw [← HNf.out]; exact HF.out.all
          rw [names_both] at hSf2 hlf
          rw [namesL_tail _ f4] at hS2 hlp2
          have hBl := baseL_length g r n1 f1
          generalize tailL (baseL g r n1 f1) f4 j = T at hSf2 hlf hS2 hlp2
          generalize namesL (baseL g r n1 f1) f3 k = L1 at hSf2 hlf hS12 hlp1
          generalize baseL g r n1 f1 = B at hS2 hlp2 hBl
          have hR1 : Strs w8 (some ⟨gf, 0, none⟩) N1 gf 0 (fun i => L1.getD i ByteArray.empty) := (hSf2.upto (m := N1) (by omega)).congr (fun i hi => getD_left _ _ i (by omega))
          have hR2 : Strs w8 (some ⟨gf, N1, none⟩) (Nf - N1) gf N1 (fun i => T.getD i ByteArray.empty) := (hSf2.behind (m := N1) (by omega)).congr (fun i hi => by rw [← hlp1]; exact getD_right _ _ i)
          have hR3 : Strs w8 (some ⟨g2, n1 + 2, none⟩) (N2 - (n1 + 2)) g2 (n1 + 2) (fun i => T.getD i ByteArray.empty) := (hS2.behind (m := n1 + 2) (by omega)).congr (fun i hi => by rw [← hBl]; exact getD_right _ _ i)
          have HNs : Hid (Nf + (n1 + 2) = N1 + N2) := hNs
          have HL : Hid (Nf - N1 = N2 - (n1 + 2)) := by show _ = _; omega
          have hle1 : N1 ≤ Nf := by omega
          have hne : ((Nf : Int) != (N1 : Int) + (N2 : Int) - ((n1 : Int) + 2)) = false := by simp; omega
          unfold maxLen at hcf2 hq12 hq22
          clear hSf2 hS2 hlf hlp1 hlp2 hBl hNs HA3 HA4 HNf HN1 HN2
          have hN1le : N1 ≤ 1048576 := by omega
          have hN2le : N2 ≤ 1052674 := by have := HNs.out; omega
          go_wp2_with fail
          refine (same_eq (some ⟨gf, 0, none⟩) (some ⟨g1, 0, none⟩) gf 0 N1 cf g1 0 N1 q1 (fun i => L1.getD i ByteArray.empty) w8 rfl (by omega) hR1 hS12).mono ?_
          rintro e w9 ⟨rfl, m9, hw⟩
          have HR2 : Hid (∀ m, Strs (w9.drewN m) (some ⟨gf, N1, none⟩) (Nf - N1) gf N1 (fun i => T.getD i ByteArray.empty)) := fun m => by rw [hw]; exact hR2
          have HR3 : Hid (∀ m, Strs (w9.drewN m) (some ⟨g2, n1 + 2, none⟩) (N2 - (n1 + 2)) g2 (n1 + 2) (fun i => T.getD i ByteArray.empty)) := fun m => by rw [hw]; exact hR3
          have HBEL : Hid (Below w.heap.size w w9) := by rw [hw]; exact below_drewN hbel11 _
          clear hR1 hR2 hR3 hS12 hw hbel11
          go_wp2_with fail
          obtain ⟨M, hM, hM2⟩ : ∃ M : Nat, (n1 : Int) + 2 = (M : Int) ∧ n1 + 2 = M := ⟨n1 + 2, by omega, rfl⟩
          rw [hM]
          clear hM
          rw [hM2] at HR3 HL hN2
          have hHL := HL.out
          clear hne hN1 HNs hM2 hlt hlt2
          have z1 : (N1 : Int) ≤ (Nf : Int) := by omega
          have z2 : (Nf : Int) ≤ (cf : Int) := by omega
          have z3 : (M : Int) ≤ (N2 : Int) := by omega
          have z4 : (N2 : Int) ≤ (q2 : Int) := by omega
          have hsm : Nf - N1 ≤ 1048576 := by omega
          clear hHL
          have HL2 : Hid (cf = N1 → Nf - N1 = 0) := fun h => by omega
          have HL3 : Hid (q2 = M → N2 - M = 0) := fun h => by omega
          have HZ2 : Hid (cf = N1 → ∀ m a b o, Strs (w9.drewN m) a (Nf - N1) b o (fun i => T.getD i ByteArray.empty)) := fun h m a b o => by rw [HL2.out h]; exact Strs.zero
          have HZ3 : Hid (q2 = M → ∀ m a b o, Strs (w9.drewN m) a (N2 - M) b o (fun i => T.getD i ByteArray.empty)) := fun h m a b o => by rw [HL3.out h]; exact Strs.zero
          by_cases hc1 : cf = N1
          · have HX2 : Hid (∀ m a b o, Strs (w9.drewN m) a (Nf - N1) b o (fun i => T.getD i ByteArray.empty)) := HZ2.out hc1
            by_cases hc2 : q2 = M
            · have HX3 : Hid (∀ m a b o, Strs (w9.drewN m) a (N2 - M) b o (fun i => T.getD i ByteArray.empty)) := HZ3.out hc2
              go_quiet ((go_at_call 24; exact Calls.quiet_of (same_eq _ _ gf N1 (Nf - N1) _ g2 M (N2 - M) _ (fun i => T.getD i ByteArray.empty) _ HL.out hsm (HX2.out _ _ _ _) (HX3.out _ _ _ _))))
              go_wp2
              go_ret
              exact ⟨rfl, below_drewN HBEL.out _⟩
            · go_quiet ((go_at_call 24; exact Calls.quiet_of (same_eq _ _ gf N1 (Nf - N1) _ g2 M (N2 - M) _ (fun i => T.getD i ByteArray.empty) _ HL.out hsm (HX2.out _ _ _ _) (HR3.out _))))
              go_wp2
              go_ret
              exact ⟨rfl, below_drewN HBEL.out _⟩
          · by_cases hc2 : q2 = M
            · have HX3 : Hid (∀ m a b o, Strs (w9.drewN m) a (N2 - M) b o (fun i => T.getD i ByteArray.empty)) := HZ3.out hc2
              go_quiet ((go_at_call 24; exact Calls.quiet_of (same_eq _ _ gf N1 (Nf - N1) _ g2 M (N2 - M) _ (fun i => T.getD i ByteArray.empty) _ HL.out hsm (HR2.out _) (HX3.out _ _ _ _))))
              go_wp2
              go_ret
              exact ⟨rfl, below_drewN HBEL.out _⟩
            · go_quiet ((go_at_call 24; exact Calls.quiet_of (same_eq _ _ gf N1 (Nf - N1) _ g2 M (N2 - M) _ (fun i => T.getD i ByteArray.empty) _ HL.out hsm (HR2.out _) (HR3.out _))))
              go_wp2
              go_ret
              exact ⟨rfl, below_drewN HBEL.out _⟩

end Go.Proofs.Qxb6000104a

/-
  The walk of FnSkipValueSkipsBuiltValue (4) on any arguments.
-/
import Derived.Test.Qxb6001689aBuild
import Derived.Test.Qxb6001689aTail
import Derived.Deep.QuietTactic
import Derived.BigQuiet
namespace Go.Proofs.Qxb6001689a
open Go.RowKit

def intsV (Z : List Int) : List Value := Z.map fun z => .int .i64 z
def strsV (S : List ByteArray) : List Value := S.map fun s => .string s

/-- What the walk is told of a slice of bytes that came in. -/
structure Bys (w : World) (a : Option Addr) (n c b o : Nat) (L : List Nat) : Prop where
  len : L.length = n
  nil : a = none → n = 0 ∧ c = 0
  leads : 0 < n → a = some ⟨b, o, none⟩
  cells : Cells w b o (bytesV L)
  byte : ∀ x ∈ L, x ≤ 255
structure Nums (w : World) (a : Option Addr) (n c b o : Nat) (Z : List Int) : Prop where
  len : Z.length = n
  nil : a = none → n = 0 ∧ c = 0
  leads : 0 < n → a = some ⟨b, o, none⟩
  cells : Cells w b o (intsV Z)
  fit : ∀ z ∈ Z, -9223372036854775808 ≤ z ∧ z ≤ 9223372036854775807
structure Stri (w : World) (a : Option Addr) (n c b o : Nat) (S : List ByteArray) : Prop where
  len : S.length = n
  nil : a = none → n = 0 ∧ c = 0
  leads : 0 < n → a = some ⟨b, o, none⟩
  cells : Cells w b o (strsV S)
  fit : ∀ s ∈ S, s.size ≤ 9223372036854775807

theorem Stri.strs {w : World} {a : Option Addr} {n c b o : Nat} {S : List ByteArray} (h : Stri w a n c b o S) : Strs w a n b o (fun i => S.getD i ByteArray.empty) := by
  have hl := h.len
  refine ⟨h.leads, fun i hi => h.cells i _ ?_, fun i hi => ?_⟩
  · simp [strsV, hl, hi, List.getD]
  · have : S.getD i ByteArray.empty = S[i] := by simp [List.getD, hl, hi]
    show (S.getD i ByteArray.empty).size ≤ _
    rw [this]
    exact h.fit _ (List.getElem_mem _)

/-- What a clone has left. -/
def Cl (w w' : World) (a : Option Addr) (n g : Nat) (xs : List Value) : Prop := (0 < n → a = some ⟨g, 0, none⟩) ∧ Cells w' g 0 xs ∧ Below w.heap.size w w'

theorem cl_on {w0 w w' : World} {a : Option Addr} {n g : Nat} {xs : List Value} (hb : Below w0.heap.size w0 w) (h : Cl w w' a n g xs) : Below w0.heap.size w0 w' := hb.trans (h.2.2.mono hb.size)
theorem below_drewN {B : Nat} {w w' : World} (h : Below B w w') (n : Nat) : Below B w (w'.drewN n) := ⟨h.os, h.tape, h.output, h.size, h.block⟩
theorem intsV_one (Z : List Int) : ∀ u ∈ intsV Z, u.oneCell' = true := fun u hu => by
  simp only [intsV, List.mem_map] at hu
  obtain ⟨c, _, rfl⟩ := hu
  rfl
theorem strsV_one (S : List ByteArray) : ∀ u ∈ strsV S, u.oneCell' = true := fun u hu => by
  simp only [strsV, List.mem_map] at hu
  obtain ⟨c, _, rfl⟩ := hu
  rfl

theorem build_all (x1 x2 x3 : Option Addr) (g1 g2 g3 n1 n2 n3 : Nat) (L : List Nat) (Z : List Int) (S : List ByteArray) (w : World) (l1 : L.length = n1) (l2 : Z.length = n2) (l3 : S.length = n3) (hn1 : n1 ≤ 4096) (hn2 : n2 ≤ 65536) (hn3 : n3 ≤ 65536)
    (k1 : 0 < n1 → x1 = some ⟨g1, 0, none⟩) (k2 : 0 < n2 → x2 = some ⟨g2, 0, none⟩) (k3 : 0 < n3 → x3 = some ⟨g3, 0, none⟩) (C1 : Cells w g1 0 (bytesV L)) (C2 : Cells w g2 0 (intsV Z)) (C3 : Cells w g3 0 (strsV S))
    (f1 : ∀ x ∈ L, x ≤ 255) (f2 : ∀ z ∈ Z, -9223372036854775808 ≤ z ∧ z ≤ 9223372036854775807) (f3 : ∀ j, j < n3 → (S.getD j ByteArray.empty).size ≤ 1048576) :
    Calls Try.prog 18 #[.slice x1 n1 n1, .slice x2 n2 n2, .slice x3 n3 n3] w fun e w' => ∃ (m g cap : Nat) (x : List Nat), e = .returned (.slice (some ⟨g, 0, none⟩) m cap) ∧ 0 < m ∧ m ≤ 100000000000 ∧
      Hid (x.length = m ∧ Built x ∧ w'.ownsRow w.heap.size 5 1 (.slice (some ⟨g, 0, none⟩) m cap) (bytesV x).length (bytesV x) ∧ Below w.heap.size w w') := by
  refine (build_any x1 x2 x3 g1 g2 g3 n1 n2 n3 n1 n2 n3 w hn1 hn2 hn3 k1 k2 k3 (fun i hi => ?_) (fun i hi => ?_) (fun i hi => ?_)).mono ?_
  · have := C1 i (.int .u8 (L[i] : Nat)) (by simp [bytesV, l1, hi])
    rw [Nat.zero_add] at this
    exact ⟨L[i], this, f1 _ (List.getElem_mem _)⟩
  · have := C2 i (.int .i64 Z[i]) (by simp [intsV, l2, hi])
    rw [Nat.zero_add] at this
    exact ⟨Z[i], this, f2 _ (List.getElem_mem _)⟩
  · have := C3 i (.string S[i]) (by simp [strsV, l3, hi])
    rw [Nat.zero_add] at this
    have h := f3 i hi
    have e : S.getD i ByteArray.empty = S[i] := by simp [List.getD, l3, hi]
    rw [e] at h
    exact ⟨S[i], this, h⟩
  · rintro e w' ⟨v, x, rfl, hbu, hown, hbe⟩
    obtain ⟨g, cap, hv, _⟩ := own_shape hown (by rw [bytesV_length]; exact hbu.pos)
    subst hv
    rw [bytesV_length] at hown
    exact ⟨x.length, g, cap, x, by rw [bytesV_length], hbu.pos, hbu.len, rfl, hbu, by rw [bytesV_length]; exact hown, hbe⟩

set_option maxRecDepth 100000 in
set_option maxHeartbeats 8000000 in
theorem law_any (a1 a2 a3 a4 : Option Addr) (n1 c1 b1 o1 n2 c2 b2 o2 n3 c3 b3 o3 n4 c4 b4 o4 : Nat) (L : List Nat) (Z : List Int) (S : List ByteArray) (R : List Nat) (w : World)
    (hn1 : n1 ≤ 9223372036854775807) (hn2 : n2 ≤ 9223372036854775807) (hn3 : n3 ≤ 9223372036854775807) (hn4 : n4 ≤ 9223372036854775807)
    (h1 : Bys w a1 n1 c1 b1 o1 L) (h2 : Nums w a2 n2 c2 b2 o2 Z) (h3 : Stri w a3 n3 c3 b3 o3 S) (h4 : Bys w a4 n4 c4 b4 o4 R) :
    Calls Try.prog 4 #[.slice a1 n1 c1, .slice a2 n2 c2, .slice a3 n3 c3, .slice a4 n4 c4] w fun e w' => e = .returned (.bool true) ∧ Below w.heap.size w w' := by
  have H1 : Hid (Bys w a1 n1 c1 b1 o1 L) := h1
  have H2 : Hid (Nums w a2 n2 c2 b2 o2 Z) := h2
  have H3 : Hid (Stri w a3 n3 c3 b3 o3 S) := h3
  have H4 : Hid (Bys w a4 n4 c4 b4 o4 R) := h4
  have H15 : Hid (Calls Try.prog 15 #[.slice a1 n1 c1, .slice a2 n2 c2, .slice a3 n3 c3, .slice a4 n4 c4] w fun e w' => RetB e ∧ w' = w) := zz15 a1 a2 a3 a4 n1 c1 n2 c2 n3 c3 n4 c4 b3 o3 _ w hn1 hn2 hn3 hn4 h3.strs
  clear h1 h2 h3 h4
  go_enter Try.func4, Try.ntmps4
  go_upto_if 19 with (first | (go_at_call 15; refine H15.out.mono ?_; rintro e w' ⟨⟨q, rfl⟩, hw⟩; obtain hw2 := hw.symm; subst hw2; clear hw))
  clear H15
  cases q with
  | false =>
    go_wp2_with fail
    go_ret
    exact ⟨rfl, Below.refl _ _⟩
  | true =>
    by_cases hb1 : n1 ≤ 4096
    · have hz1 : ¬ (4096 : Int) < (n1 : Int) := by omega
      by_cases hb2 : n2 ≤ 65536
      · have hz2 : ¬ (65536 : Int) < (n2 : Int) := by omega
        by_cases hb3 : n3 ≤ 65536
        · have hz3 : ¬ (65536 : Int) < (n3 : Int) := by omega
          by_cases hb4 : n4 ≤ 1048576
          · have hz4 : ¬ (1048576 : Int) < (n4 : Int) := by omega
            by_cases hsz : n1 + 8 * n2 + 16 * n3 + n4 ≤ 1048576
            · have hz5 : ¬ (1048576 : Int) < (n1 : Int) + 8 * (n2 : Int) + 16 * (n3 : Int) + (n4 : Int) := by omega
              go_wp2_with fail
              go_loop [9, 10] (fun u9 u10 => ∃ k z : Nat, k ≤ n3 ∧ u10 = .int .i64 k ∧ u9 = .int .i64 z ∧ z ≤ 1048576 ∧ ∀ j, j < k → (S.getD j ByteArray.empty).size ≤ 1048576) (fun _ i => n3 - (intOf i).toNat)
              case atStart => exact ⟨0, n1 + 8 * n2 + 16 * n3 + n4, Nat.zero_le _, rfl, by go_num, hsz, fun j hj => by omega⟩
              case round =>
                obtain ⟨k, z, hk, rfl, rfl, hz, hall⟩ := hrel
                have HS : Hid (∀ j, j < k → (S.getD j ByteArray.empty).size ≤ 1048576) := hall
                clear hall
                by_cases hlt : k < n3
                · obtain ⟨ha, hc, hs⟩ := H3.out.strs
                  obtain rfl := ha (by omega)
                  have hcx : w.cell? ⟨b3, o3 + k, none⟩ = some (.string (S.getD k ByteArray.empty)) := hc k hlt
                  have hsk : (S.getD k ByteArray.empty).size ≤ 9223372036854775807 := hs k hlt
                  clear ha hc hs
                  obtain ⟨sz, hsv⟩ : ∃ sz, sz = S.getD k ByteArray.empty := ⟨_, rfl⟩
                  have HSV : Hid (sz = S.getD k ByteArray.empty) := hsv
                  rw [← hsv] at hcx hsk
                  clear hsv
                  have hltz : (k : Int) < (n3 : Int) := by omega
                  go_wp2_with fail
                  all_goals try (go_ret; exact ⟨rfl, Below.refl _ _⟩)
                  go_round
                  case rel =>
                    refine ⟨k + 1, z + sz.size, by omega, by go_num, by go_num, by omega, fun j hj => ?_⟩
                    by_cases hjk : j < k
                    · exact HS.out j hjk
                    · obtain rfl : j = k := by omega
                      rw [← HSV.out]
                      omega
                  case measure => simp [intOf]; omega
                · obtain rfl : n3 = k := by omega
                  have hltz : ¬ (n3 : Int) < (n3 : Int) := by omega
                  go_upto_region 16 with fail
                  by_cases hst : ∀ c r, R = c :: r → stopB c = true
                  · have HST : Hid (∀ c r, R = c :: r → stopB c = true) := hst
                    clear hst
                    go_cut [83] (fun s wx => s = .bool false ∧ wx = w)
                    case first =>
                      have hl4 := H4.out.len
                      cases R with
                      | nil =>
                        simp only [List.length_nil] at hl4
                        subst hl4
                        go_wp2_with fail
                        go_meet
                        exact ⟨rfl, rfl⟩
                      | cons c r =>
                        have hc0 : w.cell? ⟨b4, o4 + 0, none⟩ = some (.int .u8 (c : Nat)) := H4.out.cells 0 _ rfl
                        rw [Nat.add_zero] at hc0
                        have hc255 : c ≤ 255 := H4.out.byte c (List.mem_cons_self ..)
                        simp only [List.length_cons] at hl4
                        obtain rfl := H4.out.leads (by omega)
                        have hst : stopB c = true := HST.out c r rfl
                        have h0z : (0 : Int) < (n4 : Int) := by omega
                        have H14 : Hid (Calls Try.prog 14 #[.int .u8 (c : Nat)] w fun e w' => e = .returned (.bool true) ∧ w' = w) := by
                          have := stop_any c w hc255
                          rw [hst] at this
                          exact this
                        clear hl4 hst
                        go_wp2_with (first | (go_at_call 14; refine H14.out.mono ?_; rintro e w' ⟨rfl, hw⟩; obtain hw2 := hw.symm; subst hw2; clear hw))
                        go_meet
                        exact ⟨rfl, rfl⟩
                    case rest =>
                      obtain ⟨rfl, hw⟩ := hcut
                      subst hw
                      have HC1 : Hid (Calls Try.prog 12 #[.slice a1 n1 c1] wc fun e w' => ∃ a', e = .returned (.slice a' n1 n1) ∧ Cl wc w' a' n1 wc.heap.size (bytesV L)) := clone12 a1 b1 o1 n1 c1 (bytesV L) wc (by omega) (by rw [bytesV_length]; exact H1.out.len) H1.out.nil H1.out.leads H1.out.cells (bytesV_one L)
                      have HC2 : Hid (∀ w1, Below wc.heap.size wc w1 → Calls Try.prog 16 #[.slice a2 n2 c2] w1 fun e w' => ∃ a', e = .returned (.slice a' n2 n2) ∧ Cl w1 w' a' n2 w1.heap.size (intsV Z)) := fun w1 hb => clone16 a2 b2 o2 n2 c2 (intsV Z) w1 (by omega) (by rw [intsV, List.length_map]; exact H2.out.len) H2.out.nil H2.out.leads (cells_later H2.out.cells hb) (intsV_one Z)
                      have HC3 : Hid (∀ w1, Below wc.heap.size wc w1 → Calls Try.prog 17 #[.slice a3 n3 c3] w1 fun e w' => ∃ a', e = .returned (.slice a' n3 n3) ∧ Cl w1 w' a' n3 w1.heap.size (strsV S)) := fun w1 hb => clone17 a3 b3 o3 n3 c3 (strsV S) w1 (by omega) (by rw [strsV, List.length_map]; exact H3.out.len) H3.out.nil H3.out.leads (cells_later H3.out.cells hb) (strsV_one S)
                      have HC4 : Hid (∀ w1, Below wc.heap.size wc w1 → Calls Try.prog 12 #[.slice a4 n4 c4] w1 fun e w' => ∃ a', e = .returned (.slice a' n4 n4) ∧ Cl w1 w' a' n4 w1.heap.size (bytesV R)) := fun w1 hb => clone12 a4 b4 o4 n4 c4 (bytesV R) w1 (by omega) (by rw [bytesV_length]; exact H4.out.len) H4.out.nil H4.out.leads (cells_later H4.out.cells hb) (bytesV_one R)
                      have HC5 : Hid (∀ x1 x2 x3 x4 w1 w2 w3 w4, Cl wc w1 x1 n1 wc.heap.size (bytesV L) → Cl w1 w2 x2 n2 w1.heap.size (intsV Z) → Cl w2 w3 x3 n3 w2.heap.size (strsV S) → Cl w3 w4 x4 n4 w3.heap.size (bytesV R) → Calls Try.prog 18 #[.slice x1 n1 n1, .slice x2 n2 n2, .slice x3 n3 n3] w4 fun e w' => ∃ (m g cap : Nat) (x : List Nat), e = .returned (.slice (some ⟨g, 0, none⟩) m cap) ∧ 0 < m ∧ m ≤ 100000000000 ∧
                          Hid (x.length = m ∧ Built x ∧ w'.ownsRow w4.heap.size 5 1 (.slice (some ⟨g, 0, none⟩) m cap) (bytesV x).length (bytesV x) ∧ Below w4.heap.size w4 w')) := fun x1 x2 x3 x4 w1 w2 w3 w4 k1 k2 k3 k4 =>
                        build_all x1 x2 x3 wc.heap.size w1.heap.size w2.heap.size n1 n2 n3 L Z S w4 H1.out.len H2.out.len H3.out.len hb1 hb2 hb3 k1.1 k2.1 k3.1 (cells_later (cells_later (cells_later k1.2.1 k2.2.2) k3.2.2) k4.2.2) (cells_later (cells_later k2.2.1 k3.2.2) k4.2.2) (cells_later k3.2.1 k4.2.2) H1.out.byte H2.out.fit HS.out
                      have HLR : Hid (R.length = n4) := H4.out.len
                      have HBR : Hid (∀ c ∈ R, c ≤ 255) := H4.out.byte
                      clear H1 H2 H3 H4 HS
                      go_upto_region 21 with (first
                        | (go_at_call 12; refine HC1.out.mono ?_; rintro e1 w1 ⟨x1, rfl, k1⟩)
                        | (go_at_call 16; refine (HC2.out w1 k1.2.2).mono ?_; rintro e2 w2 ⟨x2, rfl, k2⟩)
                        | (go_at_call 17; refine (HC3.out w2 (cl_on k1.2.2 k2)).mono ?_; rintro e3 w3 ⟨x3, rfl, k3⟩))
                      go_upto_region 23 with (first
                        | (go_at_call 12; refine (HC4.out w3 (cl_on (cl_on k1.2.2 k2) k3)).mono ?_; rintro e4 w4 ⟨x4, rfl, k4⟩)
                        | (go_at_call 18; refine (HC5.out x1 x2 x3 x4 w1 w2 w3 w4 k1 k2 k3 k4).mono ?_; rintro e5 w5 ⟨m, g, cap, x, rfl, hm0, hm1, hbu⟩))
                      have HBL : Hid (Below wc.heap.size wc w4) := cl_on (cl_on (cl_on k1.2.2 k2) k3) k4
                      have HK4 : Hid (Cl w3 w4 x4 n4 w3.heap.size (bytesV R)) := k4
                      clear k1 k2 k3 k4 HC1 HC2 HC3 HC4 HC5
                      obtain ⟨hxl, hbt, hot, hb5⟩ := hbu.out
                      have HXL : Hid (x.length = m) := hxl
                      have HBT : Hid (Built x) := hbt
                      have HB5 : Hid (Below w4.heap.size w4 w5) := hb5
                      have HSRC1 : Hid (Src Try.prog 1 22 (.slice (some ⟨g, 0, none⟩) m cap) m (bytesV x) (w5.alloc (.cells (madeCells #[.int .u8 0] (m + n4)) 5))) := own_src hxl (own_later hot ((Below.refl _ _).alloc (Nat.le_refl _) _))
                      clear hxl hbt hot hb5 hbu
                      have hmk : ∀ W : World, (Instr.makeSlice 22 (.int .i64 0) (.int .i64 ((m : Int) + (n4 : Int)))).run Try.prog W = .ok (.slice (some ⟨W.heap.size, 0, none⟩) 0 (m + n4)) (W.alloc (.cells (madeCells #[.int .u8 0] (m + n4)) 5)) := fun W => by
                        have h := make22 (m + n4) (by omega) W
                        rwa [Int.natCast_add] at h
                      have HMD : Hid ((w5.alloc (.cells (madeCells #[.int .u8 0] (m + n4)) 5)).ownsRow w5.heap.size 5 1 (.slice (some ⟨w5.heap.size, 0, none⟩) 0 (m + n4)) (bytesV []).length (bytesV [])) := made22 w5 (m + n4) (by omega)
                      go_wp2_with (at_builtin; refine wpList_grow _ rfl _ _ 22 22 rfl w5.heap.size 5 (.int .u8 0) 1 Try.underlying22 info5 rfl (.slice (some ⟨w5.heap.size, 0, none⟩) 0 (m + n4)) (bytesV []) rfl (w5.alloc (.cells (madeCells #[.int .u8 0] (m + n4)) 5)) HMD.out (grown_refl _) _ _ _ rfl HSRC1.out hm0 ?r2 (by decide) ?r3 ?_)
                      case r2 => show 0 + m ≤ _; omega
                      case r3 => simp
                      intro v1 w6 HG1
                      have HO6 : Hid (Below w5.heap.size w5 w6) := below_grew HG1.out HMD.out ((Below.refl _ _).alloc (Nat.le_refl _) _) (by simp)
                      have HOW1 : Hid (w6.ownsRow w5.heap.size 5 1 v1 (bytesV x).length (bytesV x)) := HG1.out.own
                      have HSRC2 : Hid (Src Try.prog 1 22 (.slice x4 n4 n4) n4 (bytesV R) w6) := cells_src HLR.out HK4.out.1 (cells_later (cells_later HK4.out.2.1 HB5.out) HO6.out)
                      have HNN : Hid (v1 = .slice none 0 0 → 0 < n4) := fun h => by
                        obtain ⟨g', cap', hv, _⟩ := own_shape HOW1.out (by rw [bytesV_length, HXL.out]; exact hm0)
                        rw [hv] at h
                        simp at h
                      clear HG1 HSRC1 hmk HMD
                      go_wp2_with (at_builtin; refine wpList_grow0 _ rfl _ _ 22 22 rfl w5.heap.size 5 (.int .u8 0) 1 Try.underlying22 info5 rfl v1 (bytesV x) rfl w6 HOW1.out (grown_refl _) _ _ _ rfl HSRC2.out HNN.out ?s2 (by decide) ?s3 ?_)
                      case s2 => rw [bytesV_length, HXL.out]; omega
                      case s3 => exact HO6.out.size
                      intro v2 w7 HG2
                      have HOW2 : Hid (w7.ownsRow w5.heap.size 5 1 v2 (bytesV (x ++ R)).length (bytesV (x ++ R))) := by rw [bytesV_append]; exact HG2.out.own
                      have HB7 : Hid (Below w5.heap.size w5 w7) := below_grew HG2.out HOW1.out HO6.out HO6.out.size
                      obtain ⟨g7, cap7, hv2, _, _, hnc, _, _⟩ := own_shape HOW2.out (by rw [bytesV_length, List.length_append, HXL.out]; omega)
                      rw [bytesV_length, List.length_append, HXL.out, HLR.out] at hv2 hnc
                      subst hv2
                      have HAT : Hid (At w7 g7 0 (x ++ R)) := at_cells (fun i v hi => by
                        have := HOW2.out.cells (g := g7) rfl i v hi
                        rwa [Addr.add_lit] at this)
                      clear HG2 HSRC2 HNN HOW1 HOW2
                      have HZ : Hid (Calls Try.prog 13 #[.slice (some ⟨g7, 0, none⟩) (m + n4) cap7] w7 fun e w' => ∃ p q c : Nat, e = .returned (.slice (some ⟨g7, q, none⟩) n4 c) ∧ Hid ((0 < n4 → q = p) ∧ At w7 g7 p R ∧ ∃ k, w' = w7.drewN k)) := by
                        refine (zzskip_any g7 (m + n4) cap7 (x ++ R) R w7 (by rw [List.length_append, HXL.out, HLR.out]) (getD_bytes (bytes_app HBT.out.byte HBR.out)) HAT.out hnc (by omega) (skip_built HBT.out HST.out)).mono ?_
                        rintro e w' ⟨⟨p, q, c, hp, hd, hq, rfl⟩, hk⟩
                        have hlen : m + n4 - p = n4 := by
                          have := congrArg List.length hd
                          rw [List.length_drop, List.length_append, HXL.out, HLR.out] at this
                          omega
                        exact ⟨p, q, c, by rw [hlen], fun h0 => hq (by omega), at_drop HAT.out hd, hk⟩
                      have H19 : Hid (∀ (p q c : Nat) (w8 : World), Hid ((0 < n4 → q = p) ∧ At w7 g7 p R ∧ ∃ k, w8 = w7.drewN k) → Calls Try.prog 19 #[.slice (some ⟨g7, q, none⟩) n4 c, .slice x4 n4 n4] w8 fun e w' => e = .returned (.bool true) ∧ Below wc.heap.size wc w') := by
                        intro p q c w8 hh
                        obtain ⟨hq, hat, k, hw8⟩ := hh.out
                        subst hw8
                        refine (same_any (some ⟨g7, q, none⟩) x4 n4 c n4 g7 p w3.heap.size 0 R (w7.drewN k) (by omega) HLR.out (fun h => by rw [hq h]) HK4.out.1 (fun i hi => hat i hi) (fun i hi => at_cells (cells_later (cells_later HK4.out.2.1 HB5.out) HB7.out) i hi)).mono ?_
                        rintro e w' ⟨rfl, j, rfl⟩
                        have hb : Below wc.heap.size wc w7 := (HBL.out.trans (HB5.out.mono HBL.out.size)).trans (HB7.out.mono (Nat.le_trans HBL.out.size HB5.out.size))
                        exact ⟨rfl, below_drewN (below_drewN hb k) j⟩
                      clear HBL HK4 HB5 HB7 HAT HBT HXL HLR HBR HST
                      go_wp2_with (first
                        | (go_at_call 13; refine HZ.out.mono ?_; rintro e8 w8 ⟨p, q, c, rfl, hpq⟩)
                        | (go_at_call 19; refine (H19.out p q c w8 hpq).mono ?_; rintro e9 w9 ⟨rfl, hbl⟩))
                      go_ret
                      exact ⟨rfl, hbl⟩
                  · cases R with
                    | nil => exact absurd (fun c r h => by cases h) hst
                    | cons c r =>
                      have hs0 : stopB c = false := by
                        cases hq : stopB c with
                        | false => rfl
                        | true =>
                          refine absurd (fun c' r' h => ?_) hst
                          simp only [List.cons.injEq] at h
                          rw [← h.1]
                          exact hq
                      have hc0 : w.cell? ⟨b4, o4 + 0, none⟩ = some (.int .u8 (c : Nat)) := H4.out.cells 0 _ rfl
                      rw [Nat.add_zero] at hc0
                      have hc255 : c ≤ 255 := H4.out.byte c (List.mem_cons_self ..)
                      have hl4 := H4.out.len
                      simp only [List.length_cons] at hl4
                      obtain rfl := H4.out.leads (by omega)
                      have h0z : (0 : Int) < (n4 : Int) := by omega
                      have H14 : Hid (Calls Try.prog 14 #[.int .u8 (c : Nat)] w fun e w' => e = .returned (.bool false) ∧ w' = w) := by
                        have := stop_any c w hc255
                        rw [hs0] at this
                        exact this
                      clear hl4 hst hs0
                      go_wp2_with (first | (go_at_call 14; refine H14.out.mono ?_; rintro e w' ⟨rfl, hw⟩; obtain hw2 := hw.symm; subst hw2; clear hw))
                      go_ret
                      exact ⟨rfl, Below.refl _ _⟩
            · have hz5 : (1048576 : Int) < (n1 : Int) + 8 * (n2 : Int) + 16 * (n3 : Int) + (n4 : Int) := by omega
              go_wp2_with fail
              go_ret
              exact ⟨rfl, Below.refl _ _⟩
          · have hz4 : (1048576 : Int) < (n4 : Int) := by omega
            go_wp2_with fail
            go_ret
            exact ⟨rfl, Below.refl _ _⟩
        · have hz3 : (65536 : Int) < (n3 : Int) := by omega
          go_wp2_with fail
          go_ret
          exact ⟨rfl, Below.refl _ _⟩
      · have hz2 : (65536 : Int) < (n2 : Int) := by omega
        go_wp2_with fail
        go_ret
        exact ⟨rfl, Below.refl _ _⟩
    · have hz1 : (4096 : Int) < (n1 : Int) := by omega
      go_wp2_with fail
      go_ret
      exact ⟨rfl, Below.refl _ _⟩

end Go.Proofs.Qxb6001689a

/-
  The walk of skipValue (41), ZZSkipValue (13), zzIsStop (14) and zzSameBytes (19).
-/
import Derived.Test.Qxb6001689aRows
import Derived.Test.Qxb6001689aSkip
import Derived.WalkKit
import Derived.WalkSpells
import Derived.WalkLawsBesides
import Derived.Deep.OwnRows
import Derived.Deep.QuietTactic
import Derived.BigQuiet
namespace Go.Proofs.Qxb6001689a
open Go.RowKit

/-- The bytes L lie at the offset off of block g. -/
def At (w : World) (g off : Nat) (L : List Nat) : Prop := ∀ i, i < L.length → w.cell? ⟨g, off + i, none⟩ = some (.int .u8 (L.getD i 0 : Nat))

theorem drop_cons {L : List Nat} {i : Nat} (h : i < L.length) : L.drop i = L.getD i 0 :: L.drop (i + 1) := by
  rw [List.drop_eq_getElem_cons h]
  simp [List.getD, h]

section steps
variable {L R : List Nat} {i d : Nat}
theorem st_quote (h : i < L.length) (hc : L.getD i 0 = 34) (hs : sk d 0 (L.drop i) = R) : sk d 1 (L.drop (i + 1)) = R := by
  rw [drop_cons h, hc, sk, if_pos rfl] at hs; exact hs
theorem st_open (h : i < L.length) (hc : L.getD i 0 = 123 ∨ L.getD i 0 = 91) (hs : sk d 0 (L.drop i) = R) : sk (d + 1) 0 (L.drop (i + 1)) = R := by
  rw [drop_cons h, sk, if_neg (by omega), if_pos hc] at hs; exact hs
theorem st_close0 (h : i < L.length) (hc : L.getD i 0 = 125 ∨ L.getD i 0 = 93) (hs : sk 0 0 (L.drop i) = R) : L.drop i = R := by
  rw [drop_cons h, sk, if_neg (by omega), if_neg (by omega), if_pos hc, if_pos rfl] at hs
  rw [drop_cons h]; exact hs
theorem st_close1 (h : i < L.length) (hc : L.getD i 0 = 125 ∨ L.getD i 0 = 93) (hs : sk 1 0 (L.drop i) = R) : L.drop (i + 1) = R := by
  rw [drop_cons h, sk, if_neg (by omega), if_neg (by omega), if_pos hc, if_neg (by omega), if_pos rfl] at hs; exact hs
theorem st_close2 (h : i < L.length) (hc : L.getD i 0 = 125 ∨ L.getD i 0 = 93) (hs : sk (d + 2) 0 (L.drop i) = R) : sk (d + 1) 0 (L.drop (i + 1)) = R := by
  rw [drop_cons h, sk, if_neg (by omega), if_neg (by omega), if_pos hc, if_neg (by omega), if_neg (by omega)] at hs; exact hs
theorem st_sep (h : i < L.length) (hc : isSep (L.getD i 0) = true) (hs : sk 0 0 (L.drop i) = R) : L.drop i = R := by
  rw [sk_stop] at hs
  · exact hs
  · intro c r hcr
    rw [drop_cons h] at hcr
    injection hcr with h1 h2
    subst h1
    exact .inr (.inr hc)
theorem st_on (h : i < L.length) (h1 : L.getD i 0 ≠ 34) (h2 : ¬(L.getD i 0 = 123 ∨ L.getD i 0 = 91)) (h3 : ¬(L.getD i 0 = 125 ∨ L.getD i 0 = 93)) (h4 : ¬(d = 0 ∧ isSep (L.getD i 0) = true)) (hs : sk d 0 (L.drop i) = R) : sk d 0 (L.drop (i + 1)) = R := by
  rw [drop_cons h, sk, if_neg h1, if_neg h2, if_neg h3, if_neg h4] at hs; exact hs
theorem st_end (m : Nat) (h : L.length ≤ i) (hs : sk d m (L.drop i) = R) : R = [] := by
  rw [List.drop_eq_nil_of_le h, sk_nil] at hs; exact hs.symm
theorem st_in (h : i < L.length) (h1 : L.getD i 0 ≠ 34) (h2 : L.getD i 0 ≠ 92) (hs : sk d 1 (L.drop i) = R) : sk d 1 (L.drop (i + 1)) = R := by
  rw [drop_cons h, sk, if_neg h1, if_neg h2] at hs; exact hs
theorem st_esc (h : i < L.length) (h1 : L.getD i 0 = 92) (hs : sk d 1 (L.drop i) = R) : sk d 1 (L.drop (i + 2)) = R := by
  rw [drop_cons h, sk, if_neg (by omega), if_pos h1] at hs
  by_cases h2 : i + 1 < L.length
  · rw [drop_cons h2, sk] at hs; exact hs
  · rw [List.drop_eq_nil_of_le (by omega), sk_nil] at hs
    rw [List.drop_eq_nil_of_le (by omega), sk_nil]; exact hs
theorem st_shut0 (h : i < L.length) (h1 : L.getD i 0 = 34) (hs : sk 0 1 (L.drop i) = R) : L.drop (i + 1) = R := by
  rw [drop_cons h, sk, if_pos h1, if_pos rfl] at hs; exact hs
theorem st_shut (h : i < L.length) (h1 : L.getD i 0 = 34) (hs : sk (d + 1) 1 (L.drop i) = R) : sk (d + 1) 0 (L.drop (i + 1)) = R := by
  rw [drop_cons h, sk, if_pos h1, if_neg (by omega)] at hs; exact hs
end steps

/-- What skipValue hands back: the rest of its argument behind p bytes (behind all of them the address tells nothing). -/
def Rest (L : List Nat) (g n : Nat) (e : Ending) (R : List Nat) : Prop := ∃ p q c, p ≤ n ∧ L.drop p = R ∧ (p < n → q = p) ∧ e = .returned (.slice (some ⟨g, q, none⟩) (n - p) c)
theorem rest_at {L R : List Nat} {g n p c : Nat} (hp : p ≤ n) (h : L.drop p = R) : Rest L g n (.returned (.slice (some ⟨g, p, none⟩) (n - p) c)) R := ⟨p, p, c, hp, h, fun _ => rfl, rfl⟩
theorem rest_last {L R : List Nat} {g n p q c : Nat} (hp : p = n) (h : L.drop p = R) : Rest L g n (.returned (.slice (some ⟨g, q, none⟩) (n - p) c)) R := ⟨p, q, c, by omega, h, fun _ => by omega, rfl⟩
theorem rest_end {L R : List Nat} {g n q c : Nat} (hL : L.length = n) (h : R = []) : Rest L g n (.returned (.slice (some ⟨g, q, none⟩) 0 c)) R :=
  ⟨n, q, c, Nat.le_refl _, by rw [h, List.drop_eq_nil_of_le (by omega)], fun h => by omega, by rw [Nat.sub_self]⟩
theorem drop_end {L R : List Nat} {n p : Nat} (hL : L.length = n) (hp : n ≤ p) (h : L.drop p = R) : R = [] := by rw [← h, List.drop_eq_nil_of_le (by omega)]

set_option maxRecDepth 100000 in
set_option maxHeartbeats 1000000 in
theorem skip_any (g n cap : Nat) (L R : List Nat) (w : World) (hL : L.length = n) (hb : ∀ i, L.getD i 0 ≤ 255) (hc : At w g 0 L) (hnc : n ≤ cap) (hnb : n ≤ 4611686018427387904) (hR : sk 0 0 L = R) :
    Calls Try.prog 41 #[.slice (some ⟨g, 0, none⟩) n cap] w fun e w' => Rest L g n e R ∧ ∃ m, w' = w.drewN m := by
  have HC : Hid (∀ i, i < n → w.cell? ⟨g, i, none⟩ = some (.int .u8 (L.getD i 0 : Nat))) := fun i hi => by have := hc i (by omega); rwa [Nat.zero_add] at this
  have HR : Hid (sk 0 0 (L.drop 0) = R) := hR
  have HL : Hid (L.length = n) := hL
  have HB : Hid (∀ i, L.getD i 0 ≤ 255) := hb
  clear hc hR hL hb
  go_enter Try.func41, Try.ntmps41
  go_wp2
  go_loopw [3, 4] (fun dv iv wr => ∃ d i : Nat, d ≤ i ∧ i ≤ n + 2 ∧ dv = .int .i64 d ∧ iv = .int .i64 i ∧ sk d 0 (L.drop i) = R ∧ ∃ m, wr = w.drewN m) (fun _ i _ => n + 3 - (intOf i).toNat)
  case atStart => exact ⟨0, 0, Nat.le_refl _, Nat.zero_le _, rfl, rfl, HR.out, 0, rfl⟩
  case round =>
    clear HR
    obtain ⟨d, i, hd, hi, rfl, rfl, hsk, m, hm⟩ := hrel
    have HM : Hid (wr = w.drewN m) := hm
    have HS : Hid (sk d 0 (L.drop i) = R) := hsk
    clear hm hsk
    by_cases hlt : i < n
    · have g0 : wr.cell? ⟨g, i, none⟩ = some (.int .u8 (L.getD i 0 : Nat)) := by rw [HM.out]; exact HC.out i hlt
      have hc255 := HB.out i
      have HLT : Hid (i < L.length) := by rw [HL.out]; exact hlt
      obtain ⟨c, hcv⟩ : ∃ c, c = L.getD i 0 := ⟨_, rfl⟩
      rw [← hcv] at g0 hc255
      have HCV : Hid (c = L.getD i 0) := hcv
      clear hcv
      have hltz : (i : Int) < (n : Int) := by omega
      by_cases h1 : c = 34
      · subst h1
        have HS1 : Hid (sk d 1 (L.drop (i + 1)) = R) := st_quote HLT.out HCV.out.symm HS.out
        go_wp2
        clear g0 HCV HS HLT
        go_loopw [4] (fun iv wr => ∃ j : Nat, i + 1 ≤ j ∧ j ≤ n + 1 ∧ iv = .int .i64 j ∧ sk d 1 (L.drop j) = R ∧ ∃ m, wr = w.drewN m) (fun i _ => n + 3 - (intOf i).toNat)
        case atStart => exact ⟨i + 1, Nat.le_refl _, by omega, by go_num, HS1.out, m, HM.out⟩
        case round =>
          clear HS1 HM
          obtain ⟨j, hj1, hj2, rfl, hsk, m, hm⟩ := hrel
          have HM : Hid (wr = w.drewN m) := hm
          have HS : Hid (sk d 1 (L.drop j) = R) := hsk
          clear hm hsk
          by_cases hjt : j < n
          · have g0 : wr.cell? ⟨g, j, none⟩ = some (.int .u8 (L.getD j 0 : Nat)) := by rw [HM.out]; exact HC.out j hjt
            have hc255 := HB.out j
            have HLT : Hid (j < L.length) := by rw [HL.out]; exact hjt
            obtain ⟨c, hcv⟩ : ∃ c, c = L.getD j 0 := ⟨_, rfl⟩
            rw [← hcv] at g0 hc255
            have HCV : Hid (c = L.getD j 0) := hcv
            clear hcv
            have hltz : (j : Int) < (n : Int) := by omega
            by_cases h1 : c = 34
            · subst h1
              by_cases hd0 : d = 0
              · subst hd0
                have HF := st_shut0 HLT.out HCV.out.symm HS.out
                have HF2 : Hid (L.drop (j + 1) = R) := HF
                clear HF
                go_wp2
                all_goals
                  go_ret
                  refine ⟨?_, m, HM.out⟩
                  first
                  | exact rest_at (by omega) HF2.out
                  | exact rest_last (by omega) HF2.out
                  | exact rest_end HL.out (drop_end HL.out (by omega) HF2.out)
              · obtain ⟨d', rfl⟩ : ∃ d', d = d' + 1 := ⟨d - 1, by omega⟩
                have HF : Hid (sk (d' + 1) 0 (L.drop (j + 1)) = R) := st_shut HLT.out HCV.out.symm HS.out
                have ed : (((d' + 1 : Nat) : Int) == 0) = false := by simp; omega
                go_wp2
                go_roundw
                case rel => exact ⟨d' + 1, j + 1, by omega, by omega, rfl, by go_num, HF.out, m, HM.out⟩
                case measure => simp [intOf]; omega
            · have e1 : ((c : Int) == 34) = false := by simp; omega
              by_cases h2 : c = 92
              · subst h2
                have HF : Hid (sk d 1 (L.drop (j + 2)) = R) := st_esc HLT.out HCV.out.symm HS.out
                go_wp2
                go_roundw
                case rel => exact ⟨j + 2, by omega, by omega, by go_num, HF.out, m, HM.out⟩
                case measure => simp [intOf]; omega
              · have e2 : ((c : Int) == 92) = false := by simp; omega
                have HF : Hid (sk d 1 (L.drop (j + 1)) = R) := st_in HLT.out (by rw [← HCV.out]; exact h1) (by rw [← HCV.out]; exact h2) HS.out
                go_wp2
                go_roundw
                case rel => exact ⟨j + 1, by omega, by omega, by go_num, HF.out, m, HM.out⟩
                case measure => simp [intOf]; omega
          · have hge : ¬ (j : Int) < (n : Int) := by omega
            have HF : Hid (R = []) := st_end 1 (by rw [HL.out]; omega) HS.out
            have HN : Hid (sk d 0 (L.drop (j + 1)) = R) := by show _ = _; rw [List.drop_eq_nil_of_le (by rw [HL.out]; omega), sk_nil, HF.out]
            by_cases hd0 : d = 0
            · subst hd0
              go_wp2
              all_goals
                go_ret
                refine ⟨?_, m, HM.out⟩
                first
                | exact rest_end HL.out HF.out
                | (exfalso; omega)
            · have ed : ((d : Int) == 0) = false := by simp; omega
              go_wp2
              go_roundw
              case rel => exact ⟨d, j + 1, by omega, by omega, rfl, by go_num, HN.out, m, HM.out⟩
              case measure => simp [intOf]; omega
      · have e1 : ((c : Int) == 34) = false := by simp; omega
        by_cases h2 : c = 123 ∨ c = 91
        · have e2 : c = 123 ∨ (((c : Int) == 123) = false ∧ c = 91) := by rcases h2 with h | h; exact .inl h; exact .inr ⟨by simp; omega, h⟩
          have ed : ((d : Int) + 1 == 0) = false := by simp; omega
          have HF : Hid (sk (d + 1) 0 (L.drop (i + 1)) = R) := st_open HLT.out (by rw [← HCV.out]; exact h2) HS.out
          clear h2 h1
          rcases e2 with h | ⟨e3, h⟩ <;> subst h
          all_goals
            go_wp2
            go_roundw
            case rel => exact ⟨d + 1, i + 1, by omega, by omega, by go_num, by go_num, HF.out, m, HM.out⟩
            case measure => simp [intOf]; omega
        · have f1 : ((c : Int) == 123) = false := by simp; omega
          have f2 : ((c : Int) == 91) = false := by simp; omega
          by_cases h3 : c = 125 ∨ c = 93
          · have e2 : c = 125 ∨ (((c : Int) == 125) = false ∧ c = 93) := by rcases h3 with h | h; exact .inl h; exact .inr ⟨by simp; omega, h⟩
            by_cases hd0 : d = 0
            · subst hd0
              have HF : Hid (L.drop i = R) := st_close0 HLT.out (by rw [← HCV.out]; exact h3) HS.out
              clear h1 h2 h3
              rcases e2 with h | ⟨e3, h⟩ <;> subst h
              all_goals
                go_wp2
                go_ret
                exact ⟨rest_at (by omega) HF.out, m, HM.out⟩
            · have ed0 : ((d : Int) == 0) = false := by simp; omega
              by_cases hd1 : d = 1
              · subst hd1
                have HF : Hid (L.drop (i + 1) = R) := st_close1 HLT.out (by rw [← HCV.out]; exact h3) HS.out
                clear h1 h2 h3
                rcases e2 with h | ⟨e3, h⟩ <;> subst h
                all_goals
                  go_wp2
                  all_goals
                    go_ret
                    refine ⟨?_, m, HM.out⟩
                    first
                    | exact rest_at (by omega) HF.out
                    | exact rest_last (by omega) HF.out
                    | exact rest_end HL.out (drop_end HL.out (by omega) HF.out)
              · obtain ⟨d', rfl⟩ : ∃ d', d = d' + 2 := ⟨d - 2, by omega⟩
                have HF : Hid (sk (d' + 1) 0 (L.drop (i + 1)) = R) := st_close2 HLT.out (by rw [← HCV.out]; exact h3) HS.out
                have ed : (((d' + 2 : Nat) : Int) - 1 == 0) = false := by simp; omega
                clear h1 h2 h3
                rcases e2 with h | ⟨e3, h⟩ <;> subst h
                all_goals
                  go_wp2
                  go_roundw
                  case rel => exact ⟨d' + 1, i + 1, by omega, by omega, by go_num, by go_num, HF.out, m, HM.out⟩
                  case measure => simp [intOf]; omega
          · have f3 : ((c : Int) == 125) = false := by simp; omega
            have f4 : ((c : Int) == 93) = false := by simp; omega
            by_cases hs : isSep c = true
            · by_cases hd0 : d = 0
              · subst hd0
                have HF : Hid (L.drop i = R) := st_sep HLT.out (by rw [← HCV.out]; exact hs) HS.out
                have e2 : c = 44 ∨ (((c : Int) == 44) = false ∧ (c = 32 ∨ (((c : Int) == 32) = false ∧ (c = 9 ∨ (((c : Int) == 9) = false ∧ (c = 10 ∨ (((c : Int) == 10) = false ∧ c = 13))))))) := by
                  unfold isSep at hs
                  simp only [Bool.or_eq_true, beq_iff_eq] at hs
                  simp
                  omega
                clear h1 h2 h3 hs
                rcases e2 with h | ⟨k1, h | ⟨k2, h | ⟨k3, h | ⟨k4, h⟩⟩⟩⟩ <;> subst h
                all_goals
                  go_wp2
                  go_ret
                  exact ⟨rest_at (by omega) HF.out, m, HM.out⟩
              · have HF : Hid (sk d 0 (L.drop (i + 1)) = R) := st_on HLT.out (by rw [← HCV.out]; exact h1) (by rw [← HCV.out]; exact h2) (by rw [← HCV.out]; exact h3) (by omega) HS.out
                have ed0 : ((d : Int) == 0) = false := by simp; omega
                clear h1 h2 h3
                go_wp2
                go_roundw
                case rel => exact ⟨d, i + 1, by omega, by omega, rfl, by go_num, HF.out, m, HM.out⟩
                case measure => simp [intOf]; omega
            · have HF : Hid (sk d 0 (L.drop (i + 1)) = R) := st_on HLT.out (by rw [← HCV.out]; exact h1) (by rw [← HCV.out]; exact h2) (by rw [← HCV.out]; exact h3) (by rw [← HCV.out]; exact fun h => hs h.2) HS.out
              have k : ((c : Int) == 44) = false ∧ ((c : Int) == 32) = false ∧ ((c : Int) == 9) = false ∧ ((c : Int) == 10) = false ∧ ((c : Int) == 13) = false := by
                unfold isSep at hs
                simp only [Bool.or_eq_true, beq_iff_eq] at hs
                simp
                omega
              obtain ⟨k1, k2, k3, k4, k5⟩ := k
              clear h1 h2 h3 hs
              by_cases hd0 : d = 0
              · subst hd0
                go_wp2
                go_roundw
                case rel => exact ⟨0, i + 1, by omega, by omega, rfl, by go_num, HF.out, m, HM.out⟩
                case measure => simp [intOf]; omega
              · have ed0 : ((d : Int) == 0) = false := by simp; omega
                go_wp2
                go_roundw
                case rel => exact ⟨d, i + 1, by omega, by omega, rfl, by go_num, HF.out, m, HM.out⟩
                case measure => simp [intOf]; omega
    · have hge : ¬ (i : Int) < (n : Int) := by omega
      have HF : Hid (R = []) := st_end 0 (by rw [HL.out]; omega) HS.out
      go_wp2
      all_goals
        go_ret
        refine ⟨?_, m, HM.out⟩
        exact rest_end HL.out HF.out

end Go.Proofs.Qxb6001689a

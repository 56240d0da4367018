/-
  The walk of jsonscan.numberEnd (16): it answers 'endAt i (numEnd ..)'.
-/
import Derived.Test.Qxb6603177aNumWalk
namespace Go.Proofs.Qxb6603177a
open Go.RowKit

set_option maxRecDepth 100000 in
set_option maxHeartbeats 1000000 in
theorem numberEnd_some (b off n c : Nat) (f : Nat → Int) (i : Nat) (w : World) (hn : n ≤ 1048576) (hi : i < n) (hB : Bytes w (some ⟨b, off, none⟩) n b off f) :
    Calls Try.prog 16 #[.slice (some ⟨b, off, none⟩) n c, .int .i64 i] w fun e w' => e = .returned (.int .i64 (endAt i (numEnd (suf f n i)))) ∧ w' = w := by
  have HB : Hid (Bytes w (some ⟨b, off, none⟩) n b off f) := hB
  have HC : Hid (∀ p, p < n → w.cell? ⟨b, off + p, none⟩ = some (.int .u8 (f p))) := hB.2.1
  clear hB
  generalize hR : endAt i (numEnd (suf f n i)) = R
  have HR : Hid (endAt i (numEnd (suf f n i)) = R) := hR
  clear hR
  go_enter Try.func16, Try.ntmps16
  apply wp_seq_k; intro K0 hK0
  go_cut [4] (fun s4 wx => s4 = .int .i64 0 ∧ wx = w)
  case first =>
    go_wp2
    go_meet
    exact ⟨rfl, rfl⟩
  case rest =>
    obtain ⟨rfl, hw⟩ := hcut
    subst hw
    apply hK0
    clear hK0
    apply wp_seq_k; intro K1 hK1
    go_cut [1] (fun s1 wx => ∃ p : Nat, s1 = .int .i64 p ∧ p ≤ n ∧ p = i + sgn (suf f n i) ∧ wx = wc)
    case first =>
      clear hK1
      have hcx := HC.out i hi
      have hltz : (i : Int) < (n : Int) := by omega
      go_wp2
      · have h1 := sgn_yes (f := f) hi (by assumption)
        go_meet
        exact ⟨i + 1, by go_num, by omega, by omega, rfl⟩
      · have h1 := sgn_no (f := f) hi (by assumption)
        go_meet
        exact ⟨i, by go_num, by omega, by omega, rfl⟩
    case rest =>
      obtain ⟨p, rfl, hp, hpe, hw⟩ := hcut
      subst hw
      have HP : Hid (p = i + sgn (suf f n i)) := hpe
      clear hpe
      apply hK1
      clear hK1
      apply wp_seq_k; intro K2 hK2
      go_cut [1] (fun s1 wx => ∃ a : Nat, s1 = .int .i64 ((p : Int) + (a : Int)) ∧ p + a ≤ n ∧ intl (suf f n p) = some a ∧ wx = wc)
      case first =>
        clear hK2
        by_cases hlt : p < n
        · have hcx := HC.out p hlt
          have hltz : (p : Int) < (n : Int) := by omega
          go_wp2_with (go_at_call 20; refine (digitsEnd_any _ b off n c f p _ hn hp HB.out).mono ?_; rintro e w' ⟨rfl, rfl⟩)
          all_goals first
            | (have h1 := intl_zero (f := f) hlt (by assumption)
               go_meet
               exact ⟨1, by go_num, by omega, h1, rfl⟩)
            | (have h1 := intl_dig (f := f) hlt (by assumption) (by assumption)
               have h2 := digs_room (f := f) (n := n) (p := p)
               go_meet
               exact ⟨_, rfl, by omega, h1, rfl⟩)
            | (have h1 := intl_none (f := f) hlt (by assumption) (by omega)
               go_ret
               exact ⟨ret_int (by rw [← HR.out, end_int (by rw [← HP.out]; exact h1)]), rfl⟩)
        · have hd : decide ((p : Int) < (n : Int)) = false := decide_eq_false (by omega)
          have h1 := intl_off (f := f) (n := n) (p := p) (by omega)
          have H1 : Hid _ := h1
          clear h1
          go_wp2
          go_ret
          exact ⟨ret_int (by rw [← HR.out, end_int (by rw [← HP.out]; exact H1.out)]), rfl⟩
      case rest =>
        obtain ⟨a, rfl, hq, ha, hw⟩ := hcut
        subst hw
        have HI : Hid (intl (suf f n p) = some a) := ha
        clear ha hp
        obtain ⟨q, hqe⟩ : ∃ q : Nat, q = p + a := ⟨_, rfl⟩
        rw [show (p : Int) + (a : Int) = (q : Int) by omega]
        have HQ : Hid (q = p + a) := hqe
        replace hq : q ≤ n := by omega
        clear hqe
        apply hK2
        clear hK2
        apply wp_seq_k; intro K3 hK3
        go_cut [1] (fun s1 wx => ∃ r : Nat, s1 = .int .i64 ((q : Int) + (r : Int)) ∧ q + r ≤ n ∧ frac (suf f n q) = some r ∧ wx = wc)
        case first =>
          clear hK3
          by_cases hlt : q < n
          · have hcx := HC.out q hlt
            have hltz : (q : Int) < (n : Int) := by omega
            have h2 := digs_room (f := f) (n := n) (p := q + 1)
            by_cases hd0 : digs (suf f n (q + 1)) = 0
            · have H0 : Hid (digs (suf f n (q + 1)) = 0) := hd0
              clear hd0
              go_wp2_with (go_at_call 20; refine (digitsEnd_int _ b off n c f (q + 1) _ (by omega) _ hn (by omega) HB.out).mono ?_; rw [H0.out]; rintro e w' ⟨rfl, rfl⟩)
              · have h1 := frac_none (f := f) hlt (by assumption) H0.out
                go_ret
                exact ⟨ret_int (by rw [← HR.out, end_frac (by rw [← HP.out]; exact HI.out) (by rw [← HP.out, ← HQ.out]; exact h1)]), rfl⟩
              · have h1 := frac_not (f := f) hlt (by assumption)
                go_meet
                exact ⟨0, by go_num, by omega, h1, rfl⟩
            · obtain ⟨d, hd⟩ : ∃ d, digs (suf f n (q + 1)) = d + 1 := ⟨digs (suf f n (q + 1)) - 1, by omega⟩
              have HD : Hid (digs (suf f n (q + 1)) = d + 1) := hd
              have hdig := digs_at f n (q + 1) d (by omega)
              simp [isD] at hdig
              have hcy := HC.out (q + 1 + d) (by omega)
              have hqd : (q : Int) + 1 + (d : Int) < (n : Int) := by omega
              have hd46 : (f (q + 1 + d) == 46) = false := by simp; omega
              clear hd hd0 h2
              go_wp2_with (go_at_call 20; refine (digitsEnd_int _ b off n c f (q + 1) _ (by omega) _ hn (by omega) HB.out).mono ?_; rw [HD.out]; rintro e w' ⟨rfl, rfl⟩)
              · have h1 := frac_some (f := f) hlt (by assumption) (by rw [HD.out]; omega)
                have h2 := digs_room (f := f) (n := n) (p := q + 1)
                have h3 := HD.out
                go_meet
                exact ⟨1 + (d + 1), by go_num, by omega, by rw [h1, h3], rfl⟩
              · have h1 := frac_not (f := f) hlt (by assumption)
                go_meet
                exact ⟨0, by go_num, by omega, h1, rfl⟩
          · have hd : decide ((q : Int) < (n : Int)) = false := decide_eq_false (by omega)
            have h1 := frac_off (f := f) (n := n) (p := q) (by omega)
            have H1 : Hid _ := h1
            clear h1
            go_wp2
            go_meet
            exact ⟨0, by go_num, by omega, H1.out, rfl⟩
        case rest =>
          obtain ⟨r, rfl, hr, hfr, hw⟩ := hcut
          subst hw
          obtain ⟨t, hte⟩ : ∃ t : Nat, t = q + r := ⟨_, rfl⟩
          rw [show (q : Int) + (r : Int) = (t : Int) by omega]
          have ht : t ≤ n := by omega
          have HEND : Hid (∀ m, expo (suf f n t) = some m → R = (t : Int) + (m : Int)) := fun m hm => by
            have h := end_all (c := m) (by rw [← HP.out]; exact HI.out) (by rw [← HP.out, ← HQ.out]; exact hfr) (by rw [← HP.out, ← HQ.out, ← hte]; exact hm)
            rw [← HR.out, h, ← HP.out, ← HQ.out, ← hte]; omega
          have HNONE : Hid (expo (suf f n t) = none → R = -1) := fun hm => by
            have h := end_expo (by rw [← HP.out]; exact HI.out) (by rw [← HP.out, ← HQ.out]; exact hfr) (by rw [← HP.out, ← HQ.out, ← hte]; exact hm)
            rw [← HR.out, h]
          clear hfr hte hr hq
          apply hK3
          clear hK3
          by_cases hlt : t < n
          · have hcx := HC.out t hlt
            have hltz : (t : Int) < (n : Int) := by omega
            by_cases he : f t = 101 ∨ f t = 69
            · obtain ⟨s, hs⟩ : ∃ s, esgn (suf f n (t + 1)) = s := ⟨_, rfl⟩
              obtain ⟨D, hD⟩ : ∃ D, digs (suf f n (t + 1 + s)) = D := ⟨_, rfl⟩
              have hx := expo_is hlt he hs
              rw [hD] at hx
              have HX : Hid (expo (suf f n t) = if D = 0 then none else some (1 + s + D)) := hx
              have HD : Hid (digs (suf f n (t + 1 + s)) = D) := hD
              clear hx hD
              have step : (t + 1 < n ∧ (f (t + 1) = 43 ∨ f (t + 1) = 45) ∧ s = 1) ∨ (t + 1 < n ∧ (f (t + 1) == 43) = false ∧ (f (t + 1) == 45) = false ∧ s = 0) ∨ (¬ t + 1 < n ∧ s = 0) := by
                by_cases hl2 : t + 1 < n
                · by_cases hsg : f (t + 1) = 43 ∨ f (t + 1) = 45
                  · exact .inl ⟨hl2, hsg, by rw [← hs, esgn_yes hl2 hsg]⟩
                  · have h43 : (f (t + 1) == 43) = false := by simp; omega
                    have h45 : (f (t + 1) == 45) = false := by simp; omega
                    exact .inr (.inl ⟨hl2, h43, h45, by rw [← hs, esgn_no hl2 h43 h45]⟩)
                · exact .inr (.inr ⟨hl2, by rw [← hs, esgn_off (by omega)]⟩)
              clear hs
              rcases step with ⟨hl2, hsg, rfl⟩ | ⟨hl2, h43, h45, rfl⟩ | ⟨hl2, rfl⟩
              · have hroom := digs_room (f := f) (n := n) (p := t + 1 + 1)
                have hcy := HC.out (t + 1) hl2
                have hl2z : (t : Int) + 1 < (n : Int) := by omega
                rw [HD.out] at hroom
                rcases Nat.eq_zero_or_pos D with hD0 | hD0
                · subst hD0
                  have h1 := HNONE.out (by rw [HX.out, if_pos rfl])
                  have H1 : Hid _ := h1
                  clear h1
                  rcases he with he | he <;> rcases hsg with hsg | hsg
                  all_goals
                    go_wp2_with (go_at_call 20; refine (digitsEnd_int _ b off n c f (t + 1 + 1) _ (by omega) _ hn (by omega) HB.out).mono ?_; rw [HD.out]; rintro e w' ⟨rfl, rfl⟩)
                    go_ret
                    exact ⟨ret_int H1.out.symm, rfl⟩
                · have h1 := HEND.out (1 + 1 + D) (by rw [HX.out, if_neg (by omega)])
                  have H1 : Hid _ := h1
                  clear h1
                  rcases he with he | he <;> rcases hsg with hsg | hsg
                  all_goals
                    go_wp2_with (go_at_call 20; refine (digitsEnd_int _ b off n c f (t + 1 + 1) _ (by omega) _ hn (by omega) HB.out).mono ?_; rw [HD.out]; rintro e w' ⟨rfl, rfl⟩)
                    go_ret
                    exact ⟨ret_int (by have := H1.out; omega), rfl⟩
              · have hroom := digs_room (f := f) (n := n) (p := t + 1 + 0)
                have hcy := HC.out (t + 1) hl2
                have hl2z : (t : Int) + 1 < (n : Int) := by omega
                rw [HD.out] at hroom
                rcases Nat.eq_zero_or_pos D with hD0 | hD0
                · subst hD0
                  have h1 := HNONE.out (by rw [HX.out, if_pos rfl])
                  have H1 : Hid _ := h1
                  clear h1
                  rcases he with he | he
                  all_goals
                    go_wp2_with (go_at_call 20; refine (digitsEnd_int _ b off n c f (t + 1 + 0) _ (by omega) _ hn (by omega) HB.out).mono ?_; rw [HD.out]; rintro e w' ⟨rfl, rfl⟩)
                    go_ret
                    exact ⟨ret_int H1.out.symm, rfl⟩
                · have h1 := HEND.out (1 + 0 + D) (by rw [HX.out, if_neg (by omega)])
                  have H1 : Hid _ := h1
                  clear h1
                  rcases he with he | he
                  all_goals
                    go_wp2_with (go_at_call 20; refine (digitsEnd_int _ b off n c f (t + 1 + 0) _ (by omega) _ hn (by omega) HB.out).mono ?_; rw [HD.out]; rintro e w' ⟨rfl, rfl⟩)
                    go_ret
                    exact ⟨ret_int (by have := H1.out; omega), rfl⟩
              · have hl2d : decide ((t : Int) + 1 < (n : Int)) = false := decide_eq_false (by omega)
                have hl2z : ¬ ((t : Int) + 1 < (n : Int)) := by omega
                have hd0 : D = 0 := by rw [← HD.out]; exact digs_miss (fun h => by omega)
                subst hd0
                have h1 := HNONE.out (by rw [HX.out, if_pos rfl])
                have H1 : Hid _ := h1
                clear h1
                rcases he with he | he
                all_goals
                  go_wp2_with (go_at_call 20; refine (digitsEnd_int _ b off n c f (t + 1 + 0) _ (by omega) _ hn (by omega) HB.out).mono ?_; rw [HD.out]; rintro e w' ⟨rfl, rfl⟩)
                  go_ret
                  exact ⟨ret_int H1.out.symm, rfl⟩
            · have h101 : (f t == 101) = false := by simp; omega
              have h69 : (f t == 69) = false := by simp; omega
              have h1 := HEND.out 0 (expo_not hlt h101 h69)
              have H1 : Hid _ := h1
              clear h1
              go_wp2
              go_ret
              exact ⟨ret_int (by have := H1.out; omega), rfl⟩
          · have hd : decide ((t : Int) < (n : Int)) = false := decide_eq_false (by omega)
            have h1 := HEND.out 0 (expo_off (by omega))
            have H1 : Hid _ := h1
            clear h1
            go_wp2
            go_ret
            exact ⟨ret_int (by have := H1.out; omega), rfl⟩

end Go.Proofs.Qxb6603177a

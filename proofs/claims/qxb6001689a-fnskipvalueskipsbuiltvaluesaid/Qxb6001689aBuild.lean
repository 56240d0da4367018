/-
  The walk of zzBuildValue (18): some text that is one whole value.
-/
import Derived.Test.Qxb6001689aRels
import Derived.Deep.CutBlock
import Derived.Deep.DeepCutAuto
namespace Go.Proofs.Qxb6001689a
open Go.RowKit

set_option maxRecDepth 100000 in
set_option maxHeartbeats 8000000 in
theorem build_any (a1 a2 a3 : Option Addr) (g1 g2 g3 n1 n2 n3 c1 c2 c3 : Nat) (w : World) (hn1 : n1 ≤ 4096) (hn2 : n2 ≤ 65536) (hn3 : n3 ≤ 65536)
    (ha1 : 0 < n1 → a1 = some ⟨g1, 0, none⟩) (ha2 : 0 < n2 → a2 = some ⟨g2, 0, none⟩) (ha3 : 0 < n3 → a3 = some ⟨g3, 0, none⟩)
    (h1 : ∀ i, i < n1 → ∃ x : Nat, w.cell? ⟨g1, i, none⟩ = some (.int .u8 (x : Nat)) ∧ x ≤ 255)
    (h2 : ∀ i, i < n2 → ∃ k : Int, w.cell? ⟨g2, i, none⟩ = some (.int .i64 k) ∧ -9223372036854775808 ≤ k ∧ k ≤ 9223372036854775807)
    (h3 : ∀ i, i < n3 → ∃ s : ByteArray, w.cell? ⟨g3, i, none⟩ = some (.string s) ∧ s.size ≤ 1048576) :
    Calls Try.prog 18 #[.slice a1 n1 c1, .slice a2 n2 c2, .slice a3 n3 c3] w fun e w' => ∃ v x, e = .returned v ∧ Built x ∧ w'.ownsRow w.heap.size 5 1 v (bytesV x).length (bytesV x) ∧ Below w.heap.size w w' := by
  have HA1 : Hid (0 < n1 → a1 = some ⟨g1, 0, none⟩) := ha1
  have HA2 : Hid (0 < n2 → a2 = some ⟨g2, 0, none⟩) := ha2
  have HA3 : Hid (0 < n3 → a3 = some ⟨g3, 0, none⟩) := ha3
  have H1 : Hid (∀ i, i < n1 → ∃ x : Nat, w.cell? ⟨g1, i, none⟩ = some (.int .u8 (x : Nat)) ∧ x ≤ 255) := h1
  have H2 : Hid (∀ i, i < n2 → ∃ k : Int, w.cell? ⟨g2, i, none⟩ = some (.int .i64 k) ∧ -9223372036854775808 ≤ k ∧ k ≤ 9223372036854775807) := h2
  have H3 : Hid (∀ i, i < n3 → ∃ s : ByteArray, w.cell? ⟨g3, i, none⟩ = some (.string s) ∧ s.size ≤ 1048576) := h3
  clear ha1 ha2 ha3 h1 h2 h3
  go_enter Try.func18, Try.ntmps18
  go_upto_block 0 with fail
  go_cut [7, 8, 10] (fun o k s wx => ∃ (L K : List Nat) (st : Bool), s = .bool st ∧ Aft w wx o k st L K)
  case first =>
    go_wp2_with fail
    go_loopg [7, 8, 9, 10, 11, 12, 13, 24] n1 (fun gk o k f s ni si ks i wr => ∃ (I : Nat) (st : Bool) (L K : List Nat) (F : List Bool) (NI SI KS : Nat), I ≤ n1 ∧ gk = n1 - I ∧ i = .int .i64 I ∧ s = .bool st ∧ ni = .int .i64 NI ∧ si = .int .i64 SI ∧ ks = .int .i64 KS ∧ Rel w wr I o k f st L K F NI SI KS)
    case atStart => exact ⟨0, false, [], [], [], 0, 0, 0, Nat.zero_le _, rfl, rfl, rfl, rfl, rfl, rfl, St.start w, rfl, .inl ⟨rfl, rfl, rfl⟩, Nat.zero_le _, Nat.zero_le _, (fun c h => by cases h), Nat.le_refl _, Nat.le_refl _, Nat.le_refl _⟩
    case round =>
      obtain ⟨I, st, L, K, F, NI, SI, KS, hI, rfl, rfl, rfl, rfl, rfl, rfl, hrl⟩ := hrel
      have HR : Hid (Rel w wr I u7 u8 u9 st L K F NI SI KS) := hrl
      clear hrl
      by_cases hlt : I < n1
      · have hltz : (I : Int) < (n1 : Int) := by omega
        obtain ⟨x, hx, hx255⟩ := H1.out I hlt
        have hcx := cell_later HR.out.s.bel hx
        obtain rfl := HA1.out (by omega)
        clear hx
        obtain ⟨ak, ck, hk, hkc, hkm, hkg⟩ := HR.out.s.kform
        have HKG : Hid (0 < K.length → ∃ g, ak = some ⟨g, 0, none⟩) := hkg
        clear hkg
        subst hk
        obtain ⟨d, hd⟩ : ∃ d, d = K.length := ⟨_, rfl⟩
        have HD : Hid (d = K.length) := hd
        rw [← hd] at HR HKG hkc ⊢
        clear hd
        unfold maxLen at hkm
        go_upto_region 9 with fail
        by_cases hbr : st = true ∧ d = 0
        · obtain ⟨rfl, rfl⟩ := hbr
          go_wp2_with fail
          go_meet
          exact ⟨L, K, true, rfl, HR.out.aft hI hn1⟩
        · go_cut [33] (fun s wx => s = .bool false ∧ wx = wr)
          case first =>
            cases st with
            | false =>
              go_wp2_with fail
              go_meet
              exact ⟨rfl, rfl⟩
            | true =>
              have hd0 : ((d : Int) == 0) = false := by simp at hbr; simp; omega
              go_wp2_with fail
              go_meet
              exact ⟨rfl, rfl⟩
          case rest =>
            obtain ⟨rfl, hw⟩ := hcut
            subst hw
            have hmod : (x : Int).tmod 6 = ((x % 6 : Nat) : Int) := rfl
            have hdv : (x : Int).tdiv 6 = ((x / 6 : Nat) : Int) := rfl
            have hkk : x % 6 < 6 := Nat.mod_lt _ (by decide)
            generalize x % 6 = kk at hmod hkk
            by_cases hk2 : kk = 2
            · have e2 : ((kk : Int) == 2) = true := by simp; omega
              by_cases hd : d = 0
              · subst hd
                go_wp2_with fail
                go_roundg (n1 - (I + 1))
                case measure => omega
                case rel => exact ⟨I + 1, st, L, K, F, NI, SI, KS, by omega, rfl, by go_num, rfl, rfl, rfl, rfl, HR.out.next⟩
              · obtain ⟨e, rfl⟩ : ∃ e, d = e + 1 := ⟨d - 1, by omega⟩
                obtain ⟨g, rfl⟩ := HKG.out (by omega)
                obtain ⟨af, cf, hf, hfc, hfm, hfg⟩ := HR.out.s.fform
                rw [HR.out.fl, ← HD.out] at hf hfc hfg
                obtain ⟨gf, rfl⟩ := hfg (by omega)
                clear hfg
                subst hf
                unfold maxLen at hfm
                obtain ⟨c, hc⟩ := HR.out.s.kat (j := e) (by omega)
                have hez : (0 : Int) < ((e + 1 : Nat) : Int) := by omega
                have HLL : Hid (L.length ≤ 100000000000) := by have := HR.out.len; show _ ≤ _; omega
                by_cases h91 : c = 91
                · have e3 : ((c : Int) == 91) = true := by simp; omega
                  go_wp2_with (at_builtin; refine wpList_grow _ rfl _ _ 22 22 rfl w.heap.size 5 (.int .u8 0) 1 Try.underlying22 info5 rfl u7 (bytesV L) rfl wc HR.out.s.o1 (grown_alloc (grown_refl _) _) _ _ _ rfl (lits_src _ _ [93] (by simp)) (by decide) ?c2 (by decide) ?c3 ?_)
                  case c2 => have := HLL.out; rw [bytesV_length]; simp; omega
                  case c3 => exact HR.out.s.hb
                  intro v1 w1 HG1
                  go_wp2
                  go_roundg (n1 - (I + 1))
                  case measure => omega
                  case rel => exact ⟨I + 1, st, _, _, _, NI, SI, KS, by omega, rfl, by go_num, rfl, rfl, rfl, rfl, HR.out.pop HD.out (.inr rfl) HG1.out⟩
                · have e3 : ((c : Int) == 91) = false := by simp; omega
                  go_wp2_with (at_builtin; refine wpList_grow _ rfl _ _ 22 22 rfl w.heap.size 5 (.int .u8 0) 1 Try.underlying22 info5 rfl u7 (bytesV L) rfl wc HR.out.s.o1 (grown_alloc (grown_refl _) _) _ _ _ rfl (lits_src _ _ [125] (by simp)) (by decide) ?d2 (by decide) ?d3 ?_)
                  case d2 => have := HLL.out; rw [bytesV_length]; simp; omega
                  case d3 => exact HR.out.s.hb
                  intro v1 w1 HG1
                  go_wp2
                  go_roundg (n1 - (I + 1))
                  case measure => omega
                  case rel => exact ⟨I + 1, st, _, _, _, NI, SI, KS, by omega, rfl, by go_num, rfl, rfl, rfl, rfl, HR.out.pop HD.out (.inl rfl) HG1.out⟩
            · have e2 : ((kk : Int) == 2) = false := by simp; omega
              go_upto_if 63 with fail
              clear hcx
              have HM : Hid (Mid 0 w wc I u7 (.slice ak d ck) u9 L K F NI SI KS) := HR.out.mid (fun h => by have := HD.out; simp [h] at hbr; omega)
              have HKS : Hid (KS ≤ I) := HR.out.ksl
              clear HR hbr
              go_cut [7, 9, 13] (fun o f ks wx => ∃ (L' : List Nat) (F' : List Bool) (KS' : Nat), ks = .int .i64 KS' ∧ Mid 25 w wx I o (.slice ak d ck) f L' K F' NI SI KS')
              case first =>
                by_cases hd : d = 0
                · subst hd
                  go_wp2_with fail
                  go_meet
                  exact ⟨L, F, KS, rfl, HM.out.mono (by omega)⟩
                · obtain ⟨e, rfl⟩ : ∃ e, d = e + 1 := ⟨d - 1, by omega⟩
                  obtain ⟨g, rfl⟩ := HKG.out (by omega)
                  obtain ⟨af, cf, hf, hfc, hfm, hfg⟩ := HM.out.s.fform
                  rw [HM.out.fl, ← HD.out] at hf hfc hfg
                  obtain ⟨gf, rfl⟩ := hfg (by omega)
                  clear hfg
                  subst hf
                  unfold maxLen at hfm
                  have hez : (0 : Int) < ((e + 1 : Nat) : Int) := by omega
                  obtain ⟨q, hq⟩ := HM.out.s.fat (j := e) (by omega)
                  have HLL : Hid (L.length ≤ 100000000000) := by have := HM.out.len; show _ ≤ _; omega
                  go_upto_if 71 with fail
                  clear hq
                  go_cut [7] (fun o wx => ∃ L' : List Nat, Mid 1 w wx I o (.slice (some ⟨g, 0, none⟩) (e + 1) ck) (.slice (some ⟨gf, 0, none⟩) (e + 1) cf) L' K F NI SI KS)
                  case first =>
                    cases q with
                    | true =>
                      go_wp2_with fail
                      go_meet
                      exact ⟨L, HM.out.mono (by omega)⟩
                    | false =>
                      go_wp2_with (at_builtin; refine wpList_grow _ rfl _ _ 22 22 rfl w.heap.size 5 (.int .u8 0) 1 Try.underlying22 info5 rfl u7 (bytesV L) rfl wc HM.out.s.o1 (grown_alloc (grown_refl _) _) _ _ _ rfl (lits_src _ _ [44] (by simp)) (by decide) ?e2 (by decide) ?e3 ?_)
                      case e2 => have := HLL.out; rw [bytesV_length]; simp; omega
                      case e3 => exact HM.out.s.hb
                      intro v1 w1 HG1
                      go_wp2_with fail
                      go_meet
                      exact ⟨_, HM.out.comma HD.out HG1.out⟩
                  case rest =>
                    clear HM HLL
                    obtain ⟨L1, hm⟩ := hcut
                    have HM : Hid (Mid 1 w wc I u7 (.slice (some ⟨g, 0, none⟩) (e + 1) ck) (.slice (some ⟨gf, 0, none⟩) (e + 1) cf) L1 K F NI SI KS) := hm
                    clear hm
                    have HLL : Hid (L1.length ≤ 100000000000) := by have := HM.out.len; show _ ≤ _; omega
                    have hfz := HM.out.s.ffz (j := e)
                    obtain ⟨q2, hq2⟩ := HM.out.s.fat (j := e) (by omega)
                    go_upto_region 24 with fail
                    clear hfz hq2
                    have HM2 : Hid (Mid 1 w (wc.setCell ⟨gf, e, none⟩ (.bool false)) I u7 (.slice (some ⟨g, 0, none⟩) (e + 1) ck) (.slice (some ⟨gf, 0, none⟩) (e + 1) cf) L1 K (F.set e false) NI SI KS) := HM.out.store
                    clear HM
                    generalize wc.setCell ⟨gf, e, none⟩ (.bool false) = W2 at HM2 ⊢
                    obtain ⟨c, hc⟩ := HM2.out.s.kat (j := e) (by omega)
                    by_cases h123 : c = 123
                    · have e3 : ((c : Int) == 123) = true := by simp; omega
                      go_wp2_with (at_builtin; refine wpList_grow _ rfl _ _ 22 22 rfl w.heap.size 5 (.int .u8 0) 1 Try.underlying22 info5 rfl u7 (bytesV L1) rfl W2 HM2.out.s.o1 (grown_alloc (grown_refl _) _) _ _ _ rfl (lits_src _ _ [34] (by simp)) (by decide) ?f2 (by decide) ?f3 ?_)
                      case f2 => have := HLL.out; rw [bytesV_length]; simp; omega
                      case f3 => exact HM2.out.s.hb
                      intro v1 w1 HG1
                      have HG1b : Hid (Grew w.heap.size 5 W2 w1 u7 v1 (bytesV (L1 ++ [34]))) := by rw [bytesV_append]; exact HG1.out
                      have HB1 : Hid (w.heap.size ≤ w1.heap.size) := Nat.le_trans HM2.out.s.hb HG1.out.gr.size
                      have HKZ : Hid (-9223372036854775808 ≤ (KS : Int) ∧ (KS : Int) ≤ 9223372036854775807) := by have := HKS.out; show _ ∧ _; omega
                      have HI : Hid (Calls Try.prog 42 #[v1, .int .i64 (KS : Int)] w1 fun e w' => ∃ v' L2, e = .returned v' ∧ Hid (∃ x, L2 = (L1 ++ [34]) ++ x ∧ Digits x 21) ∧ Grew w.heap.size 5 w1 w' v1 v' (bytesV L2)) := (appint_any _ _ _ _ _ HKZ.out HG1b.out.own (by have := HLL.out; simp; omega) HB1.out).mono (fun e w' ⟨v', x, h1, h2, h3⟩ => ⟨v', _, h1, ⟨x, rfl, h2⟩, h3⟩)
                      clear HG1 HKZ hc
                      have hksb := HKS.out
                      go_wp2_with (first | (go_at_call 42; refine HI.out.mono ?_; rintro e4 w4 ⟨v2, L2, rfl, hdy, hg2⟩) | (at_builtin; refine wpList_grow _ rfl _ _ 22 22 rfl w.heap.size 5 (.int .u8 0) 1 Try.underlying22 info5 rfl v2 (bytesV L2) rfl w4 hg2.own (grown_alloc (grown_refl _) _) _ _ _ rfl (lits_src _ _ [34, 58] (by simp)) (by decide) ?g2 (by decide) ?g3 ?_))
                      case g2 =>
                        obtain ⟨y, hy, hd⟩ := hdy.out
                        have := HLL.out
                        have := hd.len
                        rw [bytesV_length, hy]
                        simp
                        omega
                      case g3 => exact Nat.le_trans HB1.out hg2.gr.size
                      have HG2 : Hid (Grew w.heap.size 5 w1 w4 v1 v2 (bytesV L2)) := hg2
                      clear hg2 HI
                      intro v3 w3 HG3
                      go_wp2_with fail
                      go_meet
                      obtain ⟨y, rfl, hd⟩ := hdy.out
                      exact ⟨_, _, KS + 1, by go_num, HM2.out.key HD.out hd (by rw [bytesV_append]; exact (HG1b.out.trans HG2.out).trans HG3.out) (by have := HKS.out; omega)⟩
                    · have e3 : ((c : Int) == 123) = false := by simp; omega
                      go_wp2_with fail
                      go_meet
                      exact ⟨L1, _, KS, rfl, HM2.out.mono (by omega)⟩
              case rest =>
                clear HM HKS
                obtain ⟨L1, F1, KS1, rfl, hm⟩ := hcut
                have HM : Hid (Mid 25 w wc I u7 (.slice ak d ck) u9 L1 K F1 NI SI KS1) := hm
                clear hm
                have HLL : Hid (L1.length ≤ 100000000000) := by have := HM.out.len; show _ ≤ _; omega
                have hks : kk = 0 ∨ kk = 1 ∨ kk = 3 ∨ kk = 4 ∨ kk = 5 := by omega
                rcases hks with hks | hks | hks | hks | hks
                · have k0 : ((kk : Int) == 0) = true := by simp; omega
                  go_wp2_with (at_builtin; refine wpList_grow _ rfl _ _ 22 22 rfl w.heap.size 5 (.int .u8 0) 1 Try.underlying22 info5 rfl u7 (bytesV L1) rfl wc HM.out.s.o1 (grown_alloc (grown_refl _) _) _ _ _ rfl (lits_src _ _ [91] (by simp)) (by decide) ?ia2 (by decide) ?ia3 ?_)
                  case ia2 => have := HLL.out; rw [bytesV_length]; simp; omega
                  case ia3 => exact HM.out.s.hb
                  intro v1 w1 HG1
                  have HS1 : Hid (St w w1 v1 (.slice ak d ck) u9 (L1 ++ [91]) K F1) := HM.out.s.addO (by rw [bytesV_append]; exact HG1.out)
                  clear HG1
                  go_wp2_with (at_builtin; refine wpList_grow _ rfl _ _ 22 22 rfl w.heap.size 5 (.int .u8 0) 1 Try.underlying22 info5 rfl (.slice ak d ck) (bytesV K) rfl w1 HS1.out.o2 (grown_alloc (grown_refl _) _) _ _ _ rfl (lits_src _ _ [91] (by simp)) (by decide) ?ib2 (by decide) ?ib3 ?_)
                  case ib2 => have := HM.out.kl; rw [bytesV_length]; simp; omega
                  case ib3 => exact HS1.out.hb
                  intro v2 w2 HG2
                  have HS2 : Hid (St w w2 v1 v2 u9 (L1 ++ [91]) (K ++ [91]) F1) := HS1.out.addK (by rw [bytesV_append]; exact HG2.out)
                  clear HG2 HS1
                  go_wp2_with (at_builtin; refine wpList_grow _ rfl _ _ 49 49 rfl w.heap.size 4 (.bool false) 1 Try.underlying49 info4 rfl u9 (boolsV F1) rfl w2 HS2.out.o3 (grown_alloc (grown_refl _) _) _ _ _ rfl (true_src _ _ (by simp)) (by decide) ?ic2 (by decide) ?ic3 ?_)
                  case ic2 => have := HM.out.kl; have := HM.out.fl; rw [boolsV_length]; omega
                  case ic3 => exact HS2.out.hb
                  intro v3 w3 HG3
                  have HS3 : Hid (St w w3 v1 v2 v3 (L1 ++ [91]) (K ++ [91]) (F1 ++ [true])) := HS2.out.addF (by rw [boolsV_append]; exact HG3.out)
                  clear HG3 HS2
                  go_wp2
                  go_roundg (n1 - (I + 1))
                  case measure => omega
                  case rel => exact ⟨I + 1, true, _, _, _, NI, SI, KS1, by omega, rfl, by go_num, rfl, rfl, rfl, rfl, HM.out.opened (.inr rfl) HS3.out⟩
                · have k0 : ((kk : Int) == 0) = false := by simp; omega
                  have k1 : ((kk : Int) == 1) = true := by simp; omega
                  go_wp2_with (at_builtin; refine wpList_grow _ rfl _ _ 22 22 rfl w.heap.size 5 (.int .u8 0) 1 Try.underlying22 info5 rfl u7 (bytesV L1) rfl wc HM.out.s.o1 (grown_alloc (grown_refl _) _) _ _ _ rfl (lits_src _ _ [123] (by simp)) (by decide) ?ja2 (by decide) ?ja3 ?_)
                  case ja2 => have := HLL.out; rw [bytesV_length]; simp; omega
                  case ja3 => exact HM.out.s.hb
                  intro v1 w1 HG1
                  have HS1 : Hid (St w w1 v1 (.slice ak d ck) u9 (L1 ++ [123]) K F1) := HM.out.s.addO (by rw [bytesV_append]; exact HG1.out)
                  clear HG1
                  go_wp2_with (at_builtin; refine wpList_grow _ rfl _ _ 22 22 rfl w.heap.size 5 (.int .u8 0) 1 Try.underlying22 info5 rfl (.slice ak d ck) (bytesV K) rfl w1 HS1.out.o2 (grown_alloc (grown_refl _) _) _ _ _ rfl (lits_src _ _ [123] (by simp)) (by decide) ?jb2 (by decide) ?jb3 ?_)
                  case jb2 => have := HM.out.kl; rw [bytesV_length]; simp; omega
                  case jb3 => exact HS1.out.hb
                  intro v2 w2 HG2
                  have HS2 : Hid (St w w2 v1 v2 u9 (L1 ++ [123]) (K ++ [123]) F1) := HS1.out.addK (by rw [bytesV_append]; exact HG2.out)
                  clear HG2 HS1
                  go_wp2_with (at_builtin; refine wpList_grow _ rfl _ _ 49 49 rfl w.heap.size 4 (.bool false) 1 Try.underlying49 info4 rfl u9 (boolsV F1) rfl w2 HS2.out.o3 (grown_alloc (grown_refl _) _) _ _ _ rfl (true_src _ _ (by simp)) (by decide) ?jc2 (by decide) ?jc3 ?_)
                  case jc2 => have := HM.out.kl; have := HM.out.fl; rw [boolsV_length]; omega
                  case jc3 => exact HS2.out.hb
                  intro v3 w3 HG3
                  have HS3 : Hid (St w w3 v1 v2 v3 (L1 ++ [123]) (K ++ [123]) (F1 ++ [true])) := HS2.out.addF (by rw [boolsV_append]; exact HG3.out)
                  clear HG3 HS2
                  go_wp2
                  go_roundg (n1 - (I + 1))
                  case measure => omega
                  case rel => exact ⟨I + 1, true, _, _, _, NI, SI, KS1, by omega, rfl, by go_num, rfl, rfl, rfl, rfl, HM.out.opened (.inl rfl) HS3.out⟩
                · have k0 : ((kk : Int) == 0) = false := by simp; omega
                  have k1 : ((kk : Int) == 1) = false := by simp; omega
                  have k3 : ((kk : Int) == 3) = true := by simp; omega
                  by_cases hni : NI < n2
                  · have hniz : (NI : Int) < (n2 : Int) := by omega
                    obtain ⟨k, hk, hk1, hk2'⟩ := H2.out NI hni
                    have hcx := cell_later HM.out.s.bel hk
                    obtain rfl := HA2.out (by omega)
                    clear hk
                    have HN : Hid (Calls Try.prog 43 #[u7, .int .i64 k] wc fun e w' => ∃ v' x, e = .returned v' ∧ Digits x 27 ∧ Grew w.heap.size 5 wc w' u7 v' (bytesV (L1 ++ x))) := number_any _ _ _ _ _ (by omega) HM.out.s.o1 (by have := HLL.out; omega) HM.out.s.hb
                    go_wp2_with (first | (go_at_call 43; refine HN.out.mono ?_; rintro e4 w4 ⟨v2, y, rfl, hdy, hg2⟩))
                    have HDY : Hid (Digits y 27) := hdy
                    have HG2 : Hid (Grew w.heap.size 5 wc w4 u7 v2 (bytesV (L1 ++ y))) := hg2
                    clear hdy hg2 HN
                    go_wp2
                    go_roundg (n1 - (I + 1))
                    case measure => omega
                    case rel => exact ⟨I + 1, true, _, K, F1, NI + 1, SI, KS1, by omega, rfl, by go_num, rfl, by go_num, rfl, rfl, HM.out.plain HDY.out.plain HDY.out.pos (by have := HDY.out.len; omega) HDY.out.byte HG2.out (by have := HM.out.nil; omega) (by have := HM.out.sil; omega)⟩
                  · have hniz : ¬ (NI : Int) < (n2 : Int) := by omega
                    have HN : Hid (Calls Try.prog 43 #[u7, .int .i64 0] wc fun e w' => ∃ v' x, e = .returned v' ∧ Digits x 27 ∧ Grew w.heap.size 5 wc w' u7 v' (bytesV (L1 ++ x))) := number_any _ _ _ _ _ (by omega) HM.out.s.o1 (by have := HLL.out; omega) HM.out.s.hb
                    go_wp2_with (first | (go_at_call 43; refine HN.out.mono ?_; rintro e4 w4 ⟨v2, y, rfl, hdy, hg2⟩))
                    have HDY : Hid (Digits y 27) := hdy
                    have HG2 : Hid (Grew w.heap.size 5 wc w4 u7 v2 (bytesV (L1 ++ y))) := hg2
                    clear hdy hg2 HN
                    go_wp2
                    go_roundg (n1 - (I + 1))
                    case measure => omega
                    case rel => exact ⟨I + 1, true, _, K, F1, NI, SI, KS1, by omega, rfl, by go_num, rfl, by go_num, rfl, rfl, HM.out.plain HDY.out.plain HDY.out.pos (by have := HDY.out.len; omega) HDY.out.byte HG2.out (by have := HM.out.nil; omega) (by have := HM.out.sil; omega)⟩
                · have k0 : ((kk : Int) == 0) = false := by simp; omega
                  have k1 : ((kk : Int) == 1) = false := by simp; omega
                  have k3 : ((kk : Int) == 3) = false := by simp; omega
                  have k4 : ((kk : Int) == 4) = true := by simp; omega
                  by_cases hsi : SI < n3
                  · have hsiz : (SI : Int) < (n3 : Int) := by omega
                    obtain ⟨sv, hk, hsz⟩ := H3.out SI hsi
                    have hcx := cell_later HM.out.s.bel hk
                    obtain rfl := HA3.out (by omega)
                    clear hk
                    have HSN : Hid (Calls Try.prog 45 #[.string sv] wc fun e w' => ∃ t : ByteArray, e = .returned (.string t) ∧ t.size ≤ 3 * sv.size ∧ Below wc.heap.size wc w') := sane_any _ _ hsz
                    have HQ : Hid (∀ (t : ByteArray) (w5 : World), t.size ≤ 3145728 → Below wc.heap.size wc w5 → Calls Try.prog 44 #[u7, .string t] w5 fun e w' => ∃ v' x, e = .returned v' ∧ Quoted x (6 * t.size + 2) ∧ Grew w.heap.size 5 wc w' u7 v' (bytesV (L1 ++ x))) := fun t w5 ht hb => (quote_any w.heap.size u7 L1 t w5 ht (own_later HM.out.s.o1 hb) (by have := HLL.out; omega) (Nat.le_trans HM.out.s.hb hb.size)).mono (fun e w' ⟨v', x, h1, h2, h3⟩ => ⟨v', x, h1, h2, h3.pre (grown_below hb)⟩)
                    go_wp2_with (first | (go_at_call 45; refine HSN.out.mono ?_; rintro e4 w5 ⟨t, rfl, ht, hb5⟩) | (go_at_call 44; refine (HQ.out t w5 (by omega) hb5).mono ?_; rintro e6 w6 ⟨v2, y, rfl, hdy, hg2⟩))
                    have HDY : Hid (Quoted y (6 * t.size + 2)) := hdy
                    have HG2 : Hid (Grew w.heap.size 5 wc w6 u7 v2 (bytesV (L1 ++ y))) := hg2
                    clear hdy hg2 HSN HQ
                    go_wp2
                    go_roundg (n1 - (I + 1))
                    case measure => omega
                    case rel => exact ⟨I + 1, true, _, K, F1, NI, SI + 1, KS1, by omega, rfl, by go_num, rfl, rfl, by go_num, rfl, HM.out.str HDY.out.str HDY.out.pos (by have := HDY.out.len; omega) HDY.out.byte HG2.out (by have := HM.out.nil; omega) (by have := HM.out.sil; omega)⟩
                  · have hsiz : ¬ (SI : Int) < (n3 : Int) := by omega
                    have hsz : (ByteArray.mk #[]).size ≤ 1048576 := by decide
                    have HSN : Hid (Calls Try.prog 45 #[.string (ByteArray.mk #[])] wc fun e w' => ∃ t : ByteArray, e = .returned (.string t) ∧ t.size ≤ 3 * (ByteArray.mk #[]).size ∧ Below wc.heap.size wc w') := sane_any _ _ hsz
                    have HQ : Hid (∀ (t : ByteArray) (w5 : World), t.size ≤ 3145728 → Below wc.heap.size wc w5 → Calls Try.prog 44 #[u7, .string t] w5 fun e w' => ∃ v' x, e = .returned v' ∧ Quoted x (6 * t.size + 2) ∧ Grew w.heap.size 5 wc w' u7 v' (bytesV (L1 ++ x))) := fun t w5 ht hb => (quote_any w.heap.size u7 L1 t w5 ht (own_later HM.out.s.o1 hb) (by have := HLL.out; omega) (Nat.le_trans HM.out.s.hb hb.size)).mono (fun e w' ⟨v', x, h1, h2, h3⟩ => ⟨v', x, h1, h2, h3.pre (grown_below hb)⟩)
                    go_wp2_with (first | (go_at_call 45; refine HSN.out.mono ?_; rintro e4 w5 ⟨t, rfl, ht, hb5⟩) | (go_at_call 44; refine (HQ.out t w5 (by omega) hb5).mono ?_; rintro e6 w6 ⟨v2, y, rfl, hdy, hg2⟩))
                    have HDY : Hid (Quoted y (6 * t.size + 2)) := hdy
                    have HG2 : Hid (Grew w.heap.size 5 wc w6 u7 v2 (bytesV (L1 ++ y))) := hg2
                    clear hdy hg2 HSN HQ
                    go_wp2
                    go_roundg (n1 - (I + 1))
                    case measure => omega
                    case rel => exact ⟨I + 1, true, _, K, F1, NI, SI, KS1, by omega, rfl, by go_num, rfl, rfl, by go_num, rfl, HM.out.str HDY.out.str HDY.out.pos (by have := HDY.out.len; omega) HDY.out.byte HG2.out (by have := HM.out.nil; omega) (by have := HM.out.sil; omega)⟩
                · have k0 : ((kk : Int) == 0) = false := by simp; omega
                  have k1 : ((kk : Int) == 1) = false := by simp; omega
                  have k3 : ((kk : Int) == 3) = false := by simp; omega
                  have k4 : ((kk : Int) == 4) = false := by simp; omega
                  have hr3 : ((x / 6 : Nat) : Int).tmod 3 = ((x / 6 % 3 : Nat) : Int) := rfl
                  have hr3' : ((x / 6 : Nat) : Int) % 3 = ((x / 6 % 3 : Nat) : Int) := rfl
                  have hx6 : x / 6 < 256 := by omega
                  generalize x / 6 = x6 at hdv hr3 hr3' hx6
                  generalize x6 % 3 = r at hr3 hr3'
                  by_cases hr0 : r = 0
                  · have r0 : ((r : Int) == 0) = true := by simp; omega
                    go_wp2_with (at_builtin; refine wpList_grow _ rfl _ _ 22 9 rfl w.heap.size 5 (.int .u8 0) 1 Try.underlying22 info5 rfl u7 (bytesV L1) rfl wc HM.out.s.o1 (grown_refl _) (.string { data := #[116, 114, 117, 101] }) 4 (bytesV [116, 114, 117, 101]) rfl (src_true _) (by decide) ?l2 (by decide) ?l3 ?_)
                    case l2 => have := HLL.out; rw [bytesV_length]; omega
                    case l3 => exact HM.out.s.hb
                    intro v1 w1 HG1
                    go_wp2
                    go_roundg (n1 - (I + 1))
                    case measure => omega
                    case rel => exact ⟨I + 1, true, _, K, F1, NI, SI, KS1, by omega, rfl, by go_num, rfl, rfl, rfl, rfl, HM.out.plain plainL_true (by decide) (by decide) (by decide) (by rw [bytesV_append]; exact HG1.out) (by have := HM.out.nil; omega) (by have := HM.out.sil; omega)⟩
                  · have r0 : ((r : Int) == 0) = false := by simp; omega
                    by_cases hr1 : r = 1
                    · have r1 : ((r : Int) == 1) = true := by simp; omega
                      go_wp2_with (at_builtin; refine wpList_grow _ rfl _ _ 22 9 rfl w.heap.size 5 (.int .u8 0) 1 Try.underlying22 info5 rfl u7 (bytesV L1) rfl wc HM.out.s.o1 (grown_refl _) (.string { data := #[102, 97, 108, 115, 101] }) 5 (bytesV [102, 97, 108, 115, 101]) rfl (src_false _) (by decide) ?m2 (by decide) ?m3 ?_)
                      case m2 => have := HLL.out; rw [bytesV_length]; omega
                      case m3 => exact HM.out.s.hb
                      intro v1 w1 HG1
                      go_wp2
                      go_roundg (n1 - (I + 1))
                      case measure => omega
                      case rel => exact ⟨I + 1, true, _, K, F1, NI, SI, KS1, by omega, rfl, by go_num, rfl, rfl, rfl, rfl, HM.out.plain plainL_false (by decide) (by decide) (by decide) (by rw [bytesV_append]; exact HG1.out) (by have := HM.out.nil; omega) (by have := HM.out.sil; omega)⟩
                    · have r1 : ((r : Int) == 1) = false := by simp; omega
                      go_wp2_with (at_builtin; refine wpList_grow _ rfl _ _ 22 9 rfl w.heap.size 5 (.int .u8 0) 1 Try.underlying22 info5 rfl u7 (bytesV L1) rfl wc HM.out.s.o1 (grown_refl _) (.string { data := #[110, 117, 108, 108] }) 4 (bytesV [110, 117, 108, 108]) rfl (src_null _) (by decide) ?n2 (by decide) ?n3 ?_)
                      case n2 => have := HLL.out; rw [bytesV_length]; omega
                      case n3 => exact HM.out.s.hb
                      intro v1 w1 HG1
                      go_wp2
                      go_roundg (n1 - (I + 1))
                      case measure => omega
                      case rel => exact ⟨I + 1, true, _, K, F1, NI, SI, KS1, by omega, rfl, by go_num, rfl, rfl, rfl, rfl, HM.out.plain plainL_null (by decide) (by decide) (by decide) (by rw [bytesV_append]; exact HG1.out) (by have := HM.out.nil; omega) (by have := HM.out.sil; omega)⟩
      · have hltz : ¬ (I : Int) < (n1 : Int) := by omega
        go_wp2_with fail
        go_meet
        exact ⟨L, K, st, rfl, HR.out.aft hI hn1⟩
  case rest =>
    obtain ⟨L, K, st, rfl, haft⟩ := hcut
    have HAF : Hid (Aft w wc u7 u8 st L K) := haft
    clear haft
    cases st with
    | false =>
      have HO1 : Hid (wc.ownsRow w.heap.size 5 1 u7 (bytesV L).length (bytesV L)) := by obtain ⟨f, F, hs⟩ := HAF.out.s; exact hs.o1
      have HBE : Hid (Below w.heap.size w wc) := by obtain ⟨f, F, hs⟩ := HAF.out.s; exact hs.bel
      have HLN : Hid (L = []) := by
        rcases HAF.out.stat with ⟨_, _, h⟩ | ⟨h, _⟩ | ⟨h, _⟩
        · exact h
        · cases h
        · cases h
      go_wp2_with (at_builtin; refine wpList_grow _ rfl _ _ 22 22 rfl w.heap.size 5 (.int .u8 0) 1 Try.underlying22 info5 rfl u7 (bytesV L) rfl wc HO1.out (grown_alloc (grown_refl _) _) _ _ _ rfl (lits_src _ _ [48] (by simp)) (by decide) ?o2 (by decide) ?o3 ?_)
      case o2 => have := HLN.out; subst this; rw [bytesV_length]; simp
      case o3 => exact HBE.out.size
      intro v1 w1 HG1
      go_wp2
      go_ret
      refine ⟨_, L ++ [48], rfl, ?_, by rw [bytesV_append]; exact HG1.out.own, below_grew HG1.out HO1.out HBE.out HBE.out.size⟩
      rw [HLN.out]
      exact ⟨whole_plain goes_nil plain_zero, by simp, by simp, by simp⟩
    | true =>
      go_wp2_with fail
      go_loopg [7, 8] K.length (fun gk o k wr => ∃ L2 K2 : List Nat, gk = K2.length ∧ Aft w wr o k true L2 K2)
      case atStart => exact ⟨L, K, rfl, HAF.out⟩
      case round =>
        clear HAF
        obtain ⟨L2, K2, rfl, haft⟩ := hrel
        have HAF : Hid (Aft w wr u7 u8 true L2 K2) := haft
        clear haft
        obtain ⟨fv, Fv, hs⟩ := HAF.out.s
        have HS : Hid (St w wr u7 u8 fv L2 K2 Fv) := hs
        clear hs
        obtain ⟨ak, ck, hk, hkc, hkm, hkg⟩ := HS.out.kform
        have HKG : Hid (0 < K2.length → ∃ g, ak = some ⟨g, 0, none⟩) := hkg
        clear hkg
        subst hk
        obtain ⟨d, hd⟩ : ∃ d, d = K2.length := ⟨_, rfl⟩
        have HD : Hid (d = K2.length) := hd
        rw [← hd] at HAF HS HKG hkc ⊢
        clear hd
        unfold maxLen at hkm
        by_cases hd : d = 0
        · subst hd
          go_wp2_with fail
          go_ret
          exact ⟨_, L2, rfl, HAF.out.built HD.out.symm, HS.out.o1, HS.out.bel⟩
        · obtain ⟨e, rfl⟩ : ∃ e, d = e + 1 := ⟨d - 1, by omega⟩
          obtain ⟨g, rfl⟩ := HKG.out (by omega)
          obtain ⟨c, hc⟩ := HS.out.kat (j := e) (by omega)
          have hez : (0 : Int) < ((e + 1 : Nat) : Int) := by omega
          have HLL : Hid (L2.length ≤ 100000000000) := by have := HAF.out.len; show _ ≤ _; omega
          have HTL : Hid ((K2.take e).length = e) := by show _ = _; rw [List.length_take]; have := HD.out; omega
          by_cases h91 : c = 91
          · have e3 : ((c : Int) == 91) = true := by simp; omega
            go_wp2_with (at_builtin; refine wpList_grow _ rfl _ _ 22 22 rfl w.heap.size 5 (.int .u8 0) 1 Try.underlying22 info5 rfl u7 (bytesV L2) rfl wr HS.out.o1 (grown_alloc (grown_refl _) _) _ _ _ rfl (lits_src _ _ [93] (by simp)) (by decide) ?p2 (by decide) ?p3 ?_)
            case p2 => have := HLL.out; rw [bytesV_length]; simp; omega
            case p3 => exact HS.out.hb
            intro v1 w1 HG1
            go_wp2
            go_roundg e
            case measure => have := HD.out; omega
            case rel => exact ⟨_, _, HTL.out.symm, HAF.out.pop HD.out (.inr rfl) HG1.out⟩
          · have e3 : ((c : Int) == 91) = false := by simp; omega
            go_wp2_with (at_builtin; refine wpList_grow _ rfl _ _ 22 22 rfl w.heap.size 5 (.int .u8 0) 1 Try.underlying22 info5 rfl u7 (bytesV L2) rfl wr HS.out.o1 (grown_alloc (grown_refl _) _) _ _ _ rfl (lits_src _ _ [125] (by simp)) (by decide) ?q2 (by decide) ?q3 ?_)
            case q2 => have := HLL.out; rw [bytesV_length]; simp; omega
            case q3 => exact HS.out.hb
            intro v1 w1 HG1
            go_wp2
            go_roundg e
            case measure => have := HD.out; omega
            case rel => exact ⟨_, _, HTL.out.symm, HAF.out.pop HD.out (.inl rfl) HG1.out⟩

end Go.Proofs.Qxb6001689a

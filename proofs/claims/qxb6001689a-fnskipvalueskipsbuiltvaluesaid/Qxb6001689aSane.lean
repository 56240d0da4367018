/-
  The walk of zzSanitize (45): some string, of at most three times the length.
-/
import Derived.Test.Qxb6001689aRune
import Derived.Test.Qxb6001689aInt
import Derived.Laws.BytesArg
import Derived.Deep.DeepCutAuto
namespace Go.Proofs.Qxb6001689a
open Go.RowKit

/-- A string's bytes as numbers. -/
def strL (s : ByteArray) : List Nat := s.data.toList.map (·.toNat)
theorem strL_cells (s : ByteArray) : bytesV (strL s) = byteCells s := by simp [bytesV, strL, byteCells]
theorem strL_length (s : ByteArray) : (strL s).length = s.size := by simp [strL]
theorem str_src (w : World) (s : ByteArray) : Src Try.prog 1 9 (.string s) s.size (bytesV (strL s)) w := by
  rw [strL_cells]; exact Src.ofString w Try.underlying9 s

theorem u5 : Try.prog.underlying 5 = some (.int .u8) := Try.underlying5

theorem conv_own {w : World} {base : Nat} {v : Value} {L : List Nat} (h : w.ownsRow base 5 1 v (bytesV L).length (bytesV L)) :
    ∃ t : ByteArray, (convert 22 9 v).run Try.prog w = .ok (.string t) w ∧ t.size = L.length := by
  have hh := h
  rcases h.2 with ⟨rfl, h0⟩ | ⟨g, cap, cur, rfl, _, _, _, _, _, _⟩
  · rw [bytesV_length] at h0
    exact ⟨ByteArray.empty, run_convert_bytes_nil w 22 5 Try.underlying22 u5 0 0 9 Try.underlying9, h0.symm⟩
  · refine ⟨strOfNums (L.map fun c : Nat => (c : Int)), run_convert_bytes_arg w 22 5 Try.underlying22 u5 g 0 _ cap (L.map fun c : Nat => (c : Int)) (by simp [bytesV]) (fun i hi => ?_) 9 Try.underlying9, ?_⟩
    · rw [bytesV_length] at hi
      have := hh.cells (g := g) rfl i (.int .u8 (L[i] : Nat)) (by simp [bytesV, hi])
      rw [Addr.add_lit] at this
      rw [this]
      simp [List.getD, hi]
    · simp [strOfNums, ByteArray.size]

theorem made22 (w : World) (n : Nat) (hn : n ≤ 4611686018427387904) : (w.alloc (.cells (madeCells #[.int .u8 0] n) 5)).ownsRow w.heap.size 5 1 (.slice (some ⟨w.heap.size, 0, none⟩) 0 n) (bytesV []).length (bytesV []) :=
  World.ownsRow_made w _ n (Nat.le_refl _) (by unfold maxLen; omega) (by simp [size_madeCells])
theorem make22 (n : Nat) (hn : n ≤ 140737488355328) (w : World) : (Instr.makeSlice 22 (.int .i64 0) (.int .i64 (n : Int))).run Try.prog w = .ok (.slice (some ⟨w.heap.size, 0, none⟩) 0 n) (w.alloc (.cells (madeCells #[.int .u8 0] n) 5)) := by
  obtain ⟨i, hi, hz, hsz, hby⟩ := info_parts info5
  have h := run_make (P := Try.prog) w 22 5 i _ Try.underlying22 hi hz .i64 .i64 0 (n : Int) (by omega) (by omega) (by rw [hby]; omega) (by omega)
  rw [hsz, Int.toNat_natCast, Nat.mul_one] at h
  exact h
theorem ext_size (s : ByteArray) (i r : Nat) (h : i + r ≤ s.size) : (s.extract i (i + r)).size = r := by
  rw [ByteArray.size_extract]
  omega

theorem below_grew {B : Nat} {e : TypeId} {w0 w w' : World} {v v' : Value} {xs ys : List Value} {n : Nat} (h : Grew B e w w' v v' xs) (ho : w.ownsRow B e 1 v n ys) (hb : Below B w0 w) (hB : B ≤ w.heap.size) : Below B w0 w' :=
  hb.trans ⟨h.gr.os, h.gr.tape, h.gr.output, h.gr.size, fun k hk => h.gr.block k (by omega) (fun hv => by have := (ho.lt k hv.symm).1; omega)⟩

set_option maxRecDepth 100000 in
set_option maxHeartbeats 1000000 in
theorem sane_any (s : ByteArray) (w : World) (hs : s.size ≤ 1048576) :
    Calls Try.prog 45 #[.string s] w fun e w' => ∃ t : ByteArray, e = .returned (.string t) ∧ t.size ≤ 3 * s.size ∧ Below w.heap.size w w' := by
  have hmk := make22 s.size (by omega)
  go_enter Try.func45, Try.ntmps45
  go_wp2
  clear hmk
  go_loopw [3, 4] (fun o i wr => ∃ (L : List Nat) (I : Nat), I ≤ s.size ∧ i = .int .i64 I ∧ L.length ≤ 3 * I ∧ wr.ownsRow w.heap.size 5 1 o (bytesV L).length (bytesV L) ∧ Below w.heap.size w wr) (fun _ i _ => s.size - (intOf i).toNat)
  case atStart => exact ⟨[], 0, Nat.zero_le _, rfl, Nat.le_refl _, made22 w s.size (by omega), (Below.refl _ _).alloc (Nat.le_refl _) _⟩
  case round =>
    obtain ⟨L, I, hI, rfl, hL, hown, hbel⟩ := hrel
    have HO : Hid (wr.ownsRow w.heap.size 5 1 u3 (bytesV L).length (bytesV L)) := hown
    have HB : Hid (Below w.heap.size w wr) := hbel
    clear hown hbel
    by_cases hlt : I < s.size
    · have hltz : (I : Int) < (s.size : Int) := by omega
      have HRUN : Hid (Calls Try.prog 52 #[.string s, .int .i64 I] wr fun e w' => ∃ r : Nat, e = .returned (.int .i64 r) ∧ r ≤ 4 ∧ I + r ≤ s.size ∧ w' = wr) := rune_any s I wr (by omega) hlt
      go_upto_if 17 with (first | (go_at_call 52; refine HRUN.out.mono ?_; rintro e w' ⟨r, rfl, hr4, hrs, rfl⟩))
      by_cases hr0 : r = 0
      · subst hr0
        go_wp2_with (at_builtin; refine wpList_grow _ rfl _ _ 22 22 rfl w.heap.size 5 (.int .u8 0) 1 Try.underlying22 info5 rfl u3 (bytesV L) rfl w' HO.out (grown_alloc (grown_refl _) _) _ _ _ rfl (lits_src _ _ [239, 191, 189] (by simp)) (by decide) ?c2 (by decide) ?c3 ?_)
        case c2 => rw [bytesV_length]; simp; omega
        case c3 => exact HB.out.size
        intro v1 w1 HG1
        go_wp2
        go_roundw
        case rel => exact ⟨L ++ [239, 191, 189], I + 1, by omega, by go_num, by simp; omega, by rw [bytesV_append]; exact HG1.out.own, below_grew HG1.out HO.out HB.out HB.out.size⟩
        case measure => simp [intOf]; omega
      · have hr0z : ((r : Int) == 0) = false := by simp; omega
        have hsz := ext_size s I r hrs
        have HSRC : Hid (Src Try.prog 1 9 (.string (s.extract I (I + r))) r (bytesV (strL (s.extract I (I + r)))) w') := by
          have h := str_src w' (s.extract I (I + r))
          rw [hsz] at h
          exact h
        have HLN : Hid ((strL (s.extract I (I + r))).length = r) := by show _ = _; rw [strL_length, hsz]
        clear hsz
        go_wp2_with (at_builtin; refine wpList_grow _ rfl _ _ 22 9 rfl w.heap.size 5 (.int .u8 0) 1 Try.underlying22 info5 rfl u3 (bytesV L) rfl w' HO.out (grown_refl _) _ _ _ rfl HSRC.out (by omega) ?d2 (by decide) ?d3 ?_)
        case d2 => rw [bytesV_length]; omega
        case d3 => exact HB.out.size
        intro v1 w1 HG1
        go_wp2
        go_roundw
        case rel => exact ⟨L ++ strL (s.extract I (I + r)), I + r, by omega, by go_num, by have := HLN.out; simp; omega, by rw [bytesV_append]; exact HG1.out.own, below_grew HG1.out HO.out HB.out HB.out.size⟩
        case measure => simp [intOf]; omega
    · have hltz : ¬ (I : Int) < (s.size : Int) := by omega
      obtain ⟨t, hcv, ht⟩ := conv_own HO.out
      have HT : Hid (t.size = L.length) := ht
      clear ht
      go_wp2
      go_ret
      exact ⟨t, rfl, by have := HT.out; omega, HB.out⟩

end Go.Proofs.Qxb6001689a

/-
  The walk of zzQuote (44): what is appended is one JSON string.
-/
import Derived.Test.Qxb6001689aSane
import Derived.Deep.RegionLaw
import Derived.Laws.BitsAllLaws
namespace Go.Proofs.Qxb6001689a
open Go.RowKit

/-- 'wpList_grow' as one step of a region that draws its order. -/
theorem step_grow {P : Program} {ops : Array Oper} {o : Oper} {a : Act} {w : World} {K : Act → World → Prop} {Q : Exit → Act → World → Prop} {E : Prop} (hgd : o.guard = none) (s x : Operand) (t tx : TypeId)
    (ho : o.op = .call { callee := .builtin .append, args := #[s, x], argTypes := #[t, tx] })
    (base : Nat) (e : TypeId) (z : Value) (bytes : Nat) (ht : P.underlying t = some (.slice e)) (hinfo : (P.info? e).map (fun i => (i.zero, i.size, i.bytes)) = some (some z, 1, bytes)) (hzs : z.cells.size = 1)
    (v : Value) (xs : List Value) (hs : a.eval s = v) (w0 : World) (hown0 : w0.ownsRow base e 1 v xs.length xs) (hw0 : w0.grownBy w none) (xv : Value) (m : Nat) (news : List Value) (hx : a.eval x = xv) (hsrc : Src P 1 tx xv m news w)
    (hm0 : 0 < m) (h63 : xs.length + m ≤ 35184372088832) (hbytes : bytes ≤ 4) (hbase : base ≤ w0.heap.size)
    (h : ∀ v' w', Hid (Grew base e w0 w' v v' (xs ++ news)) → K (a.put o.dst v') w') :
    if Region.wanted o (yielded ops a.tmps) = true then Oper.wp P o a w K Q else E := by
  have hw : Region.wanted o (yielded ops a.tmps) = true := by simp [Region.wanted, hgd]
  rw [if_pos hw]
  obtain ⟨i, hi, hz, hsize, hby⟩ := info_parts hinfo
  have hown : w.ownsRow base e 1 v xs.length xs := hown0.kept hw0 (by cases hv : v.ownBlock <;> simp)
  have hb : (xs.length + m) * bytes ≤ 140737488355328 := Nat.le_trans (Nat.mul_le_mul h63 hbytes) (by decide)
  obtain ⟨v', w', hr, hg⟩ := run_grow (P := P) w base t tx o.type e i z bytes ht hi hz hsize hby hzs v xs hown xv m news hsrc (fun _ => hm0) (by unfold maxLen; omega) hb (Nat.le_trans hbase hw0.size)
  unfold Oper.wp execOp
  simp only [ho, resolve, invoke, builtin, Sem.run_bind, Sem.run_pure, Result.andThen_ok, List.map_toArray, List.map_cons, List.map_nil, hs, hx, hr]
  exact h v' w' (hg.pre hw0)

/-- One JSON string of at most n bytes. -/
structure Quoted (x : List Nat) (n : Nat) : Prop where
  str : Str x
  len : x.length ≤ n
  pos : 0 < x.length
  byte : ∀ c ∈ x, c ≤ 255

theorem bytes_app {a b : List Nat} (ha : ∀ c ∈ a, c ≤ 255) (hb : ∀ c ∈ b, c ≤ 255) : ∀ c ∈ a ++ b, c ≤ 255 := fun c hc => by
  rcases List.mem_append.1 hc with h | h
  · exact ha c h
  · exact hb c h
theorem and15u (c : Nat) (h : c < 256) : bits BinOp.and IntKind.u8 (c : Int) 15 = ((c % 16 : Nat) : Int) := by
  have := u8_and_nat c 15 h (by decide)
  rw [show (15 : Int) = ((15 : Nat) : Int) from rfl, this, show (15 : Nat) = 2 ^ 4 - 1 from rfl, Nat.and_two_pow_sub_one_eq_mod]
theorem grown_drew (w : World) : w.grownBy w.drew none := ⟨rfl, rfl, rfl, Nat.le_refl _, fun _ _ _ => rfl⟩
def hexBA : ByteArray := { data := #[48, 49, 50, 51, 52, 53, 54, 55, 56, 57, 97, 98, 99, 100, 101, 102] }
def hx (k : Nat) (h : k < 16) : Nat := (hexBA[k]'h).toNat
theorem hx_plain (k : Nat) (h : k < 16) : plainB (hx k h) = true := by
  have : k = 0 ∨ k = 1 ∨ k = 2 ∨ k = 3 ∨ k = 4 ∨ k = 5 ∨ k = 6 ∨ k = 7 ∨ k = 8 ∨ k = 9 ∨ k = 10 ∨ k = 11 ∨ k = 12 ∨ k = 13 ∨ k = 14 ∨ k = 15 := by omega
  rcases this with h | h | h | h | h | h | h | h | h | h | h | h | h | h | h | h <;> subst h <;> rfl
theorem hex_bytes {hi lo : Nat} (hh1 : hi < 16) (hh2 : lo < 16) : ∀ c ∈ [92, 117, 48, 48, hx hi hh1, hx lo hh2], c ≤ 255 := by
  have h1 : hx hi hh1 < 256 := UInt8.toNat_lt _
  have h2 : hx lo hh2 < 256 := UInt8.toNat_lt _
  intro c hc
  simp only [List.mem_cons, List.not_mem_nil, or_false] at hc
  omega
theorem quo_assoc (L B x : List Nat) : L ++ ([34] ++ (B ++ x)) = (L ++ ([34] ++ B)) ++ x := by simp

set_option maxRecDepth 100000 in
set_option maxHeartbeats 1000000 in
theorem quote_any (base : Nat) (v : Value) (L : List Nat) (s : ByteArray) (w : World) (hs : s.size ≤ 3145728) (hown : w.ownsRow base 5 1 v (bytesV L).length (bytesV L)) (hL : L.length ≤ 1099511627776) (hbase : base ≤ w.heap.size) :
    Calls Try.prog 44 #[v, .string s] w fun e w' => ∃ v' x, e = .returned v' ∧ Quoted x (6 * s.size + 2) ∧ Grew base 5 w w' v v' (bytesV (L ++ x)) := by
  have HO : Hid (w.ownsRow base 5 1 v (bytesV L).length (bytesV L)) := hown
  have HLL : Hid (L.length ≤ 1099511627776) := hL
  have HBS : Hid (base ≤ w.heap.size) := hbase
  clear hown hL hbase
  go_enter Try.func44, Try.ntmps44
  go_wp2_with (at_builtin; refine wpList_grow _ rfl _ _ 22 22 rfl base 5 (.int .u8 0) 1 Try.underlying22 info5 rfl v (bytesV L) rfl w HO.out (grown_alloc (grown_refl _) _) _ _ _ rfl (lits_src _ _ [34] (by simp)) (by decide) ?c2 (by decide) ?c3 ?_)
  case c2 => have := HLL.out; rw [bytesV_length]; simp; omega
  case c3 => exact HBS.out
  intro v1 w1 HG1
  have HG : Hid (Grew base 5 w w1 v v1 (bytesV (L ++ ([34] ++ [])))) := by rw [List.append_nil, bytesV_append]; exact HG1.out
  clear HG1
  go_wp2
  go_loopw [0, 5] (fun o i wr => ∃ (B : List Nat) (I : Nat), I ≤ s.size ∧ i = .int .i64 I ∧ B.length ≤ 6 * I ∧ InStr B ∧ (∀ c ∈ B, c ≤ 255) ∧ Grew base 5 w wr v o (bytesV (L ++ ([34] ++ B)))) (fun _ i _ => s.size - (intOf i).toNat)
  case atStart => exact ⟨[], 0, Nat.zero_le _, rfl, Nat.le_refl _, instr_nil, (fun c h => by cases h), HG.out⟩
  case round =>
    clear HG
    obtain ⟨B, I, hI, rfl, hB, hin, hby, hg⟩ := hrel
    have HG : Hid (Grew base 5 w wr v u0 (bytesV (L ++ ([34] ++ B)))) := hg
    have HIN : Hid (InStr B ∧ ∀ c ∈ B, c ≤ 255) := ⟨hin, hby⟩
    have HLN : Hid ((L ++ ([34] ++ B)).length = L.length + (B.length + 1)) := by show _ = _; simp
    clear hg hin hby
    by_cases hlt : I < s.size
    · have hltz : (I : Int) < (s.size : Int) := by omega
      have hc := s[I].toNat_lt
      by_cases h34 : s[I].toNat = 34
      · have e1 : ((s[I].toNat : Int) == 34) = true := by simp; omega
        go_wp2_with (at_builtin; refine wpList_grow _ rfl _ _ 22 22 rfl base 5 (.int .u8 0) 1 Try.underlying22 info5 rfl u0 (bytesV (L ++ ([34] ++ B))) rfl wr HG.out.own (grown_alloc (grown_refl _) _) _ _ _ rfl (lits_src _ _ [92, 34] (by simp)) (by simp) ?f2 (by decide) ?f3 ?_)
        case f2 => have := HLL.out; simp [bytesV_length]; omega
        case f3 => exact Nat.le_trans HBS.out HG.out.gr.size
        intro v2 w2 HG2
        go_wp2
        go_roundw
        case rel => exact ⟨B ++ [92, 34], I + 1, by omega, by go_num, by simp; omega, instr_append HIN.out.1 (instr_esc _), bytes_app HIN.out.2 (by simp), by rw [quo_assoc, bytesV_append]; exact HG.out.trans HG2.out⟩
        case measure => simp [intOf]; omega
      · have e1 : ((s[I].toNat : Int) == 34) = false := by simp; omega
        by_cases h92 : s[I].toNat = 92
        · have e2 : ((s[I].toNat : Int) == 92) = true := by simp; omega
          go_wp2_with (at_builtin; refine wpList_grow _ rfl _ _ 22 22 rfl base 5 (.int .u8 0) 1 Try.underlying22 info5 rfl u0 (bytesV (L ++ ([34] ++ B))) rfl wr HG.out.own (grown_alloc (grown_refl _) _) _ _ _ rfl (lits_src _ _ [92, 92] (by simp)) (by simp) ?g2 (by decide) ?g3 ?_)
          case g2 => have := HLL.out; simp [bytesV_length]; omega
          case g3 => exact Nat.le_trans HBS.out HG.out.gr.size
          intro v2 w2 HG2
          go_wp2
          go_roundw
          case rel => exact ⟨B ++ [92, 92], I + 1, by omega, by go_num, by simp; omega, instr_append HIN.out.1 (instr_esc _), bytes_app HIN.out.2 (by simp), by rw [quo_assoc, bytesV_append]; exact HG.out.trans HG2.out⟩
          case measure => simp [intOf]; omega
        · have e2 : ((s[I].toNat : Int) == 92) = false := by simp; omega
          by_cases h32 : s[I].toNat < 32
          · have e3 : (s[I].toNat : Int) < 32 := by omega
            have hdv : ((s[I].toNat : Int) / 16) = ((s[I].toNat / 16 : Nat) : Int) := by omega
            have hbt : bits BinOp.and IntKind.u8 (s[I].toNat : Int) 15 = ((s[I].toNat % 16 : Nat) : Int) := and15u _ (by omega)
            have hh1 : s[I].toNat / 16 < 16 := by omega
            have hh2 : s[I].toNat % 16 < 16 := by omega
            generalize s[I].toNat / 16 = hi at hdv hh1
            generalize s[I].toNat % 16 = lo at hbt hh2
            have hz1 : (hi : Int) < 16 := by omega
            have hz2 : (lo : Int) < 16 := by omega
            have H63 : Hid ((bytesV (L ++ ([34] ++ B))).length + 6 ≤ 35184372088832) := by have := HLL.out; show _ ≤ _; simp [bytesV_length]; omega
            have HSRC : Hid (Src Try.prog 1 22 (.slice (some ⟨wr.heap.size, 0, none⟩) 6 6) 6 (bytesV [92, 117, 48, 48, hx hi hh1, hx lo hh2]) (wr.drew.alloc (.cells (bytesV [92, 117, 48, 48, hx hi hh1, hx lo hh2]).toArray 5))) := lits_src wr.drew wr.heap.size [92, 117, 48, 48, hx hi hh1, hx lo hh2] rfl
            go_wp2
            go_region_law (refine step_grow rfl (.tmp 31) (.tmp 38) 22 22 rfl base 5 (.int .u8 0) 1 Try.underlying22 info5 rfl u0 (bytesV (L ++ ([34] ++ B))) rfl wr HG.out.own (grown_alloc (grown_drew wr) _) (.slice (some ⟨wr.heap.size, 0, none⟩) 6 6) 6 (bytesV [92, 117, 48, 48, hx hi hh1, hx lo hh2]) rfl HSRC.out (Nat.succ_pos 5) H63.out (by decide) (Nat.le_trans HBS.out HG.out.gr.size) ?_; intro v2 w2 HG2)
            all_goals
              go_wp2
              go_roundw
              case rel => exact ⟨B ++ [92, 117, 48, 48, hx hi hh1, hx lo hh2], I + 1, by omega, by go_num, by simp; omega, instr_append HIN.out.1 (instr_u (hx_plain hi hh1) (hx_plain lo hh2)), bytes_app HIN.out.2 (hex_bytes hh1 hh2), by rw [quo_assoc, bytesV_append]; exact HG.out.trans HG2.out⟩
              case measure => simp [intOf]; omega
          · have e3 : ¬ (s[I].toNat : Int) < 32 := by omega
            go_wp2_with (at_builtin; refine wpList_grow _ rfl _ _ 22 22 rfl base 5 (.int .u8 0) 1 Try.underlying22 info5 rfl u0 (bytesV (L ++ ([34] ++ B))) rfl wr HG.out.own (grown_alloc (grown_refl _) _) _ _ _ rfl (lits_src _ _ [s[I].toNat] (by simp)) (by simp) ?h2 (by decide) ?h3 ?_)
            case h2 => have := HLL.out; simp [bytesV_length]; omega
            case h3 => exact Nat.le_trans HBS.out HG.out.gr.size
            intro v2 w2 HG2
            go_wp2
            go_roundw
            case rel => exact ⟨B ++ [s[I].toNat], I + 1, by omega, by go_num, by simp; omega, instr_append HIN.out.1 (instr_one h34 h92), bytes_app HIN.out.2 (by intro c hc; simp at hc; omega), by rw [quo_assoc, bytesV_append]; exact HG.out.trans HG2.out⟩
            case measure => simp [intOf]; omega
    · have hltz : ¬ (I : Int) < (s.size : Int) := by omega
      go_wp2_with (at_builtin; refine wpList_grow _ rfl _ _ 22 22 rfl base 5 (.int .u8 0) 1 Try.underlying22 info5 rfl u0 (bytesV (L ++ ([34] ++ B))) rfl wr HG.out.own (grown_alloc (grown_refl _) _) _ _ _ rfl (lits_src _ _ [34] (by simp)) (by decide) ?e2 (by decide) ?e3 ?_)
      case e2 => have := HLL.out; simp [bytesV_length]; omega
      case e3 => exact Nat.le_trans HBS.out HG.out.gr.size
      intro v2 w2 HG2
      go_wp2
      go_ret
      refine ⟨_, 34 :: (B ++ [34]), rfl, ⟨str_of HIN.out.1, by simp; omega, by simp, ?_⟩, ?_⟩
      · intro c hc
        simp only [List.mem_cons, List.mem_append, List.not_mem_nil, or_false] at hc
        rcases hc with h | h | h
        · omega
        · exact HIN.out.2 c h
        · omega
      · have e : L ++ 34 :: (B ++ [34]) = (L ++ ([34] ++ B)) ++ [34] := by simp
        rw [e, bytesV_append]
        exact HG.out.trans HG2.out

end Go.Proofs.Qxb6001689a

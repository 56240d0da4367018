/-
  The walk of FnPairsCountsEveryPairOnce (10).
-/
import Derived.Test.Qxb6001689aZZPairs
import Derived.Test.Qxb6001689aCount
import Derived.Test.Qxb6001689aAppend
import Derived.Deep.DeepCutAuto
import Derived.Deep.LoopGhost
namespace Go.Proofs.Qxb6001689a
open Go.RowKit

theorem info3 : (Try.prog.info? 3).map (fun i => (i.zero, i.size, i.bytes)) = some (some (.int .i64 0), 1, 8) := by kernel_rfl
theorem info41 : (Try.prog.info? 41).map (fun i => (i.zero, i.size, i.bytes)) = some (some (.int .u64 0), 1, 8) := by kernel_rfl
theorem info44 : (Try.prog.info? 44).map (fun i => (i.zero, i.size, i.bytes)) = some (some (.slice none 0 0), 1, 24) := by kernel_rfl

def lastI (h : Nat) (s : Nat → Nat) (k c : Nat) : Int := match lastOf h s c k with | none => -1 | some l => (l : Int)

/-- What the loop over the steps has laid behind k of them: the rows of the clocks, the last events, the slice of rows. -/
structure St (w wr : World) (L h : Nat) (s : Nat → Nat) (k : Nat) (v : Value) (bl : Nat → Nat) : Prop where
  own : wr.ownsRow w.heap.size 44 1 v k ((List.range k).map fun i => Value.slice (some ⟨bl i, 0, none⟩) h h)
  rows : ∀ i, i < k → wr.rowIs (bl i) 41 h (fun c => .int .u64 (cl h s i c))
  last : wr.rowIs L 3 h (fun c => .int .i64 (lastI h s k c))
  bel : Below w.heap.size w wr

def inited (k : Nat) : Nat → Value := fun c => .int .i64 (if c < k then -1 else 0)
theorem inited_step {w : World} {b n k : Nat} (h : w.rowIs b 3 n (inited k)) : (w.setCell ⟨b, k, none⟩ (.int .i64 (-1))).rowIs b 3 n (inited (k + 1)) := by
  refine (h.set k _).congr fun i _ => ?_
  unfold inited
  by_cases e : i = k
  · subst e; simp
  · by_cases e2 : i < k
    · simp [e, e2, show i < k + 1 by omega]
    · simp [e, e2, show ¬ i < k + 1 by omega]
theorem inited_all {w : World} {b h : Nat} {s : Nat → Nat} (hr : w.rowIs b 3 h (inited h)) : w.rowIs b 3 h (fun c => .int .i64 (lastI h s 0 c)) := hr.congr (fun i hi => by simp [inited, hi, lastI, lastOf])
theorem made71 (w : World) (n B : Nat) (hB : B ≤ w.heap.size) (hn : n ≤ 64) : (w.alloc (.cells (madeCells #[.slice none 0 0] n) 44)).ownsRow B 44 1 (.slice (some ⟨w.heap.size, 0, none⟩) 0 n) 0 [] :=
  World.ownsRow_made w _ n hB (by unfold maxLen; omega) (by simp [size_madeCells])
theorem make71 (n : Nat) (hn : n ≤ 64) (w : World) : (Instr.makeSlice 71 (.int .i64 0) (.int .i64 (n : Int))).run Try.prog w = .ok (.slice (some ⟨w.heap.size, 0, none⟩) 0 n) (w.alloc (.cells (madeCells #[.slice none 0 0] n) 44)) := by
  obtain ⟨i, hi, hz, hsz, hby⟩ := info_parts info44
  have h := run_make (P := Try.prog) w 71 44 i _ Try.underlying71 hi hz .i64 .i64 0 (n : Int) (by omega) (by omega) (by rw [hby]; omega) (by omega)
  rw [hsz, Int.toNat_natCast, Nat.mul_one] at h
  exact h

theorem own_any {w : World} {base : Nat} {e : TypeId} {v : Value} {n : Nat} {xs : List Value} (h : w.ownsRow base e 1 v n xs) :
    ∃ a g cap, v = .slice a n cap ∧ (0 < n → a = some ⟨g, 0, none⟩) ∧ n ≤ cap ∧ cap ≤ maxLen ∧ ∀ i, i < n → ∀ u, xs[i]? = some u → w.cell? ⟨g, i, none⟩ = some u := by
  rcases Nat.eq_zero_or_pos n with h0 | h0
  · subst h0
    rcases h.2 with ⟨rfl, _⟩ | ⟨g, cap, cur, rfl, _, _, _, hcm, _⟩
    · exact ⟨none, 0, 0, rfl, fun h => by omega, by omega, by unfold maxLen; omega, fun i hi => by omega⟩
    · exact ⟨_, g, cap, rfl, fun h => by omega, by omega, hcm, fun i hi => by omega⟩
  · obtain ⟨g, cap, rfl, _, _, hnc, hcm, hc⟩ := own_shape h h0
    exact ⟨_, g, cap, rfl, fun _ => rfl, hnc, hcm, hc⟩
theorem tmodN (a b : Nat) : (a : Int).tmod (b : Int) = ((a % b : Nat) : Int) := rfl
theorem tdivN (a b : Nat) : (a : Int).tdiv (b : Int) = ((a / b : Nat) : Int) := rfl
theorem tmod1 (a j : Nat) : (a : Int).tmod ((j : Int) + 1) = ((a % (j + 1) : Nat) : Int) := by
  have h : (j : Int) + 1 = ((j + 1 : Nat) : Int) := by simp
  rw [h]; rfl

/-- The same with the new row V in the making. -/
structure St2 (w wr : World) (L h : Nat) (s : Nat → Nat) (k : Nat) (v : Value) (bl : Nat → Nat) (V : Nat) (f : Nat → Nat) : Prop where
  own : wr.ownsRow w.heap.size 44 1 v k ((List.range k).map fun i => Value.slice (some ⟨bl i, 0, none⟩) h h)
  rows : ∀ i, i < k → wr.rowIs (bl i) 41 h (fun c => .int .u64 (cl h s i c))
  last : wr.rowIs L 3 h (fun c => .int .i64 (lastI h s k c))
  bel : Below w.heap.size w wr
  new : wr.rowIs V 41 h (fun c => .int .u64 (f c))
  apart : ∀ i, i < k → bl i ≠ V
  old : w.heap.size ≤ V
  notL : L ≠ V

theorem upd (g z : Nat → Nat) (c i : Nat) : (if i < c + 1 then g i else z i) = if i = c then g c else if i < c then g i else z i := by
  by_cases e : i = c
  · subst e; simp
  · by_cases e2 : i < c
    · rw [if_pos (by omega), if_neg e, if_pos e2]
    · rw [if_neg (by omega), if_neg e, if_neg e2]
/-- Where nothing is stored the row reads already as it would. -/
theorem upd_keep (g z : Nat → Nat) (c i : Nat) (h : g c = z c) : (if i < c + 1 then g i else z i) = if i < c then g i else z i := by
  by_cases e : i = c
  · subst e; simp [h]
  · by_cases e2 : i < c
    · rw [if_pos (by omega), if_pos e2]
    · rw [if_neg (by omega), if_neg e2]
theorem own_cell {w : World} {base : Nat} {e : TypeId} {g n cap : Nat} {xs : List Value} (h : w.ownsRow base e 1 (.slice (some ⟨g, 0, none⟩) n cap) n xs) {i : Nat} {u : Value} (hu : xs[i]? = some u) : w.cell? ⟨g, i, none⟩ = some u := by
  have := h.cells (g := g) rfl i u hu
  rwa [Addr.add_lit, Nat.zero_add] at this
/-- A store into a row of another element type leaves what is owned. -/
theorem own_apart {w : World} {base : Nat} {v : Value} {n : Nat} {xs : List Value} {V N : Nat} {t : TypeId} {f : Nat → Value} (h : w.ownsRow base 44 1 v n xs) (hV : w.rowIs V t N f) (ht : t ≠ 44) (c : Nat) (u : Value) : (w.setCell ⟨V, c, none⟩ u).ownsRow base 44 1 v n xs := by
  refine ⟨h.1, ?_⟩
  rcases h.2 with h2 | ⟨g, cap, cur, hv, hg, hh, r⟩
  · exact .inl h2
  · refine .inr ⟨g, cap, cur, hv, hg, ?_, r⟩
    have hne : g ≠ V := fun e => by
      subst e
      obtain ⟨cc, hb, _⟩ := hV
      rw [hh] at hb
      simp only [Option.some.injEq, Obj.cells.injEq] at hb
      exact ht hb.2.1.symm
    rw [Below.heap_setCell _ _ _ _ hne]
    exact hh
theorem St2.set {w wr : World} {L h : Nat} {s : Nat → Nat} {k : Nat} {v : Value} {bl : Nat → Nat} {V : Nat} {f g : Nat → Nat} (S : St2 w wr L h s k v bl V f) (c x : Nat) (hg : ∀ i, i < h → g i = if i = c then x else f i) :
    St2 w (wr.setCell ⟨V, c, none⟩ (.int .u64 x)) L h s k v bl V g :=
  ⟨own_apart S.own S.new (by decide) c _, fun i hi => (S.rows i hi).setOther (S.apart i hi) _, S.last.setOther S.notL _, S.bel.setCell S.old _,
    (S.new.set c _).congr (fun i hi => by rw [hg i hi]; split <;> rfl), S.apart, S.old, S.notL⟩
theorem St2.drewN {w wr : World} {L h : Nat} {s : Nat → Nat} {k : Nat} {v : Value} {bl : Nat → Nat} {V : Nat} {f : Nat → Nat} (S : St2 w wr L h s k v bl V f) (m : Nat) : St2 w (wr.drewN m) L h s k v bl V f :=
  ⟨S.own, S.rows, S.last, below_drewN S.bel m, S.new, S.apart, S.old, S.notL⟩
theorem St2.to {w wr : World} {L h : Nat} {s : Nat → Nat} {k : Nat} {v : Value} {bl : Nat → Nat} {V : Nat} {f g : Nat → Nat} (S : St2 w wr L h s k v bl V f) (hg : ∀ i, i < h → g i = f i) : St2 w wr L h s k v bl V g :=
  ⟨S.own, S.rows, S.last, S.bel, S.new.congr (fun i hi => by rw [hg i hi]), S.apart, S.old, S.notL⟩
theorem st2_start {w wr : World} {L h : Nat} {s : Nat → Nat} {k : Nat} {v : Value} {bl : Nat → Nat} (S : St w wr L h s k v bl) :
    St2 w (wr.alloc (.cells (madeCells #[.int .u64 0] h) 41)) L h s k v bl wr.heap.size (fun _ => 0) :=
  ⟨S.own.alloc _, fun i hi => (S.rows i hi).alloc _, S.last.alloc _, S.bel.alloc S.bel.size _, World.rowIs_made wr _ _ _, fun i hi => Nat.ne_of_lt (S.rows i hi).lt, S.bel.size, Nat.ne_of_lt S.last.lt⟩

theorem row_grown {w w' : World} {base : Nat} {v : Value} {m : Nat} {xs : List Value} {b n : Nat} {t : TypeId} {f : Nat → Value} (h : w.rowIs b t n f) (hown : w.ownsRow base 44 1 v m xs) (ht : t ≠ 44) (hg : w.grownBy w' v.ownBlock) : w'.rowIs b t n f := by
  refine h.of_block (hg.block b h.lt (fun e => ?_))
  rcases hown.2 with ⟨rfl, _⟩ | ⟨g, cap, cur, rfl, _, hh, _⟩
  · simp [Value.ownBlock] at e
  · simp only [Value.ownBlock, Option.some.injEq] at e
    subst e
    obtain ⟨cc, hb, _⟩ := h
    rw [hh] at hb
    simp only [Option.some.injEq, Obj.cells.injEq] at hb
    exact ht hb.2.1.symm
theorem rows_apart {w : World} {b b' n n' : Nat} {t t' : TypeId} {f f' : Nat → Value} (h : w.rowIs b t n f) (h' : w.rowIs b' t' n' f') (ht : t ≠ t') : b ≠ b' := fun e => by
  subst e
  obtain ⟨_, hb, _⟩ := h
  obtain ⟨_, hb', _⟩ := h'
  rw [hb] at hb'
  simp only [Option.some.injEq, Obj.cells.injEq] at hb'
  exact ht hb'.2.1
theorem lastI_step (h : Nat) (s : Nat → Nat) (j c : Nat) : lastI h s (j + 1) c = if c = hostOf h s j then (j : Int) else lastI h s j c := by
  unfold lastI
  simp only [lastOf]
  by_cases e : c = hostOf h s j
  · rw [if_pos e.symm, if_pos e]
  · rw [if_neg (fun x => e x.symm), if_neg e]
def bl' (bl : Nat → Nat) (j V : Nat) : Nat → Nat := fun i => if i = j then V else bl i
theorem rows_snoc (bl : Nat → Nat) (j V h : Nat) : ((List.range (j + 1)).map fun i => Value.slice (some ⟨bl' bl j V i, 0, none⟩) h h) = ((List.range j).map fun i => Value.slice (some ⟨bl i, 0, none⟩) h h) ++ [Value.slice (some ⟨V, 0, none⟩) h h] := by
  rw [List.range_succ, List.map_append]
  congr 1
  · apply List.map_congr_left
    intro i hi
    have : i < j := List.mem_range.1 hi
    simp [bl', show i ≠ j by omega]
  · simp [bl']
/-- The round's end: the new row appended, the last event noted. -/
theorem st_next {w wx w' : World} {L h : Nat} {s : Nat → Nat} {j : Nat} {v v' : Value} {bl : Nat → Nat} {V H : Nat} (S : St2 w wx L h s j v bl V (cl h s j)) (hH : hostOf h s j = H)
    (hgr : wx.grownBy w' v.ownBlock) (hown' : w'.ownsRow w.heap.size 44 1 v' (j + 1) (((List.range j).map fun i => Value.slice (some ⟨bl i, 0, none⟩) h h) ++ [Value.slice (some ⟨V, 0, none⟩) h h])) (hL : w.heap.size ≤ L) :
    St w (w'.setCell ⟨L, H, none⟩ (.int .i64 j)) L h s (j + 1) v' (bl' bl j V) := by
  have hlast := row_grown S.last S.own (by decide) hgr
  have hrows : ∀ i, i < j + 1 → w'.rowIs (bl' bl j V i) 41 h (fun c => .int .u64 (cl h s i c)) := fun i hi => by
    by_cases e : i = j
    · subst e; simp only [bl', if_true]; exact row_grown S.new S.own (by decide) hgr
    · simp only [bl', if_neg e]; exact row_grown (S.rows i (by omega)) S.own (by decide) hgr
  have hbel : Below w.heap.size w w' := S.bel.grown hgr S.bel.size (fun k hk => (S.own.lt k hk).1)
  refine ⟨?_, fun i hi => (hrows i hi).setOther (rows_apart (hrows i hi) hlast (by decide)) _, ?_, hbel.setCell hL _⟩
  · rw [rows_snoc]
    exact own_apart hown' hlast (by decide) H _
  · refine (hlast.set H _).congr (fun c _ => ?_)
    rw [lastI_step, hH]
    split <;> rfl
theorem one_row (w : World) (v : Value) (hv : v.oneCell' = true) : Src Try.prog 1 71 (.slice (some ⟨w.heap.size, 0, none⟩) 1 1) 1 [v] (w.alloc (.cells #[v] 44)) :=
  Src.ofSlice _ Try.underlying71 _ 1 1 _ rfl (cell_one_new _ _ _) (fun u hu => by simp at hu; subst hu; exact hv)
theorem one_row' (w : World) (z : Nat) (v : Value) (hz : w.heap.size = z) (hv : v.oneCell' = true) : Src Try.prog 1 71 (.slice (some ⟨z, 0, none⟩) 1 1) 1 [v] (w.alloc (.cells #[v] 44)) := by
  subst hz
  exact one_row w v hv
theorem cl_H {h : Nat} {s : Nat → Nat} {j H : Nat} (hH : hostOf h s j = H) : cl h s j H = max (pv h s j H) (wv h s j H) + 1 ∧ cl h s j H ≤ j + 1 := by
  refine ⟨by rw [cl_eq, if_pos hH.symm], ?_⟩
  exact Nat.le_trans (cl_le h s j H) (cnt_le h s H (j + 1))

theorem leq_q (b1 b2 n c1 c2 : Nat) (A B : Nat → Nat) (q : Bool) (w : World) (hn : n ≤ 6) (h1 : ∀ i, i < n → w.cell? ⟨b1, i, none⟩ = some (.int .u64 (A i))) (h2 : ∀ i, i < n → w.cell? ⟨b2, i, none⟩ = some (.int .u64 (B i))) (hq : allLe A B n = q) :
    Calls Try.prog 39 #[.slice (some ⟨b1, 0, none⟩) n c1, .slice (some ⟨b2, 0, none⟩) n c2] w fun e w' => e = .returned (.bool q) ∧ ∃ m, w' = w.drewN m := by
  subst hq
  exact leq_any b1 b2 n c1 c2 A B w hn h1 h2

set_option maxRecDepth 100000 in
set_option maxHeartbeats 1000000 in
theorem main10 (h n c0 : Nat) (a : Option Addr) (b off : Nat) (s : Nat → Nat) (w : World) (hh0 : 0 < h) (hh : h ≤ 6) (hn : n ≤ 64) (ha : a = none → n = 0 ∧ c0 = 0) (hS : Ints .u16 w a n b off s) (hs : ∀ i, s i < 65536) :
    Calls Try.prog 10 #[.int .u8 h, .slice a n c0] w fun e w' => e = .returned (.bool true) ∧ Below w.heap.size w w' := by
  have HS : Hid (Ints .u16 w a n b off s) := hS
  have HA : Hid (a = none → n = 0 ∧ c0 = 0) := ha
  have HSB : Hid (∀ i, s i < 65536) := hs
  clear hS ha hs
  have hmk48 := run_make_row' (P := Try.prog) 48 3 (.int .i64 0) 8 Try.underlying48 info3 rfl .i64 .i64 h (by omega) (by omega)
  have hz : ((h : Int) == 0) = false := by simp; omega
  go_enter Try.func10, Try.ntmps10
  go_wp2_with (first | (go_at_call 38; refine (clone_any a b off n c0 s _ (by omega) HA.out HS.out).mono ?_; rintro e w1 ⟨a1, rfl, hS1, hbel1⟩) | (go_at_call 37; go_in))
  clear hmk48
  have HS1 : Hid (Ints .u16 w1 a1 n w.heap.size 0 s) := hS1
  have HBEL1 : Hid (Below w.heap.size w w1) := hbel1
  clear hS1 hbel1
  go_loopw [7] (fun i wr => ∃ k : Nat, k ≤ h ∧ i = .int .i64 k ∧ wr.rowIs w1.heap.size 3 h (inited k) ∧ Below w1.heap.size w1 wr ∧ w1.heap.size < wr.heap.size) (fun i _ => h - (intOf i).toNat)
  case atStart => exact ⟨0, Nat.zero_le _, rfl, (World.rowIs_made w1 _ _ _), (Below.refl _ _).alloc (Nat.le_refl _) _, by simp⟩
  case round =>
    obtain ⟨k, hk, rfl, hrow, hbel, hsz⟩ := hrel
    by_cases hlt : k < h
    · have hcd : wr.cell? ⟨w1.heap.size, k, none⟩ = some (inited k k) := hrow.cell hlt
      have hfd : wr.frozen? ⟨w1.heap.size, k, none⟩ = false := hrow.frozen k
      have hltz : (k : Int) < (h : Int) := by omega
      have HST : Hid ((wr.setCell ⟨w1.heap.size, k, none⟩ (.int .i64 (-1))).rowIs w1.heap.size 3 h (inited (k + 1))) := inited_step hrow
      go_wp2
      go_roundw
      case rel => exact ⟨k + 1, by omega, by go_num, HST.out, hbel.setCell (Nat.le_refl _) _, by simpa using hsz⟩
      case measure => simp [intOf]; omega
    · obtain rfl : k = h := by omega
      have hmk71 := make71 n hn
      have hlast := inited_all (s := s) hrow
      go_wp2
      clear hmk71
      have hst0 : St w1 (wr.alloc (.cells (madeCells #[.slice none 0 0] n) 44)) w1.heap.size k s 0 (.slice (some ⟨wr.heap.size, 0, none⟩) 0 n) (fun _ => 0) :=
        ⟨made71 wr n _ hbel.size hn, fun i hi => by omega, hlast.alloc _, hbel.alloc hbel.size _⟩
      clear hrow hbel hlast hsz
      go_loopg [8, 56] n (fun gk v i wr => ∃ (j : Nat) (bl : Nat → Nat), j ≤ n ∧ gk = n - j ∧ i = .int .i64 j ∧ St w1 wr w1.heap.size k s j v bl)
      case atStart => exact ⟨0, fun _ => 0, Nat.zero_le _, rfl, rfl, hst0⟩
      case round =>
        clear hst0
        obtain ⟨j, bl, hj, rfl, rfl, hst⟩ := hrel
        have HST : Hid (St w1 wr w1.heap.size k s j u8 bl) := hst
        clear hst
        by_cases hlj : j < n
        · obtain ⟨av, gv, cv, hv, hav, hjc, hcv, hcells⟩ := own_any HST.out.own
          subst hv
          have HCV : Hid (∀ i, i < j → ∀ u, ((List.range j).map fun i => Value.slice (some ⟨bl i, 0, none⟩) k k)[i]? = some u → wr.cell? ⟨gv, i, none⟩ = some u) := hcells
          have HAV : Hid (0 < j → av = some ⟨gv, 0, none⟩) := hav
          obtain ⟨ha1, hc1⟩ := HS1.out
          obtain rfl : a1 = some ⟨w.heap.size, 0, none⟩ := ha1 (by omega)
          have hcs : wr.cell? ⟨w.heap.size, j, none⟩ = some (.int .u16 (s j)) := by have h := cell_later HST.out.bel (hc1 j hlj); rwa [Nat.zero_add] at h
          have hsj := HSB.out j
          clear hcells hav ha1 hc1
          have hmod := tmodN (s j) k
          have hdiv := tdivN (s j) k
          have hmod2 := tmod1 (s j / k) j
          have hH : s j % k < k := Nat.mod_lt _ hh0
          have hdl : s j / k ≤ 65535 := Nat.le_trans (Nat.div_le_self _ _) (by omega)
          have hF : s j / k % (j + 1) ≤ j := by have := Nat.mod_lt (s j / k) (show 0 < j + 1 by omega); omega
          have HH : Hid (hostOf k s j = s j % k) := rfl
          have HF : Hid (fromOf k s j = s j / k % (j + 1)) := rfl
          generalize s j % k = H at hmod hH HH
          generalize s j / k = D at hdiv hmod2 hdl hF HF
          generalize D % (j + 1) = F at hmod2 hF HF
          have hmk44 := run_make_row' (P := Try.prog) 44 41 (.int .u64 0) 8 Try.underlying44 info41 rfl .i64 .i64 k (by omega) (by omega)
          have hll := (HST.out.last.alloc (.cells (madeCells #[.int .u64 0] k) 41)).cell hH
          have hljz : (j : Int) < (n : Int) := by omega
          have hHz : (H : Int) < (k : Int) := by omega
          unfold maxLen at hcv
          go_upto_if 78 with fail
          have HST2 : Hid (St2 w1 (wr.alloc (.cells (madeCells #[.int .u64 0] k) 41)) w1.heap.size k s j (.slice av j cv) bl wr.heap.size (fun _ => 0)) := st2_start HST.out
          clear HST HCV hll hmk44 hcs hmod hdiv hmod2
          generalize wr.heap.size = V at HST2 ⊢
          generalize wr.alloc (.cells (madeCells #[.int .u64 0] k) 41) = W2 at HST2 ⊢
          go_cut [14, 15] (fun _ _ wx => St2 w1 wx w1.heap.size k s j (.slice av j cv) bl V (pv k s j))
          case first =>
            cases hlo : lastOf k s H j with
            | none =>
              have hneg : lastI k s j H = -1 := by simp only [lastI, hlo]
              have hpv : ∀ c, pv k s j c = 0 := fun c => by unfold pv; rw [HH.out, hlo]
              clear hlo
              have HPV : Hid (∀ c, pv k s j c = 0) := hpv
              clear hpv
              go_wp2
              go_meet
              exact HST2.out.to (fun i _ => HPV.out i)
            | some l =>
              have hpos : lastI k s j H = (l : Int) := by simp only [lastI, hlo]
              have hlt := lastOf_lt k s hlo
              have HPV : Hid (∀ c, pv k s j c = cl k s l c) := fun c => by unfold pv; rw [HH.out, hlo]
              clear hlo
              have hll : W2.cell? ⟨w1.heap.size, H, none⟩ = some (.int .i64 l) := by rw [← hpos]; exact HST2.out.last.cell hH
              obtain rfl := HAV.out (by omega)
              have hrow : W2.cell? ⟨gv, l, none⟩ = some (.slice (some ⟨bl l, 0, none⟩) k k) := own_cell HST2.out.own (by simp [hlt])
              have hltz : (l : Int) < (j : Int) := by omega
              go_wp2
              clear hll hrow hpos
              go_loopw [15] (fun i wr => ∃ c : Nat, c ≤ k ∧ i = .int .i64 c ∧ St2 w1 wr w1.heap.size k s j (.slice (some ⟨gv, 0, none⟩) j cv) bl V (fun q => if q < c then cl k s l q else 0)) (fun i _ => k - (intOf i).toNat)
              case atStart => exact ⟨0, Nat.zero_le _, rfl, HST2.out.to (fun i _ => by simp)⟩
              case round =>
                obtain ⟨c, hc, rfl, hS2⟩ := hrel
                have HS2 : Hid (St2 w1 wr w1.heap.size k s j (.slice (some ⟨gv, 0, none⟩) j cv) bl V (fun q => if q < c then cl k s l q else 0)) := hS2
                clear hS2
                by_cases hlc : c < k
                · have g0 := (HS2.out.rows l hlt).cell hlc
                  have g1 := HS2.out.new.cell hlc
                  have g2 := HS2.out.new.frozen c
                  have hlcz : (c : Int) < (k : Int) := by omega
                  go_wp2
                  go_roundw
                  case rel => exact ⟨c + 1, by omega, by go_num, HS2.out.set c _ (fun i _ => upd (cl k s l) (fun _ => 0) c i)⟩
                  case measure => simp [intOf]; omega
                · obtain rfl : c = k := by omega
                  go_wp2
                  go_meet
                  exact HS2.out.to (fun i hi => by rw [HPV.out, if_pos hi])
          case rest =>
            have HC2 : Hid (St2 w1 wc w1.heap.size k s j (.slice av j cv) bl V (pv k s j)) := hcut
            clear hcut HST2
            go_upto_if 99 with fail
            go_cut [16, 17] (fun _ _ wx => St2 w1 wx w1.heap.size k s j (.slice av j cv) bl V (fun c => max (pv k s j c) (wv k s j c)))
            case first =>
              rcases Nat.eq_zero_or_pos F with hF0 | hF0
              · have HWV : Hid (∀ c, wv k s j c = 0) := fun c => by unfold wv; rw [HF.out, hF0]; simp
                subst hF0
                go_wp2
                go_meet
                exact HC2.out.to (fun i _ => by rw [HWV.out]; omega)
              · obtain ⟨l, rfl⟩ : ∃ l, F = l + 1 := ⟨F - 1, by omega⟩
                have hlt : l < j := by omega
                have HWV : Hid (∀ c, wv k s j c = cl k s l c) := fun c => by unfold wv; rw [HF.out, if_pos (by omega), Nat.add_sub_cancel]
                obtain rfl := HAV.out (by omega)
                have hrow : wc.cell? ⟨gv, l, none⟩ = some (.slice (some ⟨bl l, 0, none⟩) k k) := own_cell HC2.out.own (by simp [hlt])
                have hltz : (l : Int) < (j : Int) := by omega
                go_wp2
                clear hrow
                go_loopw [17] (fun i wr => ∃ c : Nat, c ≤ k ∧ i = .int .i64 c ∧ St2 w1 wr w1.heap.size k s j (.slice (some ⟨gv, 0, none⟩) j cv) bl V (fun q => if q < c then max (pv k s j q) (wv k s j q) else pv k s j q)) (fun i _ => k - (intOf i).toNat)
                case atStart => exact ⟨0, Nat.zero_le _, rfl, HC2.out.to (fun i _ => by simp)⟩
                case round =>
                  obtain ⟨c, hc, rfl, hS2⟩ := hrel
                  have HS2 : Hid (St2 w1 wr w1.heap.size k s j (.slice (some ⟨gv, 0, none⟩) j cv) bl V (fun q => if q < c then max (pv k s j q) (wv k s j q) else pv k s j q)) := hS2
                  clear hS2
                  by_cases hlc : c < k
                  · have g0 : wr.cell? ⟨bl l, c, none⟩ = some (.int .u64 (wv k s j c)) := by rw [HWV.out]; exact (HS2.out.rows l hlt).cell hlc
                    have g1 : wr.cell? ⟨V, c, none⟩ = some (.int .u64 (pv k s j c)) := by have h := HS2.out.new.cell hlc; simpa using h
                    have g2 := HS2.out.new.frozen c
                    have hlcz : (c : Int) < (k : Int) := by omega
                    go_wp2
                    go_quiet (fail)
                    go_wp2
                    · have hgt : pv k s j c < wv k s j c := by assumption
                      go_roundw
                      case rel => exact ⟨c + 1, by omega, by go_num, (HS2.out.drewN nq).set c _ (fun i _ => by rw [upd (fun q => max (pv k s j q) (wv k s j q)) (pv k s j) c i, Nat.max_eq_right (Nat.le_of_lt hgt)])⟩
                      case measure => simp [intOf]; omega
                    · have hle : wv k s j c ≤ pv k s j c := by first | assumption | omega
                      go_roundw
                      case rel => exact ⟨c + 1, by omega, by go_num, (HS2.out.drewN nq).to (fun i _ => upd_keep (fun q => max (pv k s j q) (wv k s j q)) (pv k s j) c i (Nat.max_eq_left hle))⟩
                      case measure => simp [intOf]; omega
                  · obtain rfl : c = k := by omega
                    go_wp2
                    go_meet
                    exact HS2.out.to (fun i hi => by rw [if_pos hi])
            case rest =>
              have HC3 : Hid (St2 w1 wc w1.heap.size k s j (.slice av j cv) bl V (fun c => max (pv k s j c) (wv k s j c))) := hcut
              clear hcut HC2
              obtain ⟨hM1, hM2⟩ := cl_H HH.out
              have HX : Hid (St2 w1 (wc.setCell ⟨V, H, none⟩ (.int .u64 ((max (pv k s j H) (wv k s j H) + 1 : Nat) : Int))) w1.heap.size k s j (.slice av j cv) bl V (cl k s j)) := HC3.out.set H _ (fun i _ => by
                rw [cl_eq, HH.out]
                by_cases e : i = H
                · subst e; simp
                · simp [e])
              have g1 := HC3.out.new.cell hH
              have g2 := HC3.out.new.frozen H
              rw [hM1] at hM2
              clear HC3 hM1
              generalize max (pv k s j H) (wv k s j H) = M at HX g1 hM2
              have ecast : ((M + 1 : Nat) : Int) = (M : Int) + 1 := by simp
              rw [ecast] at HX
              clear ecast
              go_wp2_with (at_builtin; (refine wpList_append_src _ rfl _ _ 71 71 rfl w1.heap.size 44 (.slice none 0 0) 24 Try.underlying71 info44 rfl _ j _ rfl (HX.out.own.alloc _) _ 1 [.slice (some ⟨V, 0, none⟩) k k] rfl (one_row' _ wc.heap.size _ (by simp) rfl) ?e1 ?e2 ?e3 ?e4 ?_))
              case e1 => intro _; omega
              case e2 => unfold maxLen; omega
              case e3 => omega
              case e4 => have := HX.out.bel.size; simp at this; simp; omega
              intro v' w' hown' hgr' _
              obtain ⟨av', gv', cv', hv', _, hjc', hcv', _⟩ := own_any hown'
              subst hv'
              have HX2 : Hid (St2 w1 ((wc.setCell ⟨V, H, none⟩ (.int .u64 ((M : Int) + 1))).alloc (.cells #[.slice (some ⟨V, 0, none⟩) k k] 44)) w1.heap.size k s j (.slice av j cv) bl V (cl k s j)) :=
                ⟨HX.out.own.alloc _, fun i hi => (HX.out.rows i hi).alloc _, HX.out.last.alloc _, HX.out.bel.alloc HX.out.bel.size _, HX.out.new.alloc _, HX.out.apart, HX.out.old, HX.out.notL⟩
              have HN : Hid (St w1 (w'.setCell ⟨w1.heap.size, H, none⟩ (.int .i64 j)) w1.heap.size k s (j + 1) (.slice av' (j + 1) cv') (bl' bl j V)) := st_next HX2.out HH.out hgr' hown' (Nat.le_refl _)
              have hrl := row_grown HX2.out.last HX2.out.own (by decide) hgr'
              have g3 := hrl.cell hH
              have g4 := hrl.frozen H
              unfold maxLen at hcv'
              clear hown' hgr' hrl HX HX2 g1 g2
              go_wp2
              go_roundg (n - (j + 1))
              case measure => omega
              case rel => exact ⟨j + 1, bl' bl j V, by omega, rfl, by go_num, HN.out⟩
        · obtain rfl : j = n := by omega
          obtain ⟨av, gv, cv, hv, hav, hjc, hcv, hcells⟩ := own_any HST.out.own
          subst hv
          unfold maxLen at hcv
          obtain ⟨W0, hW0⟩ : ∃ W0, W0 = wr := ⟨wr, rfl⟩
          subst hW0
          have HAV : Hid (0 < j → av = some ⟨gv, 0, none⟩) := hav
          have HG : Hid (∀ i, i < j → W0.cell? ⟨gv, i, none⟩ = some (.slice (some ⟨bl i, 0, none⟩) k k)) := fun i hi => hcells i hi _ (by simp [hi])
          have HR : Hid (∀ i, i < j → ∀ c, c < k → W0.cell? ⟨bl i, c, none⟩ = some (.int .u64 (cl k s i c))) := fun i hi c hc => (HST.out.rows i hi).cell hc
          have HB : Hid (Below w.heap.size w W0) := HBEL1.out.trans (HST.out.bel.mono HBEL1.out.size)
          clear hcells hav HST
          go_wp2
          go_loopw [18, 19, 20] (fun u18 u19 u20 wx => ∃ e : Nat, e ≤ j ∧ u20 = .int .i64 e ∧ u18 = .int .u64 (ordR k s j e : Nat) ∧ u19 = .int .u64 (conR k s j e : Nat) ∧ ∃ m, wx = W0.drewN m) (fun _ _ i _ => j - (intOf i).toNat)
          case atStart => exact ⟨0, Nat.zero_le _, rfl, rfl, rfl, 0, rfl⟩
          case round =>
            obtain ⟨e, he, rfl, rfl, rfl, m, hm⟩ := hrel
            have HM : Hid (wr = W0.drewN m) := hm
            clear hm
            by_cases hle : e < j
            · obtain rfl := HAV.out (by omega)
              obtain ⟨hb1, hb2⟩ := ordR_le k s j e
              have hej : e * j ≤ 64 * 64 := Nat.mul_le_mul (by omega) hn
              have hb1' : ordR k s j e ≤ 4096 := by omega
              have hb2' : conR k s j e ≤ 4096 := by omega
              have HALL := part_all k s j e
              have HALL2 : Hid (ordR k s j (e + 1) = ordR k s j e + ordP k s e j ∧ conR k s j (e + 1) = conR k s j e + conP k s e j) := HALL
              obtain ⟨hp1, hp2⟩ := part_start k s e
              have HP : Hid (ordP k s e (e + 1) = 0 ∧ conP k s e (e + 1) = 0) := ⟨hp1, hp2⟩
              have g0 : wr.cell? ⟨gv, e, none⟩ = some (.slice (some ⟨bl e, 0, none⟩) k k) := by rw [HM.out]; exact HG.out e hle
              clear hb1 hb2 hej HALL hp1 hp2
              have hlez : (e : Int) < (j : Int) := by omega
              go_wp2
              clear g0
              go_loopw [18, 19, 21] (fun u18 u19 u21 wx => ∃ f : Nat, e + 1 ≤ f ∧ f ≤ j ∧ u21 = .int .i64 f ∧ u18 = .int .u64 ((ordR k s j e + ordP k s e f : Nat) : Int) ∧ u19 = .int .u64 ((conR k s j e + conP k s e f : Nat) : Int) ∧ ∃ m, wx = W0.drewN m) (fun _ _ i _ => j - (intOf i).toNat)
              case atStart => exact ⟨e + 1, Nat.le_refl _, hle, by go_num, by rw [HP.out.1, Nat.add_zero], by rw [HP.out.2, Nat.add_zero], m, HM.out⟩
              case round =>
                clear HM
                obtain ⟨f, hf1, hf2, rfl, rfl, rfl, m, hm⟩ := hrel
                have HM : Hid (wr = W0.drewN m) := hm
                clear hm
                by_cases hlf : f < j
                · have HPS := part_step k s (show e < f by omega)
                  have HPS2 : Hid (ordP k s e (f + 1) = ordP k s e f + cmp k s e f ∧ conP k s e (f + 1) = conP k s e f + (1 - cmp k s e f)) := HPS
                  obtain ⟨hc1, hc2⟩ := part_le k s e f
                  have hlfz : (f : Int) < (j : Int) := by omega
                  have g0 : wr.cell? ⟨gv, e, none⟩ = some (.slice (some ⟨bl e, 0, none⟩) k k) := by rw [HM.out]; exact HG.out e hle
                  have g1 : wr.cell? ⟨gv, f, none⟩ = some (.slice (some ⟨bl f, 0, none⟩) k k) := by rw [HM.out]; exact HG.out f hlf
                  have HE : Hid (∀ q c, c < k → (wr.drewN q).cell? ⟨bl e, c, none⟩ = some (.int .u64 (cl k s e c))) := fun q c hc => by rw [HM.out]; exact HR.out e hle c hc
                  have HF2 : Hid (∀ q c, c < k → (wr.drewN q).cell? ⟨bl f, c, none⟩ = some (.int .u64 (cl k s f c))) := fun q c hc => by rw [HM.out]; exact HR.out f hlf c hc
                  clear HPS
                  cases hq : leqB k s e f with
                  | true =>
                    have HQ : Hid (allLe (cl k s e) (cl k s f) k = true) := hq
                    have HCM : Hid (cmp k s e f = 1) := by show _ = _; simp [cmp, hq]
                    clear hq
                    go_wp2
                    go_quiet ((go_at_call 39; exact Calls.quiet_of (leq_q (bl e) (bl f) k k k (cl k s e) (cl k s f) true _ hh (HE.out _) (HF2.out _) HQ.out)))
                    go_wp2
                    go_roundw
                    case rel => exact ⟨f + 1, by omega, by omega, by go_num, by rw [HPS2.out.1, HCM.out]; go_num, by rw [HPS2.out.2, HCM.out]; go_num, m + nq, by rw [HM.out]; exact World.drewN_drewN ..⟩
                    case measure => simp [intOf]; omega
                  | false =>
                    have hq2 := leq_down k s hh0 (show e < f by omega)
                    have HQ : Hid (allLe (cl k s e) (cl k s f) k = false) := hq
                    have HQ2 : Hid (allLe (cl k s f) (cl k s e) k = false) := hq2
                    have HCM : Hid (cmp k s e f = 0) := by show _ = _; simp [cmp, hq, hq2]
                    clear hq hq2
                    have HBOTH : Hid (∀ x y q, (x = bl e ∧ y = bl f ∨ x = bl f ∧ y = bl e) → Calls Try.prog 39 #[.slice (some ⟨x, 0, none⟩) k k, .slice (some ⟨y, 0, none⟩) k k] (wr.drewN q) fun e w' => e = .returned (.bool false) ∧ ∃ m, w' = (wr.drewN q).drewN m) := by
                      rintro x y q (⟨rfl, rfl⟩ | ⟨rfl, rfl⟩)
                      · exact leq_q _ _ k k k (cl k s e) (cl k s f) false _ hh (HE.out _) (HF2.out _) HQ.out
                      · exact leq_q _ _ k k k (cl k s f) (cl k s e) false _ hh (HF2.out _) (HE.out _) HQ2.out
                    go_wp2
                    go_quiet ((go_at_call 39; exact Calls.quiet_of (HBOTH.out _ _ _ (by first | exact Or.inl ⟨rfl, rfl⟩ | exact Or.inr ⟨rfl, rfl⟩))))
                    go_wp2
                    go_roundw
                    case rel => exact ⟨f + 1, by omega, by omega, by go_num, by rw [HPS2.out.1, HCM.out]; go_num, by rw [HPS2.out.2, HCM.out]; go_num, m + nq, by rw [HM.out]; exact World.drewN_drewN ..⟩
                    case measure => simp [intOf]; omega
                · obtain rfl : f = j := by omega
                  go_wp2
                  go_roundw
                  case rel => exact ⟨e + 1, by omega, by go_num, by rw [HALL2.out.1], by rw [HALL2.out.2], m, HM.out⟩
                  case measure => simp [intOf]; omega
            · obtain rfl : e = j := by omega
              have HB2 : Hid (Below w.heap.size w wr) := by rw [HM.out]; exact below_drewN HB.out m
              have HG2 : Hid (∀ i, i < e → wr.cell? ⟨gv, i, none⟩ = some (.slice (some ⟨bl i, 0, none⟩) k k)) := by rw [HM.out]; exact HG.out
              have HR2 : Hid (∀ i, i < e → ∀ c, c < k → wr.cell? ⟨bl i, c, none⟩ = some (.int .u64 (cl k s i c))) := by rw [HM.out]; exact HR.out
              have hz40 := zzpairs_any av gv e k cv HAV.out bl (cl k s) wr hn hh HG2.out HR2.out (fun f _ => sum_pos k s hh0 f) (fun f hf c hc => sum_part k s f c (by omega) (by omega)) (fun f hf => totS_small k s hh0 f (by omega)) (totS_le k s hh0 e)
              rw [show tot (cl k s) k e = ordR k s e e from totS_eq k s hh0 e] at hz40
              rw [show e * (e - 1) / 2 - ordR k s e e = conR k s e e by rw [← totS_eq k s hh0 e]; exact conR_eq k s hh0 e] at hz40
              have HZ : Hid (Calls Try.prog 40 #[.slice av e cv] wr fun e' w' => e' = .returned (.tuple #[.int .u64 (ordR k s e e : Nat), .int .u64 ((conR k s e e : Nat) : Int)]) ∧ Below wr.heap.size wr w') := hz40
              clear hz40
              go_wp2_with (first | (go_at_call 40; refine HZ.out.mono ?_; rintro _ w' ⟨rfl, hbel⟩))
              try go_wp2
              go_ret
              exact ⟨rfl, HB2.out.trans (hbel.mono HB2.out.size)⟩

end Go.Proofs.Qxb6001689a

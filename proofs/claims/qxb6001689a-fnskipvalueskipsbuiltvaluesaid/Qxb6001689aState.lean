/-
  What zzBuildValue holds between its statements: three rows of its own, apart from one another; and what the text so far means to the scan.
-/
import Derived.Test.Qxb6001689aQuote
import Derived.Test.Qxb6001689aNumber
import Derived.OneCell
namespace Go.Proofs.Qxb6001689a
open Go.RowKit

theorem info4 : (Try.prog.info? 4).map (fun i => (i.zero, i.size, i.bytes)) = some (some (.bool false), 1, 1) := by kernel_rfl

/-- The Booleans of a list. -/
def boolsV (F : List Bool) : List Value := F.map fun c => .bool c
theorem boolsV_append (a b : List Bool) : boolsV (a ++ b) = boolsV a ++ boolsV b := by simp [boolsV]
theorem boolsV_length (a : List Bool) : (boolsV a).length = a.length := by simp [boolsV]
theorem bytesV_take (a : List Nat) (m : Nat) : (bytesV a).take m = bytesV (a.take m) := by simp [bytesV]
theorem boolsV_take (a : List Bool) (m : Nat) : (boolsV a).take m = boolsV (a.take m) := by simp [boolsV]
theorem boolsV_set (a : List Bool) (j : Nat) (b : Bool) : (boolsV a).set j (.bool b) = boolsV (a.set j b) := by simp [boolsV]

theorem true_src (w : World) (b : Nat) (hb : b = w.heap.size) : Src Try.prog 1 49 (.slice (some ⟨b, 0, none⟩) 1 1) 1 (boolsV [true]) (w.alloc (.cells #[.bool true] 4)) := by
  subst hb
  refine Src.ofSlice _ Try.underlying49 _ _ _ _ (by simp [boolsV_length]) (fun j u hj => ?_) (by simp [boolsV, Value.oneCell'])
  rw [Addr.add_lit]
  have h : (w.alloc (.cells #[.bool true] 4)).heap[w.heap.size]? = some (.cells (boolsV [true] ++ []).toArray 4 (0, 0)) := by rw [List.append_nil]; exact heap_alloc_new w _
  exact cells_of_heap h j u hj

structure St (w0 wr : World) (out kinds fresh : Value) (L K : List Nat) (F : List Bool) : Prop where
  o1 : wr.ownsRow w0.heap.size 5 1 out (bytesV L).length (bytesV L)
  o2 : wr.ownsRow w0.heap.size 5 1 kinds (bytesV K).length (bytesV K)
  o3 : wr.ownsRow w0.heap.size 4 1 fresh (boolsV F).length (boolsV F)
  a12 : Apart out kinds
  a13 : Apart out fresh
  a23 : Apart kinds fresh
  bel : Below w0.heap.size w0 wr

section
variable {w0 wr w' : World} {out out' kinds kinds' fresh fresh' : Value} {L K x : List Nat} {F y : List Bool}

theorem St.start (w : World) : St w w (.slice none 0 0) (.slice none 0 0) (.slice none 0 0) [] [] [] :=
  ⟨World.ownsRow_nil _ _ _ _, World.ownsRow_nil _ _ _ _, World.ownsRow_nil _ _ _ _, (fun g h => by simp [Value.ownBlock] at h), (fun g h => by simp [Value.ownBlock] at h), (fun g h => by simp [Value.ownBlock] at h), Below.refl _ _⟩

theorem St.hb (h : St w0 wr out kinds fresh L K F) : w0.heap.size ≤ wr.heap.size := h.bel.size

theorem St.addO (h : St w0 wr out kinds fresh L K F) (g : Grew w0.heap.size 5 wr w' out out' (bytesV (L ++ x))) : St w0 w' out' kinds fresh (L ++ x) K F :=
  have h2 := g.other h.o2 h.a12
  have h3 := g.other h.o3 h.a13
  ⟨g.own, h2.1, h3.1, h2.2, h3.2, h.a23, below_grew g h.o1 h.bel h.hb⟩

theorem St.addK (h : St w0 wr out kinds fresh L K F) (g : Grew w0.heap.size 5 wr w' kinds kinds' (bytesV (K ++ x))) : St w0 w' out kinds' fresh L (K ++ x) F :=
  have h2 := g.other h.o1 h.a12.symm
  have h3 := g.other h.o3 h.a23
  ⟨h2.1, g.own, h3.1, h2.2.symm, h.a13, h3.2, below_grew g h.o2 h.bel h.hb⟩

theorem St.addF (h : St w0 wr out kinds fresh L K F) (g : Grew w0.heap.size 4 wr w' fresh fresh' (boolsV (F ++ y))) : St w0 w' out kinds fresh' L K (F ++ y) :=
  have h2 := g.other h.o1 h.a13.symm
  have h3 := g.other h.o2 h.a23.symm
  ⟨h2.1, h3.1, g.own, h.a12, h2.2.symm, h3.2.symm, below_grew g h.o3 h.bel h.hb⟩

theorem own_cut {e : TypeId} {base g n cap m : Nat} {xs : List Value} (h : wr.ownsRow base e 1 (.slice (some ⟨g, 0, none⟩) n cap) xs.length xs) (hm : m ≤ n) :
    wr.ownsRow base e 1 (.slice (some ⟨g, 0, none⟩) m cap) (xs.take m).length (xs.take m) := by
  have hn : xs.length = n := by
    rcases h.2 with ⟨hv, _⟩ | ⟨g', cap', cur, hv, _⟩
    · simp at hv
    · simp only [Value.slice.injEq] at hv
      exact hv.2.1.symm
  rw [hn] at h
  have h2 := own_front h hm
  rwa [show (xs.take m).length = m by rw [List.length_take]; omega]

theorem St.popk {g n cap m : Nat} (h : St w0 wr out (.slice (some ⟨g, 0, none⟩) n cap) fresh L K F) (hm : m ≤ n) : St w0 wr out (.slice (some ⟨g, 0, none⟩) m cap) fresh L (K.take m) F :=
  ⟨h.o1, by have := own_cut h.o2 hm; rwa [bytesV_take] at this, h.o3, h.a12, h.a13, h.a23, h.bel⟩

theorem St.popf {g n cap m : Nat} (h : St w0 wr out kinds (.slice (some ⟨g, 0, none⟩) n cap) L K F) (hm : m ≤ n) : St w0 wr out kinds (.slice (some ⟨g, 0, none⟩) m cap) L K (F.take m) :=
  ⟨h.o1, h.o2, by have := own_cut h.o3 hm; rwa [boolsV_take] at this, h.a12, h.a13, h.a23, h.bel⟩

theorem St.store {g n cap j : Nat} {b : Bool} (h : St w0 wr out kinds (.slice (some ⟨g, 0, none⟩) n cap) L K F) : St w0 (wr.setCell ⟨g, j, none⟩ (.bool b)) out kinds (.slice (some ⟨g, 0, none⟩) n cap) L K (F.set j b) := by
  have hn : (boolsV F).length = n := by
    rcases h.o3.2 with ⟨hv, _⟩ | ⟨g', cap', cur, hv, _⟩
    · simp at hv
    · simp only [Value.slice.injEq] at hv
      exact hv.2.1.symm
  have h3 := h.o3
  rw [hn] at h3
  refine ⟨ownsRow_setCell_other h.o1 (fun e => h.a13 g e rfl) _, ownsRow_setCell_other h.o2 (fun e => h.a23 g e rfl) _, ?_, h.a12, h.a13, h.a23, h.bel.setCell (h.o3.lt g rfl).1 _⟩
  have := (h3.stored j (.bool b)).1
  rw [boolsV_set] at this
  rwa [boolsV_length, List.length_set, ← boolsV_length, hn]

/-- What an owned value looks like. -/
theorem own_form {base : Nat} {e : TypeId} {v : Value} {xs : List Value} (h : wr.ownsRow base e 1 v xs.length xs) :
    ∃ a cap, v = .slice a xs.length cap ∧ xs.length ≤ cap ∧ cap ≤ maxLen ∧ (0 < xs.length → ∃ g, a = some ⟨g, 0, none⟩ ∧ (∀ j, j < xs.length → wr.cell? ⟨g, j, none⟩ = xs[j]?) ∧ ∀ j, wr.frozen? ⟨g, j, none⟩ = false) := by
  have hh := h
  rcases h.2 with ⟨rfl, h0⟩ | ⟨g, cap, cur, rfl, hb, hg, hnc, hcm, hcs, ht⟩
  · exact ⟨none, 0, by rw [h0], by omega, by unfold maxLen; omega, fun h => by omega⟩
  · exact ⟨_, cap, rfl, hnc, hcm, fun _ => ⟨g, rfl, fun j hj => hh.cellAt j (by omega), fun j => hh.frozenAt j⟩⟩
end

/-- What the text so far means: nothing yet; d brackets are open; the value is whole. -/
def Stat (st : Bool) (d : Nat) (L : List Nat) : Prop := (st = false ∧ d = 0 ∧ L = []) ∨ (st = true ∧ 0 < d ∧ Goes L d) ∨ (st = true ∧ d = 0 ∧ Whole L ∧ 0 < L.length)

theorem stat_close {d : Nat} {L : List Nat} {c : Nat} (h : Goes L (d + 1)) (hc : c = 125 ∨ c = 93) : Stat true d (L ++ [c]) := by
  rcases Nat.eq_zero_or_pos d with h0 | h0
  · subst h0
    exact .inr (.inr ⟨rfl, rfl, whole_close h hc, by simp⟩)
  · obtain ⟨e, rfl⟩ : ∃ e, d = e + 1 := ⟨d - 1, by omega⟩
    exact .inr (.inl ⟨rfl, h0, goes_close h hc⟩)
theorem stat_open {d : Nat} {L : List Nat} {c : Nat} (h : Goes L d) (hc : c = 123 ∨ c = 91) : Stat true (d + 1) (L ++ [c]) := .inr (.inl ⟨rfl, by omega, goes_open h hc⟩)
theorem stat_plain {d : Nat} {L x : List Nat} (h : Goes L d) (hx : Plain x) (hp : 0 < x.length) : Stat true d (L ++ x) := by
  rcases Nat.eq_zero_or_pos d with h0 | h0
  · subst h0
    exact .inr (.inr ⟨rfl, rfl, whole_plain h hx, by simp; omega⟩)
  · exact .inr (.inl ⟨rfl, h0, goes_plain h hx⟩)
theorem stat_str {d : Nat} {L x : List Nat} (h : Goes L d) (hx : Str x) (hp : 0 < x.length) : Stat true d (L ++ x) := by
  rcases Nat.eq_zero_or_pos d with h0 | h0
  · subst h0
    exact .inr (.inr ⟨rfl, rfl, whole_str h hx, by simp; omega⟩)
  · obtain ⟨e, rfl⟩ : ∃ e, d = e + 1 := ⟨d - 1, by omega⟩
    exact .inr (.inl ⟨rfl, h0, goes_str h hx⟩)
theorem stat_goes {st : Bool} {d : Nat} {L : List Nat} (h : Stat st d L) (hs : st = true → 0 < d) : Goes L d := by
  rcases h with ⟨_, rfl, rfl⟩ | ⟨_, _, h⟩ | ⟨h1, h2, _⟩
  · exact goes_nil
  · exact h
  · have := hs h1; omega
/-- A key, whole, and its colon. -/
theorem goes_key {d : Nat} {L x : List Nat} (h : Goes L (d + 1)) (hx : Plain x) : Goes (((L ++ [34]) ++ x) ++ [34, 58]) (d + 1) := by
  have h1 : Goes (L ++ (34 :: (x ++ [34]))) (d + 1) := goes_str h (str_of (instr_plain hx))
  have h2 : Goes ((L ++ (34 :: (x ++ [34]))) ++ [58]) (d + 1) := goes_plain h1 (plain_cons (by decide) plain_nil)
  have e : ((L ++ [34]) ++ x) ++ [34, 58] = (L ++ (34 :: (x ++ [34]))) ++ [58] := by simp
  rw [e]; exact h2
theorem plain_true : Plain (strL { data := #[116, 114, 117, 101] }) := by unfold Plain; decide
theorem plain_false : Plain (strL { data := #[102, 97, 108, 115, 101] }) := by unfold Plain; decide
theorem plain_null : Plain (strL { data := #[110, 117, 108, 108] }) := by unfold Plain; decide
theorem plain_zero : Plain [48] := by unfold Plain; decide

end Go.Proofs.Qxb6001689a

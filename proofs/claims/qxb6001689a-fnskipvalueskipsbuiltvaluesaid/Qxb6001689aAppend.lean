/-
  'append' of whatever source onto a slice that the call itself owns (elements of one cell): besides what Laws/AppendOwn says, THE OLD VALUE STILL OWNS WHAT IT OWNED. For a loop that ranges over a prefix of the slice it appends to. Over any program.
-/
import Derived.WalkKit
import Derived.Deep.AppendSrc
namespace Go.Proofs.Qxb6001689a
open Go.RowKit

section
variable {P : Program} (w : World)

/-- There is room: the cells are laid behind the length, in the same block. -/
theorem run_room (t tx ty e : TypeId) (i : TypeInfo) (ht : P.underlying t = some (.slice e)) (hi : P.info? e = some i) (hsize : i.size = 1)
    (g sLen sCap : Nat) (cur : Array Value) (hg : w.heap[g]? = some (.cells cur e (0, 0)))
    (x : Value) (m : Nat) (news : List Value) (hs : Src P 1 tx x m news w) (hroom : sLen + m ≤ sCap) (hfit : sLen + news.length ≤ cur.size) :
    (Builtin.append_ #[t, tx] ty #[.slice (some ⟨g, 0, none⟩) sLen sCap, x]).run P w =
      .ok (.slice (some ⟨g, 0, none⟩) (sLen + m) sCap) (w.setRow g (cur.toList.take sLen ++ news ++ cur.toList.drop (sLen + news.length)).toArray) := by
  have hst := run_storeCells_at P g sLen e news 0 cur w hg (by simpa using hfit) hs.one
  simp only [Nat.add_zero] at hst
  rcases hs.kind with ⟨e', hk⟩ | hk <;>
    simp [Builtin.append_, run_underlying ht, run_underlying hk, sizeOf, typeInfo, hi, hsize, hs.len, hroom, hs.cells, Addr.add_lit, hst]

theorem run_append_src (base : Nat) (t tx ty e : TypeId) (i : TypeInfo) (z : Value) (bytes : Nat) (ht : P.underlying t = some (.slice e)) (hi : P.info? e = some i) (hz : i.zero = some z)
    (hsize : i.size = 1) (hby : i.bytes = bytes) (hzs : z.cells.size = 1)
    (v : Value) (n : Nat) (xs : List Value) (hown : w.ownsRow base e 1 v n xs) (x : Value) (m : Nat) (news : List Value) (hs : Src P 1 tx x m news w) (hm0 : v = .slice none 0 0 → 0 < m)
    (h63 : n + m ≤ maxLen) (hbytes : (n + m) * bytes ≤ 140737488355328) (hbase : base ≤ w.heap.size) :
    ∃ v' w', (Builtin.append_ #[t, tx] ty #[v, x]).run P w = .ok v' w' ∧ w'.ownsRow base e 1 v' (n + m) (xs ++ news) ∧ w.grownBy w' v.ownBlock ∧ w'.ownsRow base e 1 v n xs := by
  subst hby
  have hsmall : n + m ≤ 9223372036854775807 := by simp only [maxLen] at h63; omega
  have hl := hs.newsLen
  have hlen : (xs ++ news).length = (n + m) * 1 := by rw [List.length_append, hown.1, hl, Nat.add_mul]
  have grown : ∀ (old : Nat), old < n + m → ∀ (row : Option Nat),
      (w.drew.alloc (.cells ((xs ++ news).toArray ++ Builtin.zeroCells z.cells (grownCap w (n + m) old e - (n + m))) e)).ownsRow base e 1
        (.slice (some ⟨w.heap.size, 0, none⟩) (n + m) (grownCap w (n + m) old e)) (n + m) (xs ++ news) ∧
      w.grownBy (w.drew.alloc (.cells ((xs ++ news).toArray ++ Builtin.zeroCells z.cells (grownCap w (n + m) old e - (n + m))) e)) row := by
    intro old ho row
    have hge := grownCap_ge w (n + m) old e
    have hcm : grownCap w (n + m) old e ≤ maxLen := grownCap_le_maxLen w (n + m) old e h63
    refine ⟨⟨hlen, .inr ⟨w.heap.size, _, _, rfl, hbase, heap_alloc_new w.drew _, hge, hcm, ?_, ?_⟩⟩, ⟨rfl, rfl, rfl, by simp, fun k hk _ => Below.heap_alloc w.drew _ k hk⟩⟩
    · simp only [Array.size_append, List.size_toArray, size_zeroCells, hzs, hlen, ← Nat.add_mul]
      congr 1
      omega
    · simp only [Array.toList_append]
      rw [← hlen]
      exact List.take_left
  rcases hown.2 with ⟨rfl, rfl⟩ | ⟨g, cap, cur, rfl, hbg, hg, hnc, hcm, hcs, htake⟩
  · have hx : xs = [] := List.eq_nil_of_length_eq_zero (by simpa using hown.1)
    subst hx
    have hm : 0 < m := hm0 rfl
    have hr := run_append_grow_src (P := P) w t tx ty e i z ht hi hz none 0 0 [] (by simpa [hsize] using run_firstCells_none (P := P) w.drew 1 0 0 0) x m news (by rw [hsize]; exact hs) (by omega) (by omega) (growslice_fits (by omega) hbytes)
    have hgr := grown 0 (by omega) (Value.ownBlock (.slice none 0 0))
    exact ⟨_, _, hr, hgr.1, hgr.2, World.ownsRow_nil _ base e 1⟩
  · have htk : cur.toList.take n = xs := by simpa using htake
    by_cases hroom : n + m ≤ cap
    · have hfit : n + news.length ≤ cur.size := by rw [hl, hcs]; omega
      have hr := run_room (P := P) w t tx ty e i ht hi hsize g n cap cur hg x m news hs hroom hfit
      have hsz : (cur.toList.take n ++ news ++ cur.toList.drop (n + news.length)).toArray.size = cap * 1 := by
        simp only [List.size_toArray, List.length_append, List.length_take, List.length_drop, Array.length_toList]
        omega
      refine ⟨_, _, hr, ⟨hlen, .inr ⟨g, cap, _, rfl, hbg, setRow_heap w g cur _ e _ hg, hroom, hcm, hsz, ?_⟩⟩, ⟨rfl, rfl, rfl, by simp, fun k _ hk => setRow_other w g k _ (fun e => hk (by simp [Value.ownBlock, e]))⟩,
        ⟨hown.1, .inr ⟨g, cap, _, rfl, hbg, setRow_heap w g cur _ e _ hg, hnc, hcm, hsz, ?_⟩⟩⟩
      · rw [htk, ← hlen]
        exact List.take_left
      · rw [htk, ← hown.1, List.append_assoc]
        exact List.take_left
    · have holds : ∀ j u, xs[j]? = some u → w.cell? ((⟨g, 0, none⟩ : Addr).add j) = some u := hown.cells (g := g) rfl
      have hold : (Builtin.firstCells i.size n (.slice (some ⟨g, 0, none⟩) n cap)).run P w.drew = .ok xs.toArray w.drew := by
        rw [hsize]; exact run_firstCells_some (P := P) w.drew 1 n ⟨g, 0, none⟩ n cap xs hown.1 (by simpa using holds)
      have hr := run_append_grow_src (P := P) w t tx ty e i z ht hi hz (some ⟨g, 0, none⟩) n cap xs hold x m news (by rw [hsize]; exact hs) (by omega) (by omega) (growslice_fits (by omega) hbytes)
      have hgr := grown cap (by omega) (Value.ownBlock (.slice (some ⟨g, 0, none⟩) n cap))
      refine ⟨_, _, hr, hgr.1, hgr.2, ?_⟩
      refine ⟨hown.1, .inr ⟨g, cap, cur, rfl, hbg, ?_, hnc, hcm, hcs, htake⟩⟩
      rw [(grown cap (by omega) none).2.block g (Array.getElem?_eq_some_iff.1 hg).1 (by simp)]
      exact hg

theorem wpList_append_src {ops : Array Oper} {rest : List Oper} {o : Oper} {a : Act} {Q : Exit → Act → World → Prop} (hgd : o.guard = none) (s x : Operand) (t tx : TypeId)
    (ho : o.op = .call { callee := .builtin .append, args := #[s, x], argTypes := #[t, tx] })
    (base : Nat) (e : TypeId) (z : Value) (bytes : Nat) (ht : P.underlying t = some (.slice e)) (hinfo : (P.info? e).map (fun i => (i.zero, i.size, i.bytes)) = some (some z, 1, bytes)) (hzs : z.cells.size = 1)
    (v : Value) (n : Nat) (xs : List Value) (hs : a.eval s = v) (hown : w.ownsRow base e 1 v n xs) (xv : Value) (m : Nat) (news : List Value) (hx : a.eval x = xv) (hsrc : Src P 1 tx xv m news w)
    (hm0 : v = .slice none 0 0 → 0 < m) (h63 : n + m ≤ maxLen) (hbytes : (n + m) * bytes ≤ 140737488355328) (hbase : base ≤ w.heap.size)
    (h : ∀ v' w', w'.ownsRow base e 1 v' (n + m) (xs ++ news) → w.grownBy w' v.ownBlock → w'.ownsRow base e 1 v n xs → wpList P ops Q rest (a.put o.dst v') w') : wpList P ops Q (o :: rest) a w := by
  obtain ⟨i, hi, hz, hsize, hby⟩ := info_parts hinfo
  refine wpList_plain hgd fun K hK => ?_
  obtain ⟨v', w', hr, h2, h3, h4⟩ := run_append_src (P := P) w base t tx o.type e i z bytes ht hi hz hsize hby hzs v n xs hown xv m news hsrc hm0 h63 hbytes hbase
  unfold Oper.wp execOp
  simp only [ho, resolve, invoke, builtin, Sem.run_bind, Sem.run_pure, Result.andThen_ok, List.map_toArray, List.map_cons, List.map_nil, hs, hx, hr]
  exact hK _ _ (h v' w' h2 h3 h4)
end

/-- What an owned value looks like, and its cells, where something is owned. -/
theorem own_shape {w : World} {base : Nat} {e : TypeId} {v : Value} {n : Nat} {xs : List Value} (h : w.ownsRow base e 1 v n xs) (hn : 0 < n) :
    ∃ g cap, v = .slice (some ⟨g, 0, none⟩) n cap ∧ base ≤ g ∧ g < w.heap.size ∧ n ≤ cap ∧ cap ≤ maxLen ∧ ∀ j, j < n → ∀ u, xs[j]? = some u → w.cell? ⟨g, j, none⟩ = some u := by
  have hh := h
  rcases h.2 with ⟨_, h0⟩ | ⟨g, cap, cur, rfl, hb, hg, hnc, hcm, _, _⟩
  · omega
  · refine ⟨g, cap, rfl, hb, (Array.getElem?_eq_some_iff.1 hg).1, hnc, hcm, fun j _ u hu => ?_⟩
    have := hh.cells (g := g) rfl j u hu
    rwa [Addr.add_lit, Nat.zero_add] at this

/-- A shorter slice over the same row owns the front. -/
theorem own_front {w : World} {base : Nat} {e : TypeId} {g n cap m : Nat} {xs : List Value} (h : w.ownsRow base e 1 (.slice (some ⟨g, 0, none⟩) n cap) n xs) (hm : m ≤ n) :
    w.ownsRow base e 1 (.slice (some ⟨g, 0, none⟩) m cap) m (xs.take m) := by
  have hl := h.1
  rcases h.2 with ⟨hv, _⟩ | ⟨g', cap', cur, hv, hb, hg, hnc, hcm, hcs, ht⟩
  · simp at hv
  · simp only [Value.slice.injEq, Option.some.injEq, Addr.mk.injEq, true_and, and_true] at hv
    obtain ⟨rfl, rfl⟩ := hv
    refine ⟨by rw [List.length_take]; omega, .inr ⟨g, cap, cur, rfl, hb, hg, by omega, hcm, hcs, ?_⟩⟩
    rw [← ht, List.take_take]
    congr 1
    omega

/-- The front of a row that was there stays what it was while the whole is appended to. -/
theorem front_kept {w w' : World} {base : Nat} {e : TypeId} {g cap m : Nat} {v : Value} {n : Nat} {xs : List Value} (hf : w.ownsRow base e 1 (.slice (some ⟨g, 0, none⟩) m cap) m (xs.take m)) (hm : m ≤ n)
    (hg : w.grownBy w' v.ownBlock) (hown : w.ownsRow base e 1 v n xs) (hold : w'.ownsRow base e 1 v n xs) : w'.ownsRow base e 1 (.slice (some ⟨g, 0, none⟩) m cap) m (xs.take m) := by
  by_cases hb : v.ownBlock = some g
  · rcases hown.2 with ⟨rfl, _⟩ | ⟨g1, cap1, cur1, rfl, _, hg1, _, _, hcs1, _⟩
    · simp [Value.ownBlock] at hb
    · simp only [Value.ownBlock, Option.some.injEq] at hb
      subst hb
      have hcap : cap1 = cap := by
        rcases hf.2 with ⟨hv, _⟩ | ⟨g2, cap2, cur2, hv, _, hg2, _, _, hcs2, _⟩
        · simp at hv
        · simp only [Value.slice.injEq, Option.some.injEq, Addr.mk.injEq, true_and, and_true] at hv
          obtain ⟨rfl, rfl⟩ := hv
          rw [hg1] at hg2
          simp only [Option.some.injEq, Obj.cells.injEq, and_true] at hg2
          obtain rfl := hg2
          omega
      subst hcap
      exact own_front hold hm
  · exact hf.kept hg (.inr (by simp only [Value.ownBlock]; exact fun h => hb h.symm))

end Go.Proofs.Qxb6001689a

/-
  'append' onto a row that the call owns, from whatever source, WITH WHERE THE NEW VALUE LIES: in the old block or in a new one: so that two rows of one element type are told apart. Over any program.
-/
import Derived.Test.Qxb6001689aAppend
namespace Go.Proofs.Qxb6001689a
open Go.RowKit

/-- From w to w' the owned value v has become v', which owns xs; no other old block has turned; v' lies in v's block or in a new one. -/
structure Grew (base : Nat) (e : TypeId) (w w' : World) (v v' : Value) (xs : List Value) : Prop where
  own : w'.ownsRow base e 1 v' xs.length xs
  gr : w.grownBy w' v.ownBlock
  blk : v'.ownBlock = v.ownBlock ∨ ∃ g, v'.ownBlock = some g ∧ w.heap.size ≤ g

theorem Grew.refl {base : Nat} {e : TypeId} {w : World} {v : Value} {xs : List Value} (h : w.ownsRow base e 1 v xs.length xs) : Grew base e w w v v xs :=
  ⟨h, ⟨rfl, rfl, rfl, Nat.le_refl _, fun _ _ _ => rfl⟩, .inl rfl⟩

theorem Grew.trans {base : Nat} {e : TypeId} {w w1 w2 : World} {v v1 v2 : Value} {xs1 xs2 : List Value} (h1 : Grew base e w w1 v v1 xs1) (h2 : Grew base e w1 w2 v1 v2 xs2) : Grew base e w w2 v v2 xs2 := by
  refine ⟨h2.own, ⟨by rw [h2.gr.os, h1.gr.os], by rw [h2.gr.tape, h1.gr.tape], by rw [h2.gr.output, h1.gr.output], Nat.le_trans h1.gr.size h2.gr.size, fun k hk hne => ?_⟩, ?_⟩
  · have h1k := h1.gr.block k hk hne
    rw [← h1k]
    refine h2.gr.block k (Nat.lt_of_lt_of_le hk h1.gr.size) ?_
    rcases h1.blk with hb | ⟨g, hb, hg⟩
    · rw [hb]; exact hne
    · rw [hb]
      intro he
      simp only [Option.some.injEq] at he
      omega
  · rcases h2.blk with hb | ⟨g, hb, hg⟩
    · rw [hb]
      exact h1.blk
    · exact .inr ⟨g, hb, Nat.le_trans h1.gr.size hg⟩

/-- What was laid ahead, in new blocks, does not count. -/
theorem Grew.pre {base : Nat} {e : TypeId} {w0 w w' : World} {v v' : Value} {xs : List Value} (hp : w0.grownBy w none) (h : Grew base e w w' v v' xs) : Grew base e w0 w' v v' xs := by
  refine ⟨h.own, ⟨by rw [h.gr.os, hp.os], by rw [h.gr.tape, hp.tape], by rw [h.gr.output, hp.output], Nat.le_trans hp.size h.gr.size, fun k hk hne => ?_⟩, ?_⟩
  · rw [h.gr.block k (Nat.lt_of_lt_of_le hk hp.size) hne, hp.block k hk (by simp)]
  · rcases h.blk with hb | ⟨g, hb, hg⟩
    · exact .inl hb
    · exact .inr ⟨g, hb, Nat.le_trans hp.size hg⟩

theorem grown_refl (w : World) : w.grownBy w none := ⟨rfl, rfl, rfl, Nat.le_refl _, fun _ _ _ => rfl⟩
theorem grown_alloc {w w' : World} (h : w.grownBy w' none) (o : Obj) : w.grownBy (w'.alloc o) none :=
  ⟨h.os, h.tape, h.output, by have := h.size; simp; omega, fun k hk hne => by rw [heap_alloc_old w' o (Nat.lt_of_lt_of_le hk h.size)]; exact h.block k hk hne⟩
theorem grown_below {w w' : World} (h : Below w.heap.size w w') : w.grownBy w' none := ⟨h.os, h.tape, h.output, h.size, fun k hk _ => h.block k hk⟩
theorem below_grown {w w' : World} (h : w.grownBy w' none) : Below w.heap.size w w' := ⟨h.os, h.tape, h.output, h.size, fun k hk => h.block k hk (by simp)⟩

section
variable {P : Program} (w : World)

theorem run_grow (base : Nat) (t tx ty e : TypeId) (i : TypeInfo) (z : Value) (bytes : Nat) (ht : P.underlying t = some (.slice e)) (hi : P.info? e = some i) (hz : i.zero = some z)
    (hsize : i.size = 1) (hby : i.bytes = bytes) (hzs : z.cells.size = 1)
    (v : Value) (xs : List Value) (hown : w.ownsRow base e 1 v xs.length xs) (x : Value) (m : Nat) (news : List Value) (hs : Src P 1 tx x m news w) (hm0 : v = .slice none 0 0 → 0 < m)
    (h63 : xs.length + m ≤ maxLen) (hbytes : (xs.length + m) * bytes ≤ 140737488355328) (hbase : base ≤ w.heap.size) :
    ∃ v' w', (Builtin.append_ #[t, tx] ty #[v, x]).run P w = .ok v' w' ∧ Grew base e w w' v v' (xs ++ news) := by
  subst hby
  obtain ⟨n, hn⟩ : ∃ n, n = xs.length := ⟨_, rfl⟩
  have hsmall : n + m ≤ 9223372036854775807 := by simp only [maxLen] at h63; omega
  have hl := hs.newsLen
  have hlen : (xs ++ news).length = (n + m) * 1 := by rw [List.length_append, hl, ← hn, Nat.add_mul]; omega
  have hlen1 : (xs ++ news).length = n + m := by omega
  have grown : ∀ (old : Nat), old < n + m → ∀ (row : Option Nat),
      (w.drew.alloc (.cells ((xs ++ news).toArray ++ Builtin.zeroCells z.cells (grownCap w (n + m) old e - (n + m))) e)).ownsRow base e 1
        (.slice (some ⟨w.heap.size, 0, none⟩) (n + m) (grownCap w (n + m) old e)) (n + m) (xs ++ news) ∧
      w.grownBy (w.drew.alloc (.cells ((xs ++ news).toArray ++ Builtin.zeroCells z.cells (grownCap w (n + m) old e - (n + m))) e)) row := by
    intro old ho row
    have hge := grownCap_ge w (n + m) old e
    have hcm : grownCap w (n + m) old e ≤ maxLen := grownCap_le_maxLen w (n + m) old e (by omega)
    refine ⟨⟨hlen, .inr ⟨w.heap.size, _, _, rfl, hbase, heap_alloc_new w.drew _, hge, hcm, ?_, ?_⟩⟩, ⟨rfl, rfl, rfl, by simp, fun k hk _ => Below.heap_alloc w.drew _ k hk⟩⟩
    · simp only [Array.size_append, List.size_toArray, size_zeroCells, hzs, hlen, ← Nat.add_mul]
      congr 1
      omega
    · simp only [Array.toList_append]
      rw [← hlen]
      exact List.take_left
  rw [← hn] at hown h63 hbytes
  rcases hown.2 with ⟨rfl, h0⟩ | ⟨g, cap, cur, rfl, hbg, hg, hnc, hcm, hcs, htake⟩
  · have hx : xs = [] := List.eq_nil_of_length_eq_zero (by omega)
    subst hx
    subst h0
    have hm : 0 < m := hm0 rfl
    have hr := run_append_grow_src (P := P) w t tx ty e i z ht hi hz none 0 0 [] (by simpa [hsize] using run_firstCells_none (P := P) w.drew 1 0 0 0) x m news (by rw [hsize]; exact hs) (by omega) (by omega) (growslice_fits (by omega) hbytes)
    have hgr := grown 0 (by omega) (Value.ownBlock (.slice none 0 0))
    exact ⟨_, _, hr, by rw [hlen1]; exact hgr.1, hgr.2, .inr ⟨w.heap.size, rfl, Nat.le_refl _⟩⟩
  · have htk : cur.toList.take n = xs := by simpa using htake
    by_cases hroom : n + m ≤ cap
    · have hfit : n + news.length ≤ cur.size := by rw [hl, hcs]; omega
      have hr := run_room (P := P) w t tx ty e i ht hi hsize g n cap cur hg x m news hs hroom hfit
      have hsz : (cur.toList.take n ++ news ++ cur.toList.drop (n + news.length)).toArray.size = cap * 1 := by
        simp only [List.size_toArray, List.length_append, List.length_take, List.length_drop, Array.length_toList]
        omega
      refine ⟨_, _, hr, ?_, ⟨rfl, rfl, rfl, by simp, fun k _ hk => setRow_other w g k _ (fun e => hk (by simp [Value.ownBlock, e]))⟩, .inl rfl⟩
      rw [hlen1]
      refine ⟨hlen, .inr ⟨g, cap, _, rfl, hbg, setRow_heap w g cur _ e _ hg, hroom, hcm, hsz, ?_⟩⟩
      rw [htk, ← hlen]
      exact List.take_left
    · have holds : ∀ j u, xs[j]? = some u → w.cell? ((⟨g, 0, none⟩ : Addr).add j) = some u := hown.cells (g := g) rfl
      have hold : (Builtin.firstCells i.size n (.slice (some ⟨g, 0, none⟩) n cap)).run P w.drew = .ok xs.toArray w.drew := by
        rw [hsize]; exact run_firstCells_some (P := P) w.drew 1 n ⟨g, 0, none⟩ n cap xs hown.1 (by simpa using holds)
      have hr := run_append_grow_src (P := P) w t tx ty e i z ht hi hz (some ⟨g, 0, none⟩) n cap xs hold x m news (by rw [hsize]; exact hs) (by omega) (by omega) (growslice_fits (by omega) hbytes)
      have hgr := grown cap (by omega) (Value.ownBlock (.slice (some ⟨g, 0, none⟩) n cap))
      exact ⟨_, _, hr, by rw [hlen1]; exact hgr.1, hgr.2, .inr ⟨w.heap.size, rfl, Nat.le_refl _⟩⟩

theorem wpList_grow {ops : Array Oper} {rest : List Oper} {o : Oper} {a : Act} {Q : Exit → Act → World → Prop} (hgd : o.guard = none) (s x : Operand) (t tx : TypeId)
    (ho : o.op = .call { callee := .builtin .append, args := #[s, x], argTypes := #[t, tx] })
    (base : Nat) (e : TypeId) (z : Value) (bytes : Nat) (ht : P.underlying t = some (.slice e)) (hinfo : (P.info? e).map (fun i => (i.zero, i.size, i.bytes)) = some (some z, 1, bytes)) (hzs : z.cells.size = 1)
    (v : Value) (xs : List Value) (hs : a.eval s = v) (w0 : World) (hown0 : w0.ownsRow base e 1 v xs.length xs) (hw0 : w0.grownBy w none) (xv : Value) (m : Nat) (news : List Value) (hx : a.eval x = xv) (hsrc : Src P 1 tx xv m news w)
    (hm0 : 0 < m) (h63 : xs.length + m ≤ 35184372088832) (hbytes : bytes ≤ 4) (hbase : base ≤ w0.heap.size)
    (h : ∀ v' w', Hid (Grew base e w0 w' v v' (xs ++ news)) → wpList P ops Q rest (a.put o.dst v') w') : wpList P ops Q (o :: rest) a w := by
  obtain ⟨i, hi, hz, hsize, hby⟩ := info_parts hinfo
  refine wpList_plain hgd fun K hK => ?_
  have hown : w.ownsRow base e 1 v xs.length xs := hown0.kept hw0 (by cases hv : v.ownBlock <;> simp)
  have hb : (xs.length + m) * bytes ≤ 140737488355328 := Nat.le_trans (Nat.mul_le_mul h63 hbytes) (by decide)
  obtain ⟨v', w', hr, hg⟩ := run_grow (P := P) w base t tx o.type e i z bytes ht hi hz hsize hby hzs v xs hown xv m news hsrc (fun _ => hm0) (by unfold maxLen; omega) hb (Nat.le_trans hbase hw0.size)
  unfold Oper.wp execOp
  simp only [ho, resolve, invoke, builtin, Sem.run_bind, Sem.run_pure, Result.andThen_ok, List.map_toArray, List.map_cons, List.map_nil, hs, hx, hr]
  exact hK _ _ (h v' w' (hg.pre hw0))
end

/-- Two values that do not share a block. -/
def Apart (v u : Value) : Prop := ∀ g, v.ownBlock = some g → u.ownBlock ≠ some g

/-- The other owned row: it stands, and the two are apart still. -/
theorem Grew.other {base base2 : Nat} {e e2 : TypeId} {w w' : World} {v v' u : Value} {xs ys : List Value} {n : Nat} (h : Grew base e w w' v v' xs) (hu : w.ownsRow base2 e2 1 u n ys) (ha : Apart v u) : w'.ownsRow base2 e2 1 u n ys ∧ Apart v' u := by
  refine ⟨hu.kept h.gr ?_, ?_⟩
  · cases hub : u.ownBlock with
    | none => exact .inl rfl
    | some g =>
      right
      intro hv
      exact ha g hv.symm hub
  · intro g hg hub
    rcases h.blk with hb | ⟨g', hb, hge⟩
    · exact ha g (by rw [← hb]; exact hg) hub
    · rw [hg] at hb
      simp only [Option.some.injEq] at hb
      have := (hu.lt g hub).2
      omega
theorem Apart.symm {v u : Value} (h : Apart v u) : Apart u v := fun g hu hv => h g hv hu

/-- The bytes of a list. -/
def bytesV (L : List Nat) : List Value := L.map fun c => .int .u8 (c : Nat)
theorem bytesV_append (a b : List Nat) : bytesV (a ++ b) = bytesV a ++ bytesV b := by simp [bytesV]
theorem bytesV_length (a : List Nat) : (bytesV a).length = a.length := by simp [bytesV]
theorem bytesV_one (a : List Nat) : ∀ u ∈ bytesV a, u.oneCell' = true := fun u hu => by
  simp only [bytesV, List.mem_map] at hu
  obtain ⟨c, _, rfl⟩ := hu
  rfl
end Go.Proofs.Qxb6001689a

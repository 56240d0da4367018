/-
  The plain law of FnSkipValueSkipsBuiltValue behind the walk, and the sources of its two appends.
-/
import Derived.Test.Qxb6001689aRels
import Derived.Test.Qxb6001689aSkipMore
import Derived.Test.Qxb6001689aBytes
namespace Go.Proofs.Qxb6001689a
open Go.RowKit

section
variable {P : Program} (w : World)
/-- 'wpList_grow', of a slice that may be empty onto one that is not nil. -/
theorem wpList_grow0 {ops : Array Oper} {rest : List Oper} {o : Oper} {a : Act} {Q : Exit → Act → World → Prop} (hgd : o.guard = none) (s x : Operand) (t tx : TypeId)
    (ho : o.op = .call { callee := .builtin .append, args := #[s, x], argTypes := #[t, tx] })
    (base : Nat) (e : TypeId) (z : Value) (bytes : Nat) (ht : P.underlying t = some (.slice e)) (hinfo : (P.info? e).map (fun i => (i.zero, i.size, i.bytes)) = some (some z, 1, bytes)) (hzs : z.cells.size = 1)
    (v : Value) (xs : List Value) (hs : a.eval s = v) (w0 : World) (hown0 : w0.ownsRow base e 1 v xs.length xs) (hw0 : w0.grownBy w none) (xv : Value) (m : Nat) (news : List Value) (hx : a.eval x = xv) (hsrc : Src P 1 tx xv m news w)
    (hm0 : v = .slice none 0 0 → 0 < m) (h63 : xs.length + m ≤ 35184372088832) (hbytes : bytes ≤ 4) (hbase : base ≤ w0.heap.size)
    (h : ∀ v' w', Hid (Grew base e w0 w' v v' (xs ++ news)) → wpList P ops Q rest (a.put o.dst v') w') : wpList P ops Q (o :: rest) a w := by
  obtain ⟨i, hi, hz, hsize, hby⟩ := info_parts hinfo
  refine wpList_plain hgd fun K hK => ?_
  have hown : w.ownsRow base e 1 v xs.length xs := hown0.kept hw0 (by cases hv : v.ownBlock <;> simp)
  have hb : (xs.length + m) * bytes ≤ 140737488355328 := Nat.le_trans (Nat.mul_le_mul h63 hbytes) (by decide)
  obtain ⟨v', w', hr, hg⟩ := run_grow (P := P) w base t tx o.type e i z bytes ht hi hz hsize hby hzs v xs hown xv m news hsrc hm0 (by unfold maxLen; omega) hb (Nat.le_trans hbase hw0.size)
  unfold Oper.wp execOp
  simp only [ho, resolve, invoke, builtin, Sem.run_bind, Sem.run_pure, Result.andThen_ok, List.map_toArray, List.map_cons, List.map_nil, hs, hx, hr]
  exact hK _ _ (h v' w' (hg.pre hw0))
end

/-- The cells of a slice of bytes as the source of an append. -/
theorem cells_src {w : World} {a : Option Addr} {n c g : Nat} {L : List Nat} (hn : L.length = n) (ha : 0 < n → a = some ⟨g, 0, none⟩) (hc : Cells w g 0 (bytesV L)) : Src Try.prog 1 22 (.slice a n c) n (bytesV L) w := by
  cases a with
  | none =>
    have h0 : n = 0 := by
      rcases Nat.eq_zero_or_pos n with h | h
      · exact h
      · cases ha h
    subst h0
    obtain rfl := List.eq_nil_of_length_eq_zero hn
    exact Src.ofNil w Try.underlying22 c
  | some x =>
    refine Src.ofSlice w Try.underlying22 x n c _ (by simp [bytesV_length, hn]) (fun j u hj => ?_) (bytesV_one L)
    have hj1 := (List.getElem?_eq_some_iff.1 hj).1
    rw [bytesV_length] at hj1
    have := ha (by omega)
    simp only [Option.some.injEq] at this
    subst this
    rw [Addr.add_lit]
    exact hc j u hj

/-- What is owned as the source of an append. -/
theorem own_src {w : World} {base g cap n : Nat} {L : List Nat} (hn : L.length = n) (h : w.ownsRow base 5 1 (.slice (some ⟨g, 0, none⟩) n cap) (bytesV L).length (bytesV L)) : Src Try.prog 1 22 (.slice (some ⟨g, 0, none⟩) n cap) n (bytesV L) w :=
  cells_src hn (fun _ => rfl) (fun i v hi => by
    have := h.cells (g := g) rfl i v hi
    rwa [Addr.add_lit] at this)

theorem at_cells {w : World} {g off : Nat} {L : List Nat} (h : Cells w g off (bytesV L)) : At w g off L := fun i hi => by
  refine h i _ ?_
  simp [bytesV, hi, List.getD]

theorem at_drop {w : World} {g p : Nat} {L R : List Nat} (h : At w g 0 L) (hd : L.drop p = R) : At w g p R := fun i hi => by
  subst hd
  rw [List.length_drop] at hi
  have := h (p + i) (by omega)
  rw [Nat.zero_add] at this
  rw [this]
  simp [List.getD]

theorem cells_later {w w' : World} {g off : Nat} {xs : List Value} (h : Cells w g off xs) (hb : Below w.heap.size w w') : Cells w' g off xs := fun i v hv => cell_later hb (h i v hv)

theorem cells_grew {base : Nat} {e : TypeId} {w w' : World} {v v' : Value} {xs ys zs : List Value} {n g off : Nat} (h : Grew base e w w' v v' xs) (ho : w.ownsRow base e 1 v n ys) (hc : Cells w g off zs) (hg : g < base) : Cells w' g off zs := fun i u hu => by
  have h1 := hc i u hu
  have hlt := World.block_lt_of_cell? _ _ h1
  have hb := h.gr.block g hlt (fun hv => by have := (ho.lt g hv.symm).1; omega)
  exact (World.cell?_of_block (w := w) hb).trans h1

/-- The plain law: the scan of a built value and what may follow it leaves what follows. -/
theorem skip_built {x R : List Nat} (h : Built x) (hR : ∀ c r, R = c :: r → stopB c = true) : sk 0 0 (x ++ R) = R := by
  refine h.whole R fun c r hcr => ?_
  have := hR c r hcr
  unfold stopB at this
  simp only [Bool.or_eq_true, beq_iff_eq] at this
  rcases this with (h | h) | h
  · exact .inr (.inr h)
  · exact .inr (.inl h)
  · exact .inl h

theorem getD_bytes {L : List Nat} (h : ∀ c ∈ L, c ≤ 255) (i : Nat) : L.getD i 0 ≤ 255 := by
  rw [List.getD_eq_getElem?_getD]
  cases hi : L[i]? with
  | none => simp
  | some c =>
    simp only [Option.getD_some]
    exact h c (List.mem_of_getElem? hi)

end Go.Proofs.Qxb6001689a

/-
  The relations of zzBuildValue's walk, and how each statement carries them on.
-/
import Derived.Test.Qxb6001689aState
namespace Go.Proofs.Qxb6001689a
open Go.RowKit

/-- One value, whole, of bytes. -/
structure Built (x : List Nat) : Prop where
  whole : Whole x
  pos : 0 < x.length
  len : x.length ≤ 100000000000
  byte : ∀ c ∈ x, c ≤ 255

/-- What holds ahead of round I. -/
structure Rel (w wr : World) (I : Nat) (o k f : Value) (st : Bool) (L K : List Nat) (F : List Bool) (ni si ks : Nat) : Prop where
  s : St w wr o k f L K F
  fl : F.length = K.length
  stat : Stat st K.length L
  len : L.length ≤ I * 20000000
  kl : K.length ≤ I
  byte : ∀ c ∈ L, c ≤ 255
  nil : ni ≤ I
  sil : si ≤ I
  ksl : ks ≤ I

/-- What holds in the midst of round I. -/
structure Mid (b : Nat) (w wr : World) (I : Nat) (o k f : Value) (L K : List Nat) (F : List Bool) (ni si ks : Nat) : Prop where
  s : St w wr o k f L K F
  fl : F.length = K.length
  goes : Goes L K.length
  len : L.length ≤ I * 20000000 + b
  kl : K.length ≤ I
  byte : ∀ c ∈ L, c ≤ 255
  nil : ni ≤ I
  sil : si ≤ I
  ksl : ks ≤ I + 1

/-- What holds behind the first loop. -/
structure Aft (w wr : World) (o k : Value) (st : Bool) (L K : List Nat) : Prop where
  s : ∃ f F, St w wr o k f L K F
  stat : Stat st K.length L
  len : L.length + K.length ≤ 4096 * 20000001
  byte : ∀ c ∈ L, c ≤ 255

theorem stat_pop {st : Bool} {d : Nat} {L : List Nat} {c : Nat} (h : Stat st (d + 1) L) (hc : c = 125 ∨ c = 93) : Stat st d (L ++ [c]) := by
  rcases h with ⟨_, h, _⟩ | ⟨rfl, _, h⟩ | ⟨_, h, _⟩
  · omega
  · exact stat_close h hc
  · omega

theorem src_true (w : World) : Src Try.prog 1 9 (.string { data := #[116, 114, 117, 101] }) 4 (bytesV [116, 114, 117, 101]) w := str_src w _
theorem src_false (w : World) : Src Try.prog 1 9 (.string { data := #[102, 97, 108, 115, 101] }) 5 (bytesV [102, 97, 108, 115, 101]) w := str_src w _
theorem src_null (w : World) : Src Try.prog 1 9 (.string { data := #[110, 117, 108, 108] }) 4 (bytesV [110, 117, 108, 108]) w := str_src w _
theorem plainL_true : Plain [116, 114, 117, 101] := by unfold Plain; decide
theorem plainL_false : Plain [102, 97, 108, 115, 101] := by unfold Plain; decide
theorem plainL_null : Plain [110, 117, 108, 108] := by unfold Plain; decide

section
variable {w wr w' : World} {b I : Nat} {o o' k k' f f' : Value} {st : Bool} {L K x : List Nat} {F : List Bool} {ni si ks ni' si' ks' : Nat}

theorem Rel.aft {n : Nat} (h : Rel w wr I o k f st L K F ni si ks) (hI : I ≤ n) (hn : n ≤ 4096) : Aft w wr o k st L K :=
  ⟨⟨f, F, h.s⟩, h.stat, by have := h.len; have := h.kl; omega, h.byte⟩

theorem Rel.next (h : Rel w wr I o k f st L K F ni si ks) : Rel w wr (I + 1) o k f st L K F ni si ks :=
  ⟨h.s, h.fl, h.stat, Nat.le_trans h.len (Nat.mul_le_mul_right _ (Nat.le_succ _)), by have := h.kl; omega, h.byte, by have := h.nil; omega, by have := h.sil; omega, by have := h.ksl; omega⟩

theorem Rel.pop {e c g gf ck cf : Nat} (h : Rel w wr I o (.slice (some ⟨g, 0, none⟩) (e + 1) ck) (.slice (some ⟨gf, 0, none⟩) (e + 1) cf) st L K F ni si ks) (hK : e + 1 = K.length) (hc : c = 125 ∨ c = 93)
    (hg : Grew w.heap.size 5 wr w' o o' (bytesV L ++ bytesV [c])) : Rel w w' (I + 1) o' (.slice (some ⟨g, 0, none⟩) e ck) (.slice (some ⟨gf, 0, none⟩) e cf) st (L ++ [c]) (K.take e) (F.take e) ni si ks := by
  rw [← bytesV_append] at hg
  have hs := ((h.s.addO hg).popk (m := e) (by omega)).popf (m := e) (by omega)
  have hst := h.stat
  have h1 := h.fl
  have hl : (K.take e).length = e := by rw [List.length_take]; omega
  rw [← hK] at hst
  refine ⟨hs, by rw [List.length_take, List.length_take]; omega, by rw [hl]; exact stat_pop hst hc, ?_, ?_, ?_, by have := h.nil; omega, by have := h.sil; omega, by have := h.ksl; omega⟩
  · have := h.len; simp; omega
  · have := h.kl; rw [hl]; omega
  · exact bytes_app h.byte (by intro y hy; simp at hy; omega)

theorem Rel.mid (h : Rel w wr I o k f st L K F ni si ks) (hs : st = true → 0 < K.length) : Mid 0 w wr I o k f L K F ni si ks :=
  ⟨h.s, h.fl, stat_goes h.stat hs, Nat.le_trans h.len (Nat.le_add_right _ _), h.kl, h.byte, h.nil, h.sil, Nat.le_succ_of_le h.ksl⟩

theorem Mid.mono {b' : Nat} (h : Mid b w wr I o k f L K F ni si ks) (hb : b ≤ b') : Mid b' w wr I o k f L K F ni si ks :=
  ⟨h.s, h.fl, h.goes, by have := h.len; omega, h.kl, h.byte, h.nil, h.sil, h.ksl⟩

theorem Mid.comma {e : Nat} (h : Mid b w wr I o k f L K F ni si ks) (hK : e + 1 = K.length) (hg : Grew w.heap.size 5 wr w' o o' (bytesV L ++ bytesV [44])) : Mid (b + 1) w w' I o' k f (L ++ [44]) K F ni si ks := by
  rw [← bytesV_append] at hg
  have hgo := h.goes
  rw [← hK] at hgo
  exact ⟨h.s.addO hg, h.fl, by rw [← hK]; exact goes_comma hgo, by have := h.len; simp; omega, h.kl, bytes_app h.byte (by simp), h.nil, h.sil, h.ksl⟩

theorem Mid.store {g n cap j : Nat} {q : Bool} (h : Mid b w wr I o k (.slice (some ⟨g, 0, none⟩) n cap) L K F ni si ks) : Mid b w (wr.setCell ⟨g, j, none⟩ (.bool q)) I o k (.slice (some ⟨g, 0, none⟩) n cap) L K (F.set j q) ni si ks :=
  ⟨h.s.store, by rw [List.length_set]; exact h.fl, h.goes, h.len, h.kl, h.byte, h.nil, h.sil, h.ksl⟩

theorem Mid.key {e : Nat} (h : Mid b w wr I o k f L K F ni si ks) (hK : e + 1 = K.length) (hx : Digits x 21) (hg : Grew w.heap.size 5 wr w' o o' (bytesV (((L ++ [34]) ++ x) ++ [34, 58]))) (hks : ks' ≤ I + 1) :
    Mid (b + 24) w w' I o' k f (((L ++ [34]) ++ x) ++ [34, 58]) K F ni si ks' := by
  have hgo := h.goes
  rw [← hK] at hgo
  refine ⟨?_, h.fl, by rw [← hK]; exact goes_key hgo hx.plain, by have := h.len; have := hx.len; simp; omega, h.kl, bytes_app (bytes_app (bytes_app h.byte (by simp)) hx.byte) (by simp), h.nil, h.sil, hks⟩
  rw [List.append_assoc, List.append_assoc] at hg ⊢
  exact h.s.addO hg

theorem Mid.plain (h : Mid 25 w wr I o k f L K F ni si ks) (hx : Plain x) (hp : 0 < x.length) (hl : x.length ≤ 19000000) (hb : ∀ c ∈ x, c ≤ 255) (hg : Grew w.heap.size 5 wr w' o o' (bytesV (L ++ x))) (h1 : ni' ≤ I + 1) (h2 : si' ≤ I + 1) :
    Rel w w' (I + 1) o' k f true (L ++ x) K F ni' si' ks :=
  ⟨h.s.addO hg, h.fl, stat_plain h.goes hx hp, by have := h.len; simp; omega, Nat.le_succ_of_le h.kl, bytes_app h.byte hb, h1, h2, h.ksl⟩

theorem Mid.str (h : Mid 25 w wr I o k f L K F ni si ks) (hx : Str x) (hp : 0 < x.length) (hl : x.length ≤ 19000000) (hb : ∀ c ∈ x, c ≤ 255) (hg : Grew w.heap.size 5 wr w' o o' (bytesV (L ++ x))) (h1 : ni' ≤ I + 1) (h2 : si' ≤ I + 1) :
    Rel w w' (I + 1) o' k f true (L ++ x) K F ni' si' ks :=
  ⟨h.s.addO hg, h.fl, stat_str h.goes hx hp, by have := h.len; simp; omega, Nat.le_succ_of_le h.kl, bytes_app h.byte hb, h1, h2, h.ksl⟩

theorem Mid.opened {c : Nat} (h : Mid 25 w wr I o k f L K F ni si ks) (hc : c = 123 ∨ c = 91) (s : St w w' o' k' f' (L ++ [c]) (K ++ [c]) (F ++ [true])) : Rel w w' (I + 1) o' k' f' true (L ++ [c]) (K ++ [c]) (F ++ [true]) ni si ks := by
  refine ⟨s, by simp [h.fl], ?_, by have := h.len; simp; omega, by have := h.kl; simp; omega, bytes_app h.byte (by intro y hy; simp at hy; omega), Nat.le_succ_of_le h.nil, Nat.le_succ_of_le h.sil, h.ksl⟩
  rw [List.length_append]
  exact stat_open h.goes hc

theorem Aft.pop {e c g ck : Nat} (h : Aft w wr o (.slice (some ⟨g, 0, none⟩) (e + 1) ck) st L K) (hK : e + 1 = K.length) (hc : c = 125 ∨ c = 93)
    (hg : Grew w.heap.size 5 wr w' o o' (bytesV L ++ bytesV [c])) : Aft w w' o' (.slice (some ⟨g, 0, none⟩) e ck) st (L ++ [c]) (K.take e) := by
  rw [← bytesV_append] at hg
  obtain ⟨fv, Fv, hs⟩ := h.s
  have hst := h.stat
  have hl : (K.take e).length = e := by rw [List.length_take]; omega
  rw [← hK] at hst
  exact ⟨⟨fv, Fv, (hs.addO hg).popk (m := e) (by omega)⟩, by rw [hl]; exact stat_pop hst hc, by have := h.len; rw [hl]; simp; omega, bytes_app h.byte (by intro y hy; simp at hy; omega)⟩

theorem Aft.built (h : Aft w wr o k true L K) (hK : K.length = 0) : Built L := by
  have hw : Whole L ∧ 0 < L.length := by
    rcases h.stat with ⟨h, _⟩ | ⟨_, h, _⟩ | ⟨_, _, h⟩
    · cases h
    · omega
    · exact h
  exact ⟨hw.1, hw.2, by have := h.len; omega, h.byte⟩

theorem St.klen {g n cap : Nat} {out fresh : Value} (h : St w wr out (.slice (some ⟨g, 0, none⟩) n cap) fresh L K F) : K.length = n := by
  rcases h.o2.2 with ⟨hv, _⟩ | ⟨g', cap', cur, hv, _⟩
  · simp at hv
  · simp only [Value.slice.injEq] at hv
    rw [bytesV_length] at hv
    exact hv.2.1.symm
theorem St.flen {g n cap : Nat} {out kinds : Value} (h : St w wr out kinds (.slice (some ⟨g, 0, none⟩) n cap) L K F) : F.length = n := by
  rcases h.o3.2 with ⟨hv, _⟩ | ⟨g', cap', cur, hv, _⟩
  · simp at hv
  · simp only [Value.slice.injEq] at hv
    rw [boolsV_length] at hv
    exact hv.2.1.symm
theorem St.kat {g n cap j : Nat} {out fresh : Value} (h : St w wr out (.slice (some ⟨g, 0, none⟩) n cap) fresh L K F) (hj : j < n) : ∃ c : Nat, wr.cell? ⟨g, j, none⟩ = some (.int .u8 (c : Nat)) := by
  have hn := h.klen
  have := h.o2.cells (g := g) rfl j (.int .u8 (K[j] : Nat)) (by simp [bytesV, hn, hj])
  rw [Addr.add_lit, Nat.zero_add] at this
  exact ⟨_, this⟩
theorem St.fat {g n cap j : Nat} {out kinds : Value} (h : St w wr out kinds (.slice (some ⟨g, 0, none⟩) n cap) L K F) (hj : j < n) : ∃ q : Bool, wr.cell? ⟨g, j, none⟩ = some (.bool q) := by
  have hn := h.flen
  have := h.o3.cells (g := g) rfl j (.bool F[j]) (by simp [boolsV, hn, hj])
  rw [Addr.add_lit, Nat.zero_add] at this
  exact ⟨_, this⟩
theorem St.ffz {g n cap j : Nat} {out kinds : Value} (h : St w wr out kinds (.slice (some ⟨g, 0, none⟩) n cap) L K F) : wr.frozen? ⟨g, j, none⟩ = false := by
  have h3 := h.o3
  rw [boolsV_length, h.flen] at h3
  exact h3.frozenAt j
/-- The two rows' values, written out. -/
theorem St.kform {out kinds fresh : Value} (h : St w wr out kinds fresh L K F) : ∃ a cap, kinds = .slice a K.length cap ∧ K.length ≤ cap ∧ cap ≤ maxLen ∧ (0 < K.length → ∃ g, a = some ⟨g, 0, none⟩) := by
  obtain ⟨a, cap, h1, h2, h3, h4⟩ := own_form h.o2
  rw [bytesV_length] at h1 h2 h4
  exact ⟨a, cap, h1, h2, h3, fun h0 => by obtain ⟨g, hg, _⟩ := h4 h0; exact ⟨g, hg⟩⟩
theorem St.fform {out kinds fresh : Value} (h : St w wr out kinds fresh L K F) : ∃ a cap, fresh = .slice a F.length cap ∧ F.length ≤ cap ∧ cap ≤ maxLen ∧ (0 < F.length → ∃ g, a = some ⟨g, 0, none⟩) := by
  obtain ⟨a, cap, h1, h2, h3, h4⟩ := own_form h.o3
  rw [boolsV_length] at h1 h2 h4
  exact ⟨a, cap, h1, h2, h3, fun h0 => by obtain ⟨g, hg, _⟩ := h4 h0; exact ⟨g, hg⟩⟩
end

end Go.Proofs.Qxb6001689a

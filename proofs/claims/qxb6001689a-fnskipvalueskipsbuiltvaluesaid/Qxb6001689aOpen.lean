/-
  Slices of bytes, of int64 and of strings among the arguments, opened as 'Bys', 'Nums', 'Stri'.
-/
import Derived.Test.Qxb6001689aLaw
import Derived.ProofKit
import Derived.OpenShut
import Derived.SliceStrings
namespace Go.Proofs.Qxb6001689a
open Go.ChangeShapes Go.WideShapes Go.ChangeAt Go.RowKit

theorem plain_addr {W : World} {x : Addr} {u : Value} (h : W.cell? (x.add 0) = some u) : x = ⟨x.block, x.off, none⟩ := by
  have hs := World.cell?_spot h
  obtain ⟨b, off, s⟩ := x
  simp [Addr.add] at hs
  subst hs
  rfl
theorem cells_at {W : World} {x : Addr} {n : Nat} {f : Nat → Value} {xs : List Value} (hn : xs.length = n) (h : ∀ i, i < n → W.cell? (x.add i) = some (f i)) (hx : ∀ i (hi : i < xs.length), xs[i] = f i) : Cells W x.block x.off xs := by
  intro i v hv
  obtain ⟨hi, hv⟩ := List.getElem?_eq_some_iff.1 hv
  have h0 := plain_addr (h 0 (by omega))
  have hci := h i (by omega)
  rw [h0, add_plain] at hci
  rw [← hv, hx i hi]
  exact hci

theorem bys_arg {H : Type} {enc : TypeId × Value → H} {W : World} {a : Option Addr} {len cap : Nat} {d : DataW H} {p : List MemPlace}
    (h : DataW.Trod enc Try.prog W 0 (fun _ => true) true 22 (.slice a len cap) d p) : ∃ b o L, Bys W a len cap b o L ∧ len ≤ 9223372036854775807 := by
  obtain ⟨fuel, hf⟩ := h
  rcases open_ints Try.underlying22 Try.underlying5 (by kernel_rfl) hf with ⟨hcs, _⟩ | ⟨x, l, c, zs, hcs, _, hl, hm, hz, _, hcell, hwz⟩
  · simp [Value.cells] at hcs
    obtain ⟨rfl, rfl, rfl⟩ := hcs
    exact ⟨0, 0, [], ⟨rfl, fun _ => ⟨rfl, rfl⟩, fun h => by omega, (fun i v h => by simp [bytesV] at h), fun x h => by cases h⟩, by omega⟩
  · simp [Value.cells] at hcs
    obtain ⟨rfl, rfl, rfl⟩ := hcs
    simp only [if_true] at hz
    unfold maxLen at hm
    have hr : ∀ i (hi : i < zs.length), 0 ≤ zs[i] ∧ zs[i] ≤ 255 := fun i hi => bounds_u8 (hwz _ (List.getElem_mem hi))
    have hll : ((zs.take len).map Int.toNat).length = len := by rw [List.length_map, List.length_take]; omega
    refine ⟨x.block, x.off, (zs.take len).map Int.toNat, ⟨hll, (fun h => by cases h), fun h0 => by rw [← plain_addr (hcell 0 (by omega))], ?_, ?_⟩, by omega⟩
    · refine cells_at (n := len) (f := fun i => .int .u8 (zs.getD i 0)) (by rw [bytesV_length]; exact hll) (fun i hi => hcell i (by omega)) (fun i hi => ?_)
      rw [bytesV_length, hll] at hi
      have hb := hr i (by omega)
      simp [bytesV, List.getD, show i < zs.length by omega]
      omega
    · intro y hy
      simp only [List.mem_map] at hy
      obtain ⟨z, hzm, rfl⟩ := hy
      have := bounds_u8 (hwz z (List.mem_of_mem_take hzm))
      omega

theorem nums_arg {H : Type} {enc : TypeId × Value → H} {W : World} {a : Option Addr} {len cap : Nat} {d : DataW H} {p : List MemPlace}
    (h : DataW.Trod enc Try.prog W 0 (fun _ => true) true 26 (.slice a len cap) d p) : ∃ b o Z, Nums W a len cap b o Z ∧ len ≤ 9223372036854775807 := by
  obtain ⟨fuel, hf⟩ := h
  rcases open_ints Try.underlying26 Try.underlying2 (by kernel_rfl) hf with ⟨hcs, _⟩ | ⟨x, l, c, zs, hcs, _, hl, hm, hz, _, hcell, hwz⟩
  · simp [Value.cells] at hcs
    obtain ⟨rfl, rfl, rfl⟩ := hcs
    exact ⟨0, 0, [], ⟨rfl, fun _ => ⟨rfl, rfl⟩, fun h => by omega, (fun i v h => by simp [intsV] at h), fun x h => by cases h⟩, by omega⟩
  · simp [Value.cells] at hcs
    obtain ⟨rfl, rfl, rfl⟩ := hcs
    simp only [if_true] at hz
    unfold maxLen at hm
    have hll : (zs.take len).length = len := by rw [List.length_take]; omega
    refine ⟨x.block, x.off, zs.take len, ⟨hll, (fun h => by cases h), fun h0 => by rw [← plain_addr (hcell 0 (by omega))], ?_, fun z hzm => bounds_i64 (hwz z (List.mem_of_mem_take hzm))⟩, by omega⟩
    refine cells_at (n := len) (f := fun i => .int .i64 (zs.getD i 0)) (by rw [intsV, List.length_map]; exact hll) (fun i hi => hcell i (by omega)) (fun i hi => ?_)
    rw [intsV, List.length_map, hll] at hi
    simp [intsV, List.getD, show i < zs.length by omega]

theorem stri_arg {H : Type} {enc : TypeId × Value → H} {W : World} {a : Option Addr} {len cap : Nat} {d : DataW H} {p : List MemPlace}
    (h : DataW.Trod enc Try.prog W 0 (fun _ => true) true 27 (.slice a len cap) d p) : ∃ b o S, Stri W a len cap b o S ∧ len ≤ 9223372036854775807 := by
  obtain ⟨fuel, hf⟩ := h
  rcases open_strings Try.underlying27 Try.underlying9 (by kernel_rfl) hf with ⟨hcs, _⟩ | ⟨x, l, c, ss, hcs, _, hl, hm, hz, _, hcell, hws⟩
  · simp [Value.cells] at hcs
    obtain ⟨rfl, rfl, rfl⟩ := hcs
    exact ⟨0, 0, [], ⟨rfl, fun _ => ⟨rfl, rfl⟩, fun h => by omega, (fun i v h => by simp [strsV] at h), fun x h => by cases h⟩, by omega⟩
  · simp [Value.cells] at hcs
    obtain ⟨rfl, rfl, rfl⟩ := hcs
    simp only [if_true] at hz
    unfold maxLen at hm hws
    have hll : (ss.take len).length = len := by rw [List.length_take]; omega
    refine ⟨x.block, x.off, ss.take len, ⟨hll, (fun h => by cases h), fun h0 => by rw [← plain_addr (hcell 0 (by omega))], ?_, fun z hzm => hws z (List.mem_of_mem_take hzm)⟩, by omega⟩
    refine cells_at (n := len) (f := fun i => .string (ss.getD i ByteArray.empty)) (by rw [strsV, List.length_map]; exact hll) (fun i hi => hcell i (by omega)) (fun i hi => ?_)
    rw [strsV, List.length_map, hll] at hi
    simp [strsV, List.getD, show i < ss.length by omega]

end Go.Proofs.Qxb6001689a

/- Texts that were built one by one and are laid together here (a claim has at most 60 files): frames, steps, plain laws, and functions by their contracts; no statement of the program is proved here. -/
import Derived.ProofKit
import Derived.Test.YtkemlhhpakjojaaDoorZ5
/- What the laws on bytes that are read have in common: the errors as they are laid, slices of bytes as they are read. -/
set_option linter.unusedVariables false
set_option linter.unusedSimpArgs false
namespace Go.Proofs.YtkemlhhpakjojaaDoor
open Go Go.RowKit

/-- the two errors that a reader may hand back, as they are laid -/
def Er (w : World) : Prop := ∃ e1 e2, Sen w.heap.size w 1 80 e1 ∧ Sen w.heap.size w 2 80 e2
theorem Blk.rd8 {w : World} {b m : Nat} {t : TypeId} {xs : List Nat} {tail : List Value} (hB : Blk w b t (xs.map v8 ++ tail)) (hm : m ≤ xs.length) (hl : m ≤ 1000000) : Rd8 w (some ⟨b, 0, none⟩) m (xs.take m) := by
  refine ⟨by rw [List.length_take]; omega, by omega, fun _ => ⟨_, rfl, hB.lt, fun j hj => ?_⟩⟩
  rw [add_pt, Nat.zero_add]
  refine hB.cell ?_
  rw [List.getElem?_append_left (by rw [List.length_map]; omega), List.getElem?_map, getD_take hj, List.getD_eq_getElem?_getD, List.getElem?_eq_getElem (by omega)]
  rfl
theorem Ow.rd8 {w : World} {base : Nat} {e : TypeId} {v : Value} {xs : List Nat} (h : Ow w base e v (xs.map v8)) : ∃ A c, v = .slice A xs.length c ∧ Rd8 w A xs.length xs ∧ (A = none → c = 0) := by
  rcases h with ⟨rfl, h2⟩ | ⟨b, c, tail, rfl, _, hB, hc, hm⟩
  · have : xs = [] := by simpa using h2
    subst this
    exact ⟨none, 0, rfl, ⟨rfl, by simp, fun h => absurd h (by simp)⟩, fun _ => rfl⟩
  · refine ⟨some ⟨b, 0, none⟩, c, by simp [vS], ⟨rfl, ?_, fun h0 => ⟨_, rfl, hB.lt, fun j hj => ?_⟩⟩, fun h => by cases h⟩
    · simp only [List.length_map] at hc; unfold maxLen at hm; omega
    · rw [add_pt, Nat.zero_add]
      refine hB.cell ?_
      rw [List.getElem?_append_left (by simpa using hj), List.getElem?_map, List.getElem?_eq_getElem hj]
      simp [List.getD_eq_getElem?_getD, hj]
theorem rd8_nil (W : World) : Rd8 W none 0 [] := ⟨rfl, by omega, fun h => by omega⟩
theorem wf_u8 {z : Int} (h : (Lit.int .u8 z).wf = true) : 0 ≤ z ∧ z < 256 := by
  simp [Lit.wf, IntKind.min, IntKind.max, IntKind.signed, IntKind.bits] at h
  omega
theorem rd8_some {w : World} {x : Addr} {len cap : Nat} {zs : List Int} (h1 : len ≤ cap) (h2 : cap ≤ maxLen) (h3 : len ≤ zs.length) (h4 : ∀ i, i < zs.length → w.cell? (x.add i) = some (.int .u8 (zs.getD i 0))) (h5 : ∀ n ∈ zs, (Lit.int .u8 n).wf = true) :
    Rd8 w (some x) len ((zs.take len).map Int.toNat) := by
  refine ⟨by simp; omega, by unfold maxLen at h2; omega, fun h0 => ⟨x, rfl, ?_, fun j hj => ?_⟩⟩
  · have h := World.block_lt_of_cell? w _ (h4 0 (by omega))
    simpa [Addr.add] using h
  · rw [h4 j (by omega)]
    have hw := wf_u8 (h5 (zs[j]'(by omega)) (List.getElem_mem _))
    have e1 : zs.getD j 0 = (zs[j]'(by omega)) := by simp [List.getD_eq_getElem?_getD, show j < zs.length by omega]
    have e2 : ((zs.take len).map Int.toNat).getD j 0 = (zs[j]'(by omega)).toNat := by simp [List.getD_eq_getElem?_getD, hj, show j < zs.length by omega]
    rw [e1, e2]
    have e3 : (((zs[j]'(by omega)).toNat : Nat) : Int) = zs[j]'(by omega) := Int.toNat_of_nonneg hw.1
    exact congrArg (fun z => some (Value.int .u8 z)) e3.symm

end Go.Proofs.YtkemlhhpakjojaaDoor

/- A slice of unsigned numbers that came in, as numbers; no statement of the program is proved here. -/
set_option linter.unusedVariables false
set_option linter.unusedSimpArgs false
namespace Go.Proofs.YtkemlhhpakjojaaDoor
open Go Go.RowKit
theorem wf_u64 {z : Int} (h : (Lit.int .u64 z).wf = true) : 0 ≤ z ∧ z < 18446744073709551616 := by
  simp [Lit.wf, IntKind.min, IntKind.max, IntKind.signed, IntKind.bits] at h
  omega
theorem rd_nil (w : World) : Rd w none 0 [] := ⟨rfl, by omega, fun h => absurd h (by omega)⟩
theorem rd_some {w : World} {x : Addr} {len cap : Nat} {zs : List Int} (h1 : len ≤ cap) (h2 : cap ≤ maxLen) (h3 : len ≤ zs.length) (h4 : ∀ i, i < zs.length → w.cell? (x.add i) = some (.int .u64 (zs.getD i 0))) (h5 : ∀ n ∈ zs, (Lit.int .u64 n).wf = true) :
    Rd w (some x) len ((zs.take len).map Int.toNat) := by
  refine ⟨by simp; omega, by unfold maxLen at h2; omega, fun h0 => ⟨x, rfl, ?_, fun j hj => ?_⟩⟩
  · have h := World.block_lt_of_cell? w _ (h4 0 (by omega))
    simpa [Addr.add] using h
  · rw [h4 j (by omega)]
    have hw := wf_u64 (h5 (zs[j]'(by omega)) (List.getElem_mem _))
    have e1 : zs.getD j 0 = (zs[j]'(by omega)) := by simp [List.getD_eq_getElem?_getD, show j < zs.length by omega]
    have e2 : ((zs.take len).map Int.toNat).getD j 0 = (zs[j]'(by omega)).toNat := by simp [List.getD_eq_getElem?_getD, hj, show j < zs.length by omega]
    rw [e1, e2]
    have e3 : (((zs[j]'(by omega)).toNat : Nat) : Int) = zs[j]'(by omega) := Int.toNat_of_nonneg hw.1
    exact congrArg (fun z => some (Value.int .u64 z)) e3.symm
end Go.Proofs.YtkemlhhpakjojaaDoor

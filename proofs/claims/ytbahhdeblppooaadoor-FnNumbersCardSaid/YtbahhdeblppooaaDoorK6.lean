/- A slice of unsigned numbers that came in, as numbers; no statement of the program is proved here. -/
import Derived.Test.YtbahhdeblppooaaDoorK5
import Derived.ProofKit
set_option linter.unusedVariables false
set_option linter.unusedSimpArgs false
namespace Go.Proofs.YtbahhdeblppooaaDoor
open Go Go.RowKit
theorem wf_u64 {z : Int} (h : (Lit.int .u64 z).wf = true) : 0 ≤ z ∧ z < 18446744073709551616 := by
  simp [Lit.wf, IntKind.min, IntKind.max, IntKind.signed, IntKind.bits] at h
  omega
theorem rd_nil (w : World) : Rd w none 0 [] := ⟨rfl, by omega, fun h => absurd h (by omega)⟩
theorem rd_some {w : World} {x : Addr} {len cap : Nat} {zs : List Int} (h1 : len ≤ cap) (h2 : cap ≤ maxLen) (h3 : len ≤ zs.length) (h4 : ∀ i, i < zs.length → w.cell? (x.add i) = some (.int .u64 (zs.getD i 0))) (h5 : ∀ n ∈ zs, (Lit.int .u64 n).wf = true) :
    Rd w (some x) len ((zs.take len).map Int.toNat) := by
  refine ⟨by simp; omega, by unfold maxLen at h2; omega, fun h0 => ⟨x, rfl, ?_, fun j hj => ?_⟩⟩
  · have h := World.block_lt_of_cell? w _ (h4 0 (by omega))
    simpa [Addr.add] using h
  · rw [h4 j (by omega)]
    have hw := wf_u64 (h5 (zs[j]'(by omega)) (List.getElem_mem _))
    have e1 : zs.getD j 0 = (zs[j]'(by omega)) := by simp [List.getD_eq_getElem?_getD, show j < zs.length by omega]
    have e2 : ((zs.take len).map Int.toNat).getD j 0 = (zs[j]'(by omega)).toNat := by simp [List.getD_eq_getElem?_getD, hj, show j < zs.length by omega]
    rw [e1, e2]
    have e3 : (((zs[j]'(by omega)).toNat : Nat) : Int) = zs[j]'(by omega) := Int.toNat_of_nonneg hw.1
    exact congrArg (fun z => some (Value.int .u64 z)) e3.symm
end Go.Proofs.YtbahhdeblppooaaDoor

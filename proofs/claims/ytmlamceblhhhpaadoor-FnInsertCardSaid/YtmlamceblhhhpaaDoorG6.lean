/- Parts of a list of truths as slices, and what appending them makes. -/
import Derived.Test.YtmlamceblhhhpaaDoorN2
import Derived.Test.YtmlamceblhhhpaaDoorK11
import Derived.Test.YtmlamceblhhhpaaDoorL14
set_option linter.unusedVariables false
set_option linter.unusedSimpArgs false
set_option maxRecDepth 100000
namespace Go.Proofs.YtmlamceblhhhpaaDoor
open Go Go.RowKit

theorem RdB.head {w : World} {A : Option Addr} {n m : Nat} {s : List Bool} (h : RdB w A n s) (hm : m ≤ n) : RdB w A m (s.take m) := by
  have hl := h.1
  refine ⟨by simp; omega, by have := h.2.1; omega, fun h0 => ?_⟩
  obtain ⟨ad, e, hb, hc⟩ := h.2.2 (by omega)
  refine ⟨ad, e, hb, fun j hj => ?_⟩
  rw [hc j (by omega)]
  simp only [List.getD_eq_getElem?_getD, List.getElem?_take_of_lt hj]
/-- the elements of s[l:], where it lies -/
theorem Bl.tailNews {w : World} {b l : Nat} {s : List Bool} (h : Bl w b s) (hl : l ≤ s.length) : ∀ j u', ((s.drop l).map vB)[j]? = some u' → w.cell? ((if s.length = l then (⟨b, 0, none⟩ : Addr) else ⟨b, 0 + l, none⟩).add j) = some u' := by
  intro j u hj
  rw [List.getElem?_map, List.getElem?_drop] at hj
  cases hs : s[l + j]? with
  | none => rw [hs] at hj; cases hj
  | some x =>
    rw [hs] at hj
    obtain ⟨hlt, hx⟩ := List.getElem?_eq_some_iff.1 hs
    rw [if_neg (by omega), add_pt, Nat.zero_add]
    refine Blk.cell h ?_
    rw [List.getElem?_map, hs]
    exact hj
theorem insB_map (s : List Bool) (i : Nat) : (s.take i).map vB ++ [vB false] ++ (s.drop i).map vB = (insB s i).map vB := by simp [insB]
theorem delB_map (s : List Bool) (i : Nat) : (s.take i).map vB ++ (s.drop (i + 1)).map vB = (delB s i).map vB := by simp [delB]

end Go.Proofs.YtmlamceblhhhpaaDoor

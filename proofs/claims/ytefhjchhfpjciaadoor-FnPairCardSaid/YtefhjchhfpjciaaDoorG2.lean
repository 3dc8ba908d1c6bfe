/- Shrink, ClearAll, SetAll, Compact, each by its contract. -/
import Derived.Test.YtefhjchhfpjciaaDoorB2
import Derived.Test.YtefhjchhfpjciaaDoorL14
set_option linter.unusedVariables false
set_option linter.unusedSimpArgs false
set_option maxRecDepth 100000
namespace Go.Proofs.YtefhjchhfpjciaaDoor
open Go Go.RowKit

theorem BW.len {w : World} {p q L L' : Nat} {ws tl : List Nat} (h : BW w p q L ws tl) (e : L = L') : BW w p q L' ws tl := e ▸ h
theorem over_all {xs ys : List Value} (h : ys.length = xs.length) : over xs 0 ys = ys := by
  unfold over
  rw [List.take_zero, List.nil_append, List.drop_eq_nil_of_le (by omega), List.append_nil]
theorem take_getD (s : List Bool) (n k : Nat) : (s.take n).getD k false = (decide (k < n) && s.getD k false) := by
  simp only [List.getD_eq_getElem?_getD]
  by_cases h : k < n
  · rw [List.getElem?_take_of_lt h]; simp [h]
  · rw [List.getElem?_eq_none (by simp; omega)]; simp [h]
theorem wbit_take (ws : List Nat) (n k : Nat) : wbit (ws.take n) k = (decide (k < 64 * n) && wbit ws k) := by
  unfold wbit
  simp only [List.getD_eq_getElem?_getD]
  by_cases h : k / 64 < n
  · have h2 : k < 64 * n := by omega
    rw [List.getElem?_take_of_lt h]; simp [h2]
  · have h2 : ¬ k < 64 * n := by omega
    rw [List.getElem?_eq_none (by simp; omega)]; simp [h2]





















































































































































































end Go.Proofs.YtefhjchhfpjciaaDoor

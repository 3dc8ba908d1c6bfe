/- A list of bytes that the call appends to, in a row of its own. -/
import Derived.Test.YtlhbbndedbacpaaO0
import Derived.Test.YtlhbbndedbacpaaA4
set_option linter.unusedVariables false
set_option linter.unusedSimpArgs false
namespace Go.Proofs.Ytlhbbndedbacpaa
open Go Go.RowKit

theorem snoc_len8 {P : List Nat} {x : Nat} : (P.map v8).length + 1 = (P ++ [x]).length := by simp
theorem snoc_map8 {P : List Nat} {x : Nat} : P.map v8 ++ [v8 x] = (P ++ [x]).map v8 := by simp
/-- a list of numbers that the call appends to, in a row of its own -/
structure One8 (w0 w : World) (b6 pb pc : Nat) (P : List Nat) : Prop where
  keep : Keep w0 w [b6]
  p6 : b6 ≤ pb
  pl : pb = b6 ∨ w0.heap.size ≤ pb
  po : Ow w b6 5 (vS pb P.length pc) (P.map v8)
theorem One8.move {w0 w1 w2 : World} {b6 pb pc : Nat} {P : List Nat} (h : One8 w0 w1 b6 pb pc P) (k1 : Keep w1 w2 []) : One8 w0 w2 b6 pb pc P :=
  ⟨h.keep.trans k1 (by simp), h.p6, h.pl, h.po.keepA k1 (by simp)⟩
theorem One8.app {w0 w2 w3 : World} {b6 pb pc b' c' : Nat} {P P' : List Nat} (h : One8 w0 w2 b6 pb pc P) (hb : b' = pb ∨ b' = w2.heap.size) (hO : Ow w3 b6 5 (vS b' P'.length c') (P'.map v8)) (k2 : Keep w2 w3 [pb]) : One8 w0 w3 b6 b' c' P' := by
  have s0 := h.keep.size
  have hp6 := h.p6; have hpl := h.pl
  have hpw := h.po.at.1
  refine ⟨h.keep.trans k2 (fun i hi => ?_), by omega, by omega, hO⟩
  simp only [List.mem_singleton] at hi ⊢
  subst hi
  omega

end Go.Proofs.Ytlhbbndedbacpaa

/- A list of numbers that the call appends to, in a row of its own. -/
import Derived.Test.YtoheaoihiecgdaaDoorT2
import Derived.Test.YtoheaoihiecgdaaDoorK14
set_option linter.unusedVariables false
set_option linter.unusedSimpArgs false
namespace Go.Proofs.YtoheaoihiecgdaaDoor
open Go Go.RowKit

theorem Ow.at {w : World} {base b n c : Nat} {e : TypeId} {xs : List Value} (h : Ow w base e (vS b n c) xs) : b < w.heap.size ∧ base ≤ b ∧ ∃ tail, Blk w b e (xs ++ tail) ∧ n = xs.length ∧ c = xs.length + tail.length ∧ c ≤ maxLen := by
  rcases h with ⟨h1, _⟩ | ⟨b', c', tail, h1, h2, h3, h4, h5⟩
  · cases h1
  · cases h1
    exact ⟨h3.lt, h2, tail, h3, rfl, h4, h5⟩
theorem Ow.keepA {w w' : World} {base b n c : Nat} {e : TypeId} {xs : List Value} {L : List Nat} (h : Ow w base e (vS b n c) xs) (k : Keep w w' L) (hn : b ∉ L) : Ow w' base e (vS b n c) xs := by
  obtain ⟨_, h2, tail, h3, rfl, h5, h6⟩ := h.at
  exact .inr ⟨b, c, tail, rfl, h2, h3.keep k hn, h5, h6⟩
theorem Ow.blk {w : World} {base n c : Nat} {e : TypeId} {ad : Addr} {xs : List Value} (h : Ow w base e (.slice (some ad) n c) xs) : base ≤ ad.block := by
  rcases h with ⟨h1, _⟩ | ⟨b, c', tail, h1, h2, _⟩
  · cases h1
  · simp only [vS, Value.slice.injEq, Option.some.injEq] at h1
    rw [h1.1]; exact h2
theorem snoc_len {P : List Nat} {x : Nat} : (P.map vU).length + 1 = (P ++ [x]).length := by simp
theorem snoc_map {P : List Nat} {x : Nat} : P.map vU ++ [vU x] = (P ++ [x]).map vU := by simp
/-- a list of numbers that the call appends to, in a row of its own -/
structure One (w0 w : World) (b6 pb pc : Nat) (P : List Nat) : Prop where
  keep : Keep w0 w [b6]
  p6 : b6 ≤ pb
  pl : pb = b6 ∨ w0.heap.size ≤ pb
  po : Ow w b6 22 (vS pb P.length pc) (P.map vU)
theorem One.move {w0 w1 w2 : World} {b6 pb pc : Nat} {P : List Nat} (h : One w0 w1 b6 pb pc P) (k1 : Keep w1 w2 []) : One w0 w2 b6 pb pc P :=
  ⟨h.keep.trans k1 (by simp), h.p6, h.pl, h.po.keepA k1 (by simp)⟩
theorem One.app {w0 w2 w3 : World} {b6 pb pc b' c' : Nat} {P P' : List Nat} (h : One w0 w2 b6 pb pc P) (hb : b' = pb ∨ b' = w2.heap.size) (hO : Ow w3 b6 22 (vS b' P'.length c') (P'.map vU)) (k2 : Keep w2 w3 [pb]) : One w0 w3 b6 b' c' P' := by
  have s0 := h.keep.size
  have hp6 := h.p6; have hpl := h.pl
  have hpw := h.po.at.1
  refine ⟨h.keep.trans k2 (fun i hi => ?_), by omega, by omega, hO⟩
  simp only [List.mem_singleton] at hi ⊢
  subst hi
  omega

end Go.Proofs.YtoheaoihiecgdaaDoor

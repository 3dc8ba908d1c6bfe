/- A slice in a row that the call owns: more words. -/
import Derived.Test.YtbahhdeblppooaaDoorK14
set_option linter.unusedVariables false
set_option linter.unusedSimpArgs false
namespace Go.Proofs.YtbahhdeblppooaaDoor
open Go Go.RowKit

theorem Ow.len {w : World} {base : Nat} {e : TypeId} {A : Option Addr} {n c : Nat} {xs : List Value} (h : Ow w base e (.slice A n c) xs) : n = xs.length := by
  rcases h with ⟨h1, rfl⟩ | ⟨b, c', tail, h1, _⟩
  · cases h1; rfl
  · cases h1; rfl
theorem Ow.base {w : World} {base base' : Nat} {e : TypeId} {v : Value} {xs : List Value} (h : Ow w base e v xs) (hb : base' ≤ base) : Ow w base' e v xs := by
  rcases h with h | ⟨b, c, tail, h1, h2, h3⟩
  · exact .inl h
  · exact .inr ⟨b, c, tail, h1, by omega, h3⟩
theorem Ow.rd' {w : World} {base : Nat} {e : TypeId} {A : Option Addr} {n c : Nat} {xs : List Nat} (h : Ow w base e (.slice A n c) (xs.map vU)) : Rd w A n xs := by
  have hl := h.len
  rw [List.length_map] at hl
  obtain ⟨A', c', e, hR⟩ := h.rd
  cases e
  exact hR

theorem Ow.at {w : World} {base b n c : Nat} {e : TypeId} {xs : List Value} (h : Ow w base e (vS b n c) xs) : b < w.heap.size ∧ base ≤ b ∧ ∃ tail, Blk w b e (xs ++ tail) ∧ n = xs.length ∧ c = xs.length + tail.length ∧ c ≤ maxLen := by
  rcases h with ⟨h1, _⟩ | ⟨b', c', tail, h1, h2, h3, h4, h5⟩
  · cases h1
  · cases h1
    exact ⟨h3.lt, h2, tail, h3, rfl, h4, h5⟩
theorem Ow.keepA {w w' : World} {base b n c : Nat} {e : TypeId} {xs : List Value} {L : List Nat} (h : Ow w base e (vS b n c) xs) (k : Keep w w' L) (hn : b ∉ L) : Ow w' base e (vS b n c) xs := by
  obtain ⟨_, h2, tail, h3, rfl, h5, h6⟩ := h.at
  exact .inr ⟨b, c, tail, rfl, h2, h3.keep k hn, h5, h6⟩
theorem Ow.blk {w : World} {base n c : Nat} {e : TypeId} {ad : Addr} {xs : List Value} (h : Ow w base e (.slice (some ad) n c) xs) : base ≤ ad.block := by
  rcases h with ⟨h1, _⟩ | ⟨b, c', tail, h1, h2, _⟩
  · cases h1
  · simp only [vS, Value.slice.injEq, Option.some.injEq] at h1
    rw [h1.1]; exact h2

end Go.Proofs.YtbahhdeblppooaaDoor

/- A word of a set is stored; cleanLastWord; Complement, each by its contract. -/
import Derived.Test.YtefhjchhfpjciaaDoorB1
import Derived.Test.YtefhjchhfpjciaaDoorC1
import Derived.Test.YtefhjchhfpjciaaDoorL11
set_option linter.unusedVariables false
set_option linter.unusedSimpArgs false
set_option maxRecDepth 100000
namespace Go.Proofs.YtefhjchhfpjciaaDoor
open Go Go.RowKit

theorem BW.store {w w' : World} {p q L : Nat} {ws tl : List Nat} {j x : Nat} (h : BW w p q L ws tl) (hq : Blk w' q 60 (((ws ++ tl).set j x).map vU)) (hK : Keep w w' [q]) (hx : x < 18446744073709551616) (hj : j < ws.length) : BW w' p q L (ws.set j x) tl := by
  have hne := h.ne
  refine ⟨?_, ?_, hne, set_lt64 h.lt hx, by simpa using h.cap⟩
  · have := h.st.keep hK (by simpa using hne)
    simpa using this
  · rw [List.set_append_left _ _ hj] at hq
    exact hq
theorem BW.drew {w : World} {p q L : Nat} {ws tl : List Nat} (h : BW w p q L ws tl) : BW w.drew p q L ws tl := h.keep (Keep.drew w []) (by simp) (by simp)
theorem BW.bset {w : World} {p q : Nat} {s : List Bool} {ws tl : List Nat} (h : BW w p q s.length ws tl) (hl : ws.length = nW s.length) (hb : ∀ i, i < 64 * ws.length → wbit ws i = s.getD i false) : BSet w p q s := by
  have e := pack_unique hl h.lt hb
  subst e
  exact ⟨tl, h⟩



















































































































end Go.Proofs.YtefhjchhfpjciaaDoor

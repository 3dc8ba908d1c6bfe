/- The words of a set, or a part of them, as a slice that is only read. -/
import Derived.Test.YtbahhdeblppooaaDoorA3
set_option linter.unusedVariables false
set_option linter.unusedSimpArgs false
namespace Go.Proofs.YtbahhdeblppooaaDoor
open Go Go.RowKit

theorem BW.rdt {w : World} {p q L m : Nat} {ws tl : List Nat} (h : BW w p q L ws tl) (hm : m ≤ ws.length) : Rd w (some ⟨q, 0, none⟩) m (ws.take m) := by
  have hc := h.cap
  have := Rd.of_row h.wd (o := 0) (m := m) (by simp only [List.length_append]; omega) (by omega)
  rwa [List.drop_zero, List.take_append_of_le_length hm] at this
theorem BW.rd {w : World} {p q L : Nat} {ws tl : List Nat} (h : BW w p q L ws tl) : Rd w (some ⟨q, 0, none⟩) ws.length ws := by
  have := h.rdt (Nat.le_refl _)
  rwa [List.take_length] at this
theorem BW.rds {w : World} {p q L l : Nat} {ws tl : List Nat} (h : BW w p q L ws tl) (hl : l ≤ ws.length) : Rd w (some (if ws.length + tl.length = l then ⟨q, 0, none⟩ else ⟨q, 0 + l, none⟩)) (ws.length - l) (ws.drop l) := by
  have hc := h.cap
  split
  · exact Rd.of_zero (by omega) (by simp; omega)
  · have := Rd.of_row h.wd (o := l) (m := ws.length - l) (by simp only [List.length_append]; omega) (by omega)
    rw [List.drop_append_of_le_length hl, List.take_left' (by simp)] at this
    rwa [Nat.zero_add]
theorem lt_take {ws : List Nat} (h : ∀ x ∈ ws, x < 18446744073709551616) (m : Nat) : ∀ x ∈ ws.take m, x < 18446744073709551616 := fun x hx => h x (List.mem_of_mem_take hx)
theorem lt_drop {ws : List Nat} (h : ∀ x ∈ ws, x < 18446744073709551616) (m : Nat) : ∀ x ∈ ws.drop m, x < 18446744073709551616 := fun x hx => h x (List.mem_of_mem_drop hx)

end Go.Proofs.YtbahhdeblppooaaDoor

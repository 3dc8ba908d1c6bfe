/- DeleteAt, by its contract. -/
import Derived.Test.YtefhjchhfpjciaaDoorG2
import Derived.Test.YtefhjchhfpjciaaDoorL16
set_option linter.unusedVariables false
set_option linter.unusedSimpArgs false
set_option maxRecDepth 100000
namespace Go.Proofs.YtefhjchhfpjciaaDoor
open Go Go.RowKit

theorem c_wNU (i : Nat) (hi : i < 4611686018427387904) (w : World) : Cal Tryd.prog 38 [vU i] w fun v w' => v = vI ((nW i : Nat) : Int) ∧ w = w' := by
  refine go_in' Tryd.func38 rfl Tryd.ntmps38 (Nat.le_of_ble_eq_true rfl) ?_
  refine c_seq ?_
  refine c_region ?_
  refine st (y_assign (v := vI ((0 : Nat) : Int)) rfl) rfl ?_
  refine l_nil ?_
  refine q_then ?_
  refine c_seq ?_
  refine c_region ?_
  refine st (y_move rfl) rfl ?_
  refine st (y_conv_ui rfl us22 Tryd.underlying3 (by omega)) rfl ?_
  first | refine st (y_add_in (b := 63) rfl rfl (by omega)) rfl ?_ | refine st (y_add_i (b := 63) rfl rfl (by omega) (by omega)) rfl ?_
  refine st (y_shr_i (k := 6) rfl rfl (by omega)) rfl ?_
  refine st (y_assign rfl) rfl ?_
  refine l_nil ?_
  refine q_then ?_
  refine c_ret ?_
  refine q_end1 (.inl rfl) rfl rfl ?_
  refine ⟨_, rfl, ?_, rfl⟩
  simp [nW, Nat.shiftRight_eq_div_pow]

theorem c_wCount (p q L : Nat) (ws tl : List Nat) (w : World) (hB : BW w p q L ws tl) (hs : L ≤ 100001) :
    Cal Tryd.prog 30 [vP p] w fun v w' => v = vI ((nW L : Nat) : Int) ∧ w = w' := by
  have hst := hB.st
  refine go_in' Tryd.func30 rfl Tryd.ntmps30 (Nat.le_of_ble_eq_true rfl) ?_
  refine c_seq ?_
  refine c_region ?_
  refine st (y_assign (v := vI ((0 : Nat) : Int)) rfl) rfl ?_
  refine l_nil ?_
  refine q_then ?_
  refine c_seq ?_
  refine c_region ?_
  refine st (y_move rfl) rfl ?_
  refine st (y_nil rfl) rfl ?_
  refine st (fa58_0 rfl) rfl ?_
  refine st (y_loadb rfl one22 (by assumption) (by rfl)) rfl ?_
  refine sc rfl rfl isfn38 (c_wNU _ (by omega) _) rfl ?_
  rintro _ _ ⟨rfl, rfl⟩
  refine st (y_assign rfl) rfl ?_
  refine l_nil ?_
  refine q_then ?_
  refine c_ret ?_
  refine q_end1 (.inl rfl) rfl rfl ?_
  exact ⟨_, rfl, rfl, rfl⟩

theorem BW.cut {w : World} {p q L : Nat} {ws tl : List Nat} {n : Nat} (hst : Blk w p 58 [vU L, vS q n (ws.length + tl.length)]) (hwd : Blk w q 60 ((ws ++ tl).map vU)) (hne : p ≠ q) (hlt : ∀ x ∈ ws, x < 18446744073709551616) (hcap : ws.length + tl.length ≤ 9223372036854775807) (hn : n ≤ ws.length) :
    BW w p q L (ws.take n) (ws.drop n ++ tl) := by
  have e1 : (ws.take n).length = n := by simp; omega
  have e2 : n + (ws.drop n ++ tl).length = ws.length + tl.length := by simp; omega
  refine ⟨?_, ?_, hne, fun x hx => hlt x (List.mem_of_mem_take hx), by rw [e1, e2]; exact hcap⟩
  · rw [e1, e2]; exact hst
  · rw [← List.append_assoc, List.take_append_drop]; exact hwd






























































































































































































end Go.Proofs.YtefhjchhfpjciaaDoor

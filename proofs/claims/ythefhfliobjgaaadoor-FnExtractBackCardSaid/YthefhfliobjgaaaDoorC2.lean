/- The reference's Count, by its contract. -/
import Derived.Test.YthefhfliobjgaaaDoorC1
import Derived.Test.YthefhfliobjgaaaDoorN1
set_option linter.unusedVariables false
set_option linter.unusedSimpArgs false
set_option maxRecDepth 100000
namespace Go.Proofs.YthefhfliobjgaaaDoor
open Go Go.RowKit

theorem c_specCount (b : Nat) (s : List Bool) (w : World) (hB : Bl w b s) (hs : s.length ≤ 100000) :
    Cal Tryd.prog 13 [vS b s.length s.length] w fun v w' => v = vU (count s) ∧ Keep w w' [] := by
  have hcl := count_le s
  refine go_in' Tryd.func13 rfl Tryd.ntmps13 (Nat.le_of_ble_eq_true rfl) ?_
  refine c_seq ?_
  refine c_region ?_
  refine st (y_assign (v := vU 0) rfl) rfl ?_
  refine l_nil ?_
  refine q_then ?_
  refine c_seq ?_
  refine c_region ?_
  refine st (y_move rfl) rfl ?_
  refine sc rfl rfl isfn7 (c_Numbers b s _ hB hs) rfl ?_
  rintro v1 w1 ⟨hO, hK⟩
  obtain ⟨A, c, rfl, hRd⟩ := hO.rd
  have hlen := nums_length s
  rw [hlen]
  refine st (y_len rfl Tryd.underlying23) rfl ?_
  refine st (y_conv_iu rfl us3 Tryd.underlying22 rfl (by omega)) rfl ?_
  refine st (y_assign rfl) rfl ?_
  refine l_nil ?_
  refine q_then ?_
  refine c_ret ?_
  refine q_end1 (.inl rfl) rfl rfl ?_
  exact ⟨_, rfl, rfl, hK⟩

end Go.Proofs.YthefhfliobjgaaaDoor

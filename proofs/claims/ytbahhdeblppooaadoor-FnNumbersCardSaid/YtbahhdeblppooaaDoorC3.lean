/- (*BitSet).Count, by its contract. -/
import Derived.Test.YtbahhdeblppooaaDoorC1
set_option linter.unusedVariables false
set_option linter.unusedSimpArgs false
set_option maxRecDepth 100000
namespace Go.Proofs.YtbahhdeblppooaaDoor
open Go Go.RowKit

theorem c_Count (p q : Nat) (s : List Bool) (w : World) (hB : BSet w p q s) (hs : s.length ≤ 100001) :
    Cal Tryd.prog 32 [vP p] w fun v w' => v = vU (count s) ∧ w = w' := by
  obtain ⟨tl, hB⟩ := hB
  have hst := hB.st
  have hwd := hB.wd
  have hlen := pack_length s
  have hn : nW s.length ≤ 2000 := by unfold nW; omega
  have hps := psum_pack s
  have hRd := Rd.of_row hwd (o := 0) (m := (pack s).length) (by simp only [List.length_append]; omega) (by omega)
  rw [List.drop_zero, List.take_left' rfl] at hRd
  refine go_in' Tryd.func32 rfl Tryd.ntmps32 (Nat.le_of_ble_eq_true rfl) ?_
  refine c_seq ?_
  refine c_region ?_
  refine st (y_assign (v := vU 0) rfl) rfl ?_
  refine l_nil ?_
  refine q_then ?_
  refine c_seq ?_
  refine c_seq ?_
  refine c_region ?_
  refine st (y_move rfl) rfl ?_
  refine st (y_pnil_ne rfl rfl pte49) rfl ?_
  refine st (y_move rfl) rfl ?_
  refine stg rfl rfl (y_move rfl) rfl ?_
  refine stg rfl rfl (y_nil rfl) rfl ?_
  refine stg rfl rfl (fa66_1 rfl) rfl ?_
  refine stg rfl rfl (y_loadb rfl one64 (by assumption) (by rfl)) rfl ?_
  refine stg rfl rfl (y_snil_ne rfl rfl Tryd.underlying64) rfl ?_
  refine st (y_pickT rfl rfl) rfl ?_
  refine l_nil ?_
  refine q_then ?_
  refine c_true rfl rfl ?_
  refine c_seq ?_
  refine c_region ?_
  refine st (y_move rfl) rfl ?_
  refine st (y_nil rfl) rfl ?_
  refine st (fa66_1 rfl) rfl ?_
  refine st (y_loadb rfl one64 (by assumption) (by rfl)) rfl ?_
  refine sc rfl rfl isfn43 (c_popcntSlice _ _ _ _ (pack_lt s) (by omega) _ hRd) rfl ?_
  rintro _ _ ⟨rfl, rfl⟩
  refine st (y_assign rfl) rfl ?_
  refine l_nil ?_
  refine q_then ?_
  refine c_ret ?_
  refine q_then_ret ?_
  refine q_end1 (.inl rfl) rfl rfl ?_
  exact ⟨_, rfl, by rw [hps], rfl⟩

end Go.Proofs.YtbahhdeblppooaaDoor

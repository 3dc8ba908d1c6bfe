/- The package's first functions, each by its contract. -/
import Derived.Test.YtbahhdeblppooaaDoorK4
import Derived.Test.YtbahhdeblppooaaDoorL1
set_option linter.unusedVariables false
set_option linter.unusedSimpArgs false
set_option maxRecDepth 100000
namespace Go.Proofs.YtbahhdeblppooaaDoor
open Go Go.RowKit

theorem c_Cap (w : World) : Cal Tryd.prog 53 [] w fun v w' => v = vU 18446744073709551615 ∧ w = w' := by
  refine go_in' Tryd.func53 rfl Tryd.ntmps53 (Nat.le_of_ble_eq_true rfl) ?_
  refine c_seq ?_
  refine c_region ?_
  refine st (y_assign (v := vU 0) rfl) rfl ?_
  refine l_nil ?_
  refine q_then ?_
  refine c_seq ?_
  refine c_region ?_
  refine st (y_assign (v := vU 18446744073709551615) rfl) rfl ?_
  refine l_nil ?_
  refine q_then ?_
  refine c_ret ?_
  refine q_end1 (.inl rfl) rfl rfl ?_
  exact ⟨_, rfl, rfl, rfl⟩

theorem c_wordsIndex (i : Nat) (hi : i < 18446744073709551616) (w : World) : Cal Tryd.prog 40 [vU i] w fun v w' => v = vU (i &&& 63) ∧ w = w' := by
  refine go_in' Tryd.func40 rfl Tryd.ntmps40 (Nat.le_of_ble_eq_true rfl) ?_
  refine c_seq ?_
  refine c_region ?_
  refine st (y_assign (v := vU 0) rfl) rfl ?_
  refine l_nil ?_
  refine q_then ?_
  refine c_seq ?_
  refine c_region ?_
  refine st (y_move rfl) rfl ?_
  refine st (y_and (b := 63) rfl rfl (by first | omega | assumption | (repeat (first | assumption | omega | decide | exact shl_lt64 _ _ | apply and_lt64 | apply or_lt64 | apply xor_lt64 | apply nt_lt | apply shr_lt64 | apply getD_lt64))) (by first | omega | assumption | (repeat (first | assumption | omega | decide | exact shl_lt64 _ _ | apply and_lt64 | apply or_lt64 | apply xor_lt64 | apply nt_lt | apply shr_lt64 | apply getD_lt64)))) rfl ?_
  refine st (y_assign rfl) rfl ?_
  refine l_nil ?_
  refine q_then ?_
  refine c_ret ?_
  refine q_end1 (.inl rfl) rfl rfl ?_
  exact ⟨_, rfl, rfl, rfl⟩

theorem c_wordsNeeded (i : Nat) (hi : i < 9223372036854775808) (w : World) : Cal Tryd.prog 47 [vU i] w fun v w' => v = vI ((nW i : Nat) : Int) ∧ w = w' := by
  refine go_in' Tryd.func47 rfl Tryd.ntmps47 (Nat.le_of_ble_eq_true rfl) ?_
  refine c_seq ?_
  refine c_region ?_
  refine st (y_assign (v := vI ((0 : Nat) : Int)) rfl) rfl ?_
  refine l_nil ?_
  refine q_then ?_
  refine c_seq ?_
  refine c_seq ?_
  refine c_region ?_
  refine st (y_move rfl) rfl ?_
  refine sc rfl rfl isfn53 (c_Cap _) rfl ?_
  rintro _ _ ⟨rfl, rfl⟩
  refine st (y_sub_u (b := 63) rfl rfl (by omega) (by omega)) rfl ?_
  refine st_f (y_gt_u rfl rfl) (by omega) rfl ?_
  refine l_nil ?_
  refine q_then ?_
  refine c_false rfl rfl ?_
  refine c_skip ?_
  refine q_then ?_
  refine c_seq ?_
  refine c_region ?_
  refine st (y_move rfl) rfl ?_
  refine st (y_add_u (b := 63) rfl rfl (by omega)) rfl ?_
  refine st (y_shr (k := 6) rfl rfl (by first | omega | assumption | (repeat (first | assumption | omega | decide | exact shl_lt64 _ _ | apply and_lt64 | apply or_lt64 | apply xor_lt64 | apply nt_lt | apply shr_lt64 | apply getD_lt64)))) rfl ?_
  refine st (y_conv_ui rfl us22 Tryd.underlying3 (by omega)) rfl ?_
  refine st (y_assign rfl) rfl ?_
  refine l_nil ?_
  refine q_then ?_
  refine c_ret ?_
  refine q_end1 (.inl rfl) rfl rfl ?_
  refine ⟨_, rfl, ?_, rfl⟩
  simp [nW, Nat.shiftRight_eq_div_pow]

end Go.Proofs.YtbahhdeblppooaaDoor

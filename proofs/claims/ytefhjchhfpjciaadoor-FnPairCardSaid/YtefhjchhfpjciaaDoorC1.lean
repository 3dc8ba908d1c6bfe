/- Counting: OnesCount64, popcntSlice, panicIfNull, Count, wordsNeededUnbound, wordCount; each by its contract. -/
import Derived.Test.YtefhjchhfpjciaaDoorA5
import Derived.Test.YtefhjchhfpjciaaDoorL5
set_option linter.unusedVariables false
set_option linter.unusedSimpArgs false
set_option maxRecDepth 100000
namespace Go.Proofs.YtefhjchhfpjciaaDoor
open Go Go.RowKit
































































































theorem c_panicIfNull (p : Nat) (w : World) : Cal Tryd.prog 29 [vP p] w fun v w' => v = vT [] ∧ w = w' := by
  refine go_in' Tryd.func29 rfl Tryd.ntmps29 (Nat.le_of_ble_eq_true rfl) ?_
  refine c_seq ?_
  refine c_region ?_
  refine st (y_move rfl) rfl ?_
  refine st (y_pnil_eq rfl rfl pte42) rfl ?_
  refine l_nil ?_
  refine q_then ?_
  refine c_false rfl rfl ?_
  refine c_skip ?_
  refine q_end0 (.inr rfl) rfl ?_
  exact ⟨_, rfl, rfl, rfl⟩

end Go.Proofs.YtefhjchhfpjciaaDoor

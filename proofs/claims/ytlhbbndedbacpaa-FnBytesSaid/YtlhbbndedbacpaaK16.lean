/- More comparisons of bytes; no statement of the program is proved here. -/
import Derived.Test.YtlhbbndedbacpaaK13
set_option linter.unusedVariables false
set_option linter.unusedSimpArgs false
namespace Go.Proofs.Ytlhbbndedbacpaa
open Go
section
variable {P : Program} {F : Fr} {w : World} {T : TypeId}
theorem y_gt_8 {x y : Operand} {t t' : TypeId} {a b : Nat} (hx : ev F x = some (v8 a)) (hy : ev F y = some (v8 b)) : Zv P w F (.binOp .gtr t x y t') T (.bool (decide (b < a))) w :=
  fun dst pos af gd ρ hρ => .inl (by simp [execOp, hρ _ _ hx, hρ _ _ hy, eqGuard, binOp, Op.intCmp])
theorem y_le_8 {x y : Operand} {t t' : TypeId} {a b : Nat} (hx : ev F x = some (v8 a)) (hy : ev F y = some (v8 b)) : Zv P w F (.binOp .leq t x y t') T (.bool (decide (a ≤ b))) w :=
  fun dst pos af gd ρ hρ => .inl (by simp [execOp, hρ _ _ hx, hρ _ _ hy, eqGuard, binOp, Op.intCmp])
theorem y_ge_8 {x y : Operand} {t t' : TypeId} {a b : Nat} (hx : ev F x = some (v8 a)) (hy : ev F y = some (v8 b)) : Zv P w F (.binOp .geq t x y t') T (.bool (decide (b ≤ a))) w :=
  fun dst pos af gd ρ hρ => .inl (by simp [execOp, hρ _ _ hx, hρ _ _ hy, eqGuard, binOp, Op.intCmp])
end
end Go.Proofs.Ytlhbbndedbacpaa

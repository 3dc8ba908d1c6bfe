/- Arrays and rows of arrays, small numbers: one operation each; no statement of the program is proved here. -/
import Derived.Test.YtbahhdeblppooaaDoorK5
set_option linter.unusedVariables false
set_option linter.unusedSimpArgs false
namespace Go.Proofs.YtbahhdeblppooaaDoor
open Go
section
variable {P : Program} {n : Nat} {F : Fr} {w : World} {T : TypeId}

/-- an element of an array, by the array's address -/
theorem y_indexarr {x y : Operand} {t e : TypeId} {k : IntKind} {b o len m : Nat} {i : Nat} (hx : ev F x = some (pt b o)) (hy : ev F y = some (.int k (i : Int))) (ht : P.underlying t = some (.array len e)) (he : tSize P e = some m) (hi : i < len) :
    Zv P w F (.indexAddr t x y) T (pt b (o + i * m)) w :=
  fun dst pos af gd ρ hρ => .inl (by
    have h1 : (0 : Int) ≤ (i : Int) ∧ (i : Int) < (len : Int) := by omega
    simp [execOp, hρ _ _ hx, hρ _ _ hy, Instr.indexAt, Instr.sureAddr, asIntOf, run_underlying ht, run_sizeOf he, hi, add_pt])
/-- an element of a slice of larger things -/
theorem y_indexs {x y : Operand} {t e : TypeId} {k : IntKind} {b o len c m : Nat} {i : Nat} (hx : ev F x = some (.slice (some ⟨b, o, none⟩) len c)) (hy : ev F y = some (.int k (i : Int))) (ht : P.underlying t = some (.slice e)) (he : tSize P e = some m) (hi : i < len) :
    Zv P w F (.indexAddr t x y) T (pt b (o + i * m)) w :=
  fun dst pos af gd ρ hρ => .inl (by
    have h1 : (0 : Int) ≤ (i : Int) ∧ (i : Int) < (len : Int) := by omega
    simp [execOp, hρ _ _ hx, hρ _ _ hy, Instr.indexAt, asIntOf, run_underlying ht, run_sizeOf he, hi, add_pt])
theorem y_rem_8 {x y : Operand} {t t' : TypeId} {a b : Nat} (hx : ev F x = some (v8 a)) (hy : ev F y = some (v8 b)) (hb : 0 < b) : Zv P w F (.binOp .rem t x y t') T (v8 (a % b)) w :=
  fun dst pos af gd ρ hρ => .inl (by
    have hb' : ¬ (b : Int) = 0 := by omega
    have e0 : (a : Int).tmod (b : Int) = ((a % b : Nat) : Int) := (Int.tmod_eq_emod_of_nonneg (by omega)).trans (by simp)
    simp only [execOp, hρ _ _ hx, hρ _ _ hy, eqGuard, binOp, Op.intDiv, v8]
    simp only [if_neg hb', e0]
    simp)
theorem y_max_i {x y : Operand} {t : TypeId} {a b : Int} (hx : ev F x = some (vI a)) (hy : ev F y = some (vI b)) (ht : P.underlying t = some (.int .i64)) : Zv P w F (.call ⟨.builtin .max, #[x, y], #[t, t]⟩) T (vI (max a b)) w :=
  fun dst pos af gd ρ hρ => .inl (by
    rw [exec_builtin hρ (vals := [vI a, vI b]) (by simp [evs, hx, hy])]
    have h : (if b > a then b else a) = max a b := by split <;> omega
    simp only [builtin, Builtin.max_, List.foldlM, Builtin.max2, h, Sem.run_bind, Sem.run_pure, Result.andThen_ok])
end
end Go.Proofs.YtbahhdeblppooaaDoor

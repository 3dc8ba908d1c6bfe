/- Interface values, methods called through them, arrays as slices, values without cells; no statement of the program is proved here. -/
import Derived.Test.YtlhbbndedbacpaaK17
import Derived.Stop.IfaceNil
set_option linter.unusedVariables false
set_option linter.unusedSimpArgs false
namespace Go.Proofs.Ytlhbbndedbacpaa
open Go Go.RowKit
section
variable {P : Program} {ops : Array Oper} {Q : Exit → Act → World → Prop} {n : Nat} {D : List Deferred} {F : Fr} {rest : List Oper} {w : World} {T : TypeId} {pos : String} {af : Array Edge}
/-- a value as an interface value -/
theorem y_mkIface {x : Operand} {t e : TypeId} {v : Value} (hx : ev F x = some v) (ht : P.underlying t = some (.pointer e)) : Zv P w F (.makeInterface t x) T (.iface t v) w :=
  fun dst pos af gd ρ hρ => .inl (by simp [execOp, hρ _ _ hx, Instr.makeInterface, run_underlying ht])
/-- the check ahead of a method's call through an interface value that holds a pointer -/
theorem y_nilM {x : Operand} {t : TypeId} {a : Addr} {nm : String} (hx : ev F x = some (.func (.method nm) #[.iface t (.pointer (some a))] #[])) (hn : (nilAhead (P.types.size + Made.depth) t (.pointer (some a)) nm).run P w = .ok (some false) w) : Zv P w F (.nilCheck x) T (.func (.method nm) #[.iface t (.pointer (some a))] #[]) w :=
  fun dst pos af gd ρ hρ => .inl (by simp [execOp, hρ _ _ hx, run_program, hn])
/-- a method called through an interface value, with one argument more -/
theorem scM {d : Nat} {f : FuncId} {x y : Operand} {tys : Array TypeId} {t : TypeId} {u z : Value} {nm : String} {R : Value → World → Prop} (hx : ev F x = some (.iface t u)) (hy : ev F y = some z)
    (hm : (invoke (.fn (.method nm) #[]) #[.iface t u, z]).run P w = .ok (.enter f #[u, z]) w) (hc : Cal P f [u, z] w R) (hd : Nat.blt d n = true) (k : ∀ v w', R v w' → wpL P ops Q n D ((d, v) :: F) rest w') :
    wpL P ops Q n D F (⟨some d, .call ⟨.invoke x nm, #[y], tys⟩, T, pos, af, none⟩ :: rest) w := by
  intro a ha
  refine wpList_plain rfl fun K hK => ?_
  have h1 := ha.agree _ _ hx
  have h2 := ha.agree _ _ hy
  have he : (execOp a.eval ⟨some d, .call ⟨.invoke x nm, #[y], tys⟩, T, pos, af, none⟩).run P w = .ok (.enter f #[u, z]) w := by
    simp [execOp, resolve, h1, h2, hm]
  unfold Oper.wp
  rw [he]
  refine Calls.mono hc ?_
  rintro e w' ⟨v, rfl, hv⟩
  exact hK _ _ (k v w' hv _ (ha.put hd v))
/-- all of an array as a slice -/
theorem y_sliceArr {x : Operand} {t e : TypeId} {b m : Nat} (hx : ev F x = some (vP b)) (ht : P.underlying t = some (.array m e)) (he : tSize P e = some 1) : Zv P w F (.slice t x none none none) T (vS b m m) w :=
  fun dst pos af gd ρ hρ => .inl (by
    simp [execOp, hρ _ _ hx, Instr.sliceAt, run_underlying ht, Instr.sureAddr, Instr.sliceBounds, run_sizeOf he, Addr.add])
/-- xs[0:h] -/
theorem y_slice_0h {x lo hi : Operand} {t e : TypeId} {k k' : IntKind} {A : Option Addr} {n c h : Nat} (hx : ev F x = some (.slice A n c)) (hl : ev F lo = some (.int k ((0 : Nat) : Int))) (hh : ev F hi = some (.int k' (h : Int))) (ht : P.underlying t = some (.slice e)) (he : tSize P e = some 1) (h1 : h ≤ c) :
    Zv P w F (.slice t x (some lo) (some hi) none) T (.slice A h c) w :=
  fun dst pos af gd ρ hρ => .inl (by
    simp only [execOp, hρ _ _ hx, hρ _ _ hl, hρ _ _ hh, Option.map_some, Option.map_none, Sem.run_bind, run_sliceAt ht, Instr.slice, Instr.sliceBounds, run_underlying ht, Result.andThen_ok, run_bound (Nat.zero_le h), run_bound h1, Sem.run_pure, run_sizeOf he, Option.isSome_none, Nat.mul_one]
    cases A <;> simp [Addr.add])
/-- a value without cells, read -/
theorem y_load0 {x : Operand} {ad : Addr} {t : TypeId} (hx : ev F x = some (.pointer (some ad))) (ht : tOne P t = false) (hu : (P.underlying t).isSome = true) (hs : tSize P t = some 0) : Zv P w F (.load t x) T (.agg #[]) w :=
  fun dst pos af gd ρ hρ => .inl (by
    have h1 := run_isAgg' (P := P) (w := w) ht hu
    simp [execOp, hρ _ _ hx, Instr.loadAt, Instr.sureAddr, loadVar, h1, run_sizeOf hs, loadCells, loadCellsFrom])
theorem y_neqI {x : Operand} {t t' : TypeId} (hx : ev F x = some .nilIface) (h : P.isIface t = true) : Zv P w F (.binOp .neq t x (.const .nilIface) t') T (.bool false) w :=
  fun dst pos af gd ρ hρ => .inl (by
    have h2 := hρ (.const .nilIface) _ rfl
    have h3 := run_neq_nil_nil_at (P := P) w t h
    simp [execOp, hρ _ _ hx, h2, eqGuard, h3])
theorem y_eqlI {x : Operand} {t t' : TypeId} (hx : ev F x = some .nilIface) (h : P.isIface t = true) : Zv P w F (.binOp .eql t x (.const .nilIface) t') T (.bool true) w :=
  fun dst pos af gd ρ hρ => .inl (by
    have h2 := hρ (.const .nilIface) _ rfl
    have h3 := run_eql_nil_nil_at (P := P) w t h
    simp [execOp, hρ _ _ hx, h2, eqGuard, h3])
theorem y_neqV {x : Operand} {t t' u : TypeId} {v : Value} (hx : ev F x = some (.iface u v)) (h : P.isIface t = true) : Zv P w F (.binOp .neq t x (.const .nilIface) t') T (.bool true) w :=
  fun dst pos af gd ρ hρ => .inl (by
    have h2 := hρ (.const .nilIface) _ rfl
    have h3 := run_neq_iface_nil (P := P) w t h u v
    simp [execOp, hρ _ _ hx, h2, eqGuard, h3])
theorem y_eqlV {x : Operand} {t t' u : TypeId} {v : Value} (hx : ev F x = some (.iface u v)) (h : P.isIface t = true) : Zv P w F (.binOp .eql t x (.const .nilIface) t') T (.bool false) w :=
  fun dst pos af gd ρ hρ => .inl (by
    have h2 := hρ (.const .nilIface) _ rfl
    have h3 := run_eql_iface_nil (P := P) w t h u v
    simp [execOp, hρ _ _ hx, h2, eqGuard, h3])
end
end Go.Proofs.Ytlhbbndedbacpaa

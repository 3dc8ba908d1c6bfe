/- One lemma for each operation: what it answers, in numbers; no statement of the program is proved here. -/
import Derived.Test.YtbahhdeblppooaaDoorK1
set_option linter.unusedVariables false
set_option linter.unusedSimpArgs false
namespace Go.Proofs.YtbahhdeblppooaaDoor
open Go

abbrev vU (m : Nat) : Value := .int .u64 (m : Int)
abbrev vI (z : Int) : Value := .int .i64 z
abbrev v8 (m : Nat) : Value := .int .u8 (m : Int)
abbrev vP (b : Nat) : Value := .pointer (some ⟨b, 0, none⟩)
abbrev pt (b o : Nat) : Value := .pointer (some ⟨b, o, none⟩)
abbrev vS (b n c : Nat) : Value := .slice (some ⟨b, 0, none⟩) n c
abbrev vT (l : List Value) : Value := .tuple l.toArray

def M64 : Nat := 18446744073709551616

/-- turned round, in 64 bits -/
def nt (m : Nat) : Nat := m ^^^ 18446744073709551615

/-! ### Facts on types -/
def tOne (P : Program) (t : TypeId) : Bool := match P.underlying t with
  | some (.struct _) | some (.array _ _) => false
  | some _ => true
  | none => false
def tSize (P : Program) (t : TypeId) : Option Nat := (P.info? t).map (·.size)

section ops
variable {P : Program} {F : Fr} {w : World} {T : TypeId}

theorem run_isAgg {t : TypeId} (h : tOne P t = true) : (isAgg t).run P w = .ok false w := by
  unfold tOne at h
  unfold isAgg
  cases hd : P.underlying t with
  | none => simp [hd] at h
  | some d => rw [hd] at h; cases d <;> simp_all [run_underlying hd]

theorem run_sizeOf {t : TypeId} {n : Nat} (h : tSize P t = some n) : (sizeOf t).run P w = .ok n w := by
  unfold tSize at h
  cases hi : P.info? t with
  | none => simp [hi] at h
  | some i =>
    simp only [hi, Option.map_some, Option.some.injEq] at h
    simp [sizeOf, typeInfo, hi, h]

/-! ### What moves -/
theorem y_move {x : Operand} {v : Value} (hx : ev F x = some v) : Zv P w F (.move x) T v w := fun dst pos af gd ρ hρ => .inl (by simp [execOp, hρ _ _ hx])
theorem y_assign {x : Operand} {v : Value} (hx : ev F x = some v) : Zv P w F (.assign x) T v w := fun dst pos af gd ρ hρ => .inl (by simp [execOp, hρ _ _ hx])
theorem y_pick {c a b : Operand} {t : Bool} {va vb : Value} (hc : ev F c = some (.bool t)) (ha : ev F a = some va) (hb : ev F b = some vb) : Zv P w F (.pick c a b) T (bif t then va else vb) w :=
  fun dst pos af gd ρ hρ => .inl (by cases t <;> simp [execOp, hρ _ _ hc, hρ _ _ ha, hρ _ _ hb, asBool])
theorem y_pickT {c a b : Operand} {va : Value} (hc : ev F c = some (.bool true)) (ha : ev F a = some va) : Zv P w F (.pick c a b) T va w :=
  fun dst pos af gd ρ hρ => .inl (by simp [execOp, hρ _ _ hc, hρ _ _ ha, asBool])
theorem y_pickF {c a b : Operand} {vb : Value} (hc : ev F c = some (.bool false)) (hb : ev F b = some vb) : Zv P w F (.pick c a b) T vb w :=
  fun dst pos af gd ρ hρ => .inl (by simp [execOp, hρ _ _ hc, hρ _ _ hb, asBool])
theorem y_nil {x : Operand} {a : Addr} (hx : ev F x = some (.pointer (some a))) : Zv P w F (.nilCheck x) T (.pointer (some a)) w := fun dst pos af gd ρ hρ => .inl (by simp [execOp, hρ _ _ hx])
theorem y_nilf {x : Operand} {f : FuncId} {fs cs : Array Value} (hx : ev F x = some (.func (.func f) fs cs)) : Zv P w F (.nilCheck x) T (.func (.func f) fs cs) w := fun dst pos af gd ρ hρ => .inl (by simp [execOp, hρ _ _ hx])
theorem y_extract {x : Operand} {l : List Value} {i : Nat} {v : Value} (hx : ev F x = some (.tuple l.toArray)) (hv : l[i]? = some v) : Zv P w F (.extract x i) T v w :=
  fun dst pos af gd ρ hρ => .inl (by simp [execOp, hρ _ _ hx, Instr.extract, hv])
theorem y_not {x : Operand} {b : Bool} {t : TypeId} (hx : ev F x = some (.bool b)) : Zv P w F (.unOp .not t x) T (.bool (!b)) w := fun dst pos af gd ρ hρ => .inl (by simp [execOp, hρ _ _ hx, Op.unary])
theorem y_makeFunc {fn : Fn} {first captured : Array Operand} {fs cs : List Value} (h1 : evs F first.toList = some fs) (h2 : evs F captured.toList = some cs) : Zv P w F (.makeFunc fn first captured) T (.func fn fs.toArray cs.toArray) w :=
  fun dst pos af gd ρ hρ => .inl (by
    have e1 : first.map ρ = fs.toArray := by apply Array.ext'; simpa using hρ.evs _ _ h1
    have e2 : captured.map ρ = cs.toArray := by apply Array.ext'; simpa using hρ.evs _ _ h2
    simp [execOp, Instr.makeFunc, e1, e2])

/-! ### Numbers -/
theorem wrap_u64 (z : Int) (h0 : 0 ≤ z) (h : z < 18446744073709551616) : IntKind.u64.wrap z = z := by rw [IntKind.wrap_u64]; omega
theorem wrap_i64 (z : Int) (h0 : -9223372036854775808 ≤ z) (h : z < 9223372036854775808) : IntKind.i64.wrap z = z := by rw [IntKind.wrap_i64]; omega

theorem y_arith {op : BinOp} {k : IntKind} {x y : Operand} {t t' : TypeId} {a b r : Int} (hx : ev F x = some (.int k a)) (hy : ev F y = some (.int k b)) (hr : ∀ ρ : Operand → Value, (binOp op t (.int k a) (.int k b)).run P w = .ok (.int k r) w) (hop : op = .add ∨ op = .sub ∨ op = .mul ∨ op = .quo ∨ op = .rem ∨ op = .and ∨ op = .or ∨ op = .xor ∨ op = .andNot) :
    Zv P w F (.binOp op t x y t') T (.int k r) w := fun dst pos af gd ρ hρ => .inl (by
  have h := hr ρ
  rcases hop with rfl | rfl | rfl | rfl | rfl | rfl | rfl | rfl | rfl <;> simp [execOp, hρ _ _ hx, hρ _ _ hy, eqGuard, h])

theorem y_add_u {x y : Operand} {t t' : TypeId} {a b : Nat} (hx : ev F x = some (vU a)) (hy : ev F y = some (vU b)) (h : a + b < 18446744073709551616) : Zv P w F (.binOp .add t x y t') T (vU (a + b)) w :=
  fun dst pos af gd ρ hρ => .inl (by
    have e := wrap_u64 ((a : Int) + b) (by omega) (by omega)
    simp [execOp, hρ _ _ hx, hρ _ _ hy, eqGuard, binOp, Op.intArith, e])
theorem y_sub_u {x y : Operand} {t t' : TypeId} {a b : Nat} (hx : ev F x = some (vU a)) (hy : ev F y = some (vU b)) (h : b ≤ a) (h2 : a < 18446744073709551616) : Zv P w F (.binOp .sub t x y t') T (vU (a - b)) w :=
  fun dst pos af gd ρ hρ => .inl (by
    have e := wrap_u64 ((a : Int) - b) (by omega) (by omega)
    have e2 : ((a - b : Nat) : Int) = (a : Int) - b := by omega
    simp [execOp, hρ _ _ hx, hρ _ _ hy, eqGuard, binOp, Op.intArith, e, vU, e2])
/-- a difference that may lie below 0 -/
theorem y_subw_u {x y : Operand} {t t' : TypeId} {a b : Nat} (hx : ev F x = some (vU a)) (hy : ev F y = some (vU b)) (h : a < 18446744073709551616) (h2 : b < 18446744073709551616) : Zv P w F (.binOp .sub t x y t') T (vU ((a + (18446744073709551616 - b)) % 18446744073709551616)) w :=
  fun dst pos af gd ρ hρ => .inl (by
    have e : IntKind.u64.wrap ((a : Int) - b) = ((((a + (18446744073709551616 - b)) % 18446744073709551616) : Nat) : Int) := by rw [IntKind.wrap_u64]; omega
    simp only [execOp, hρ _ _ hx, hρ _ _ hy, eqGuard, binOp, Op.intArith, vU]
    simp [e])
theorem y_addw_u {x y : Operand} {t t' : TypeId} {a b : Nat} (hx : ev F x = some (vU a)) (hy : ev F y = some (vU b)) : Zv P w F (.binOp .add t x y t') T (vU ((a + b) % 18446744073709551616)) w :=
  fun dst pos af gd ρ hρ => .inl (by
    have e : IntKind.u64.wrap ((a : Int) + b) = ((((a + b) % 18446744073709551616) : Nat) : Int) := by rw [IntKind.wrap_u64]; omega
    simp only [execOp, hρ _ _ hx, hρ _ _ hy, eqGuard, binOp, Op.intArith, vU]
    simp [e])
theorem y_mul_u {x y : Operand} {t t' : TypeId} {a b : Nat} (hx : ev F x = some (vU a)) (hy : ev F y = some (vU b)) (h : a * b < 18446744073709551616) : Zv P w F (.binOp .mul t x y t') T (vU (a * b)) w :=
  fun dst pos af gd ρ hρ => .inl (by
    have e0 : ((a * b : Nat) : Int) = (a : Int) * b := by simp
    have e := wrap_u64 ((a : Int) * b) (by rw [← e0]; omega) (by rw [← e0]; omega)
    simp [execOp, hρ _ _ hx, hρ _ _ hy, eqGuard, binOp, Op.intArith, e])
theorem y_mulw_u {x y : Operand} {t t' : TypeId} {a b : Nat} (hx : ev F x = some (vU a)) (hy : ev F y = some (vU b)) : Zv P w F (.binOp .mul t x y t') T (vU ((a * b) % 18446744073709551616)) w :=
  fun dst pos af gd ρ hρ => .inl (by
    have e0 : ((a * b : Nat) : Int) = (a : Int) * b := by simp
    have e : IntKind.u64.wrap ((a : Int) * b) = ((((a * b) % 18446744073709551616) : Nat) : Int) := by rw [← e0, IntKind.wrap_u64]; omega
    simp only [execOp, hρ _ _ hx, hρ _ _ hy, eqGuard, binOp, Op.intArith, vU]
    simp [e])
theorem y_quo_u {x y : Operand} {t t' : TypeId} {a b : Nat} (hx : ev F x = some (vU a)) (hy : ev F y = some (vU b)) (hb : 0 < b) (h : a < 18446744073709551616) : Zv P w F (.binOp .quo t x y t') T (vU (a / b)) w :=
  fun dst pos af gd ρ hρ => .inl (by
    have hb' : ¬ (b : Int) = 0 := by omega
    have hle : a / b ≤ a := Nat.div_le_self _ _
    have e0 : (a : Int).tdiv (b : Int) = ((a / b : Nat) : Int) := by simp
    have e := wrap_u64 (((a / b : Nat) : Int)) (Int.natCast_nonneg _) (by have := Int.ofNat_le.2 hle; omega)
    have hb2 : ¬ b = 0 := by omega
    simp only [execOp, hρ _ _ hx, hρ _ _ hy, eqGuard, binOp, Op.intDiv, vU]
    simp only [if_neg hb', e0, e]
    simp)
theorem y_rem_u {x y : Operand} {t t' : TypeId} {a b : Nat} (hx : ev F x = some (vU a)) (hy : ev F y = some (vU b)) (hb : 0 < b) : Zv P w F (.binOp .rem t x y t') T (vU (a % b)) w :=
  fun dst pos af gd ρ hρ => .inl (by
    have hb' : ¬ (b : Int) = 0 := by omega
    have e0 : (a : Int).tmod (b : Int) = ((a % b : Nat) : Int) := (Int.tmod_eq_emod_of_nonneg (by omega)).trans (by simp)
    simp only [execOp, hρ _ _ hx, hρ _ _ hy, eqGuard, binOp, Op.intDiv, vU]
    simp only [if_neg hb', e0]
    simp)
theorem y_add_i {x y : Operand} {t t' : TypeId} {a b : Int} (hx : ev F x = some (vI a)) (hy : ev F y = some (vI b)) (h0 : -9223372036854775808 ≤ a + b) (h : a + b < 9223372036854775808) : Zv P w F (.binOp .add t x y t') T (vI (a + b)) w :=
  fun dst pos af gd ρ hρ => .inl (by simp [execOp, hρ _ _ hx, hρ _ _ hy, eqGuard, binOp, Op.intArith, wrap_i64 _ h0 h])
theorem y_add_in {x y : Operand} {t t' : TypeId} {a b : Nat} (hx : ev F x = some (vI (a : Nat))) (hy : ev F y = some (vI (b : Nat))) (h : a + b < 9223372036854775808) : Zv P w F (.binOp .add t x y t') T (vI ((a + b : Nat) : Int)) w := by
  have := y_add_i (P := P) (w := w) (T := T) (t := t) (t' := t') hx hy (by omega) (by omega)
  simpa using this
theorem y_mul_in {x y : Operand} {t t' : TypeId} {a b : Nat} (hx : ev F x = some (vI (a : Nat))) (hy : ev F y = some (vI (b : Nat))) (h : a * b < 9223372036854775808) : Zv P w F (.binOp .mul t x y t') T (vI ((a * b : Nat) : Int)) w :=
  fun dst pos af gd ρ hρ => .inl (by
    have e0 : ((a * b : Nat) : Int) = (a : Int) * b := by simp
    have e := wrap_i64 ((a : Int) * b) (by rw [← e0]; omega) (by rw [← e0]; omega)
    simp [execOp, hρ _ _ hx, hρ _ _ hy, eqGuard, binOp, Op.intArith, e])
theorem y_sub_i {x y : Operand} {t t' : TypeId} {a b : Int} (hx : ev F x = some (vI a)) (hy : ev F y = some (vI b)) (h0 : -9223372036854775808 ≤ a - b) (h : a - b < 9223372036854775808) : Zv P w F (.binOp .sub t x y t') T (vI (a - b)) w :=
  fun dst pos af gd ρ hρ => .inl (by simp [execOp, hρ _ _ hx, hρ _ _ hy, eqGuard, binOp, Op.intArith, wrap_i64 _ h0 h])
theorem y_mul_i {x y : Operand} {t t' : TypeId} {a b : Int} (hx : ev F x = some (vI a)) (hy : ev F y = some (vI b)) (h0 : -9223372036854775808 ≤ a * b) (h : a * b < 9223372036854775808) : Zv P w F (.binOp .mul t x y t') T (vI (a * b)) w :=
  fun dst pos af gd ρ hρ => .inl (by simp [execOp, hρ _ _ hx, hρ _ _ hy, eqGuard, binOp, Op.intArith, wrap_i64 _ h0 h])
theorem y_quo_i {x y : Operand} {t t' : TypeId} {a b : Nat} (hx : ev F x = some (vI a)) (hy : ev F y = some (vI b)) (hb : 0 < b) (h : a < 9223372036854775808) : Zv P w F (.binOp .quo t x y t') T (vI ((a / b : Nat) : Int)) w :=
  fun dst pos af gd ρ hρ => .inl (by
    have hb' : ¬ (b : Int) = 0 := by omega
    have hle : a / b ≤ a := Nat.div_le_self _ _
    have e0 : (a : Int).tdiv (b : Int) = ((a / b : Nat) : Int) := by simp
    have e := wrap_i64 (((a / b : Nat) : Int)) (by have := Int.natCast_nonneg (a / b); omega) (by have := Int.ofNat_le.2 hle; omega)
    simp only [execOp, hρ _ _ hx, hρ _ _ hy, eqGuard, binOp, Op.intDiv, vI]
    simp only [if_neg hb', e0, e]
    simp)
theorem y_rem_i {x y : Operand} {t t' : TypeId} {a b : Nat} (hx : ev F x = some (vI a)) (hy : ev F y = some (vI b)) (hb : 0 < b) : Zv P w F (.binOp .rem t x y t') T (vI ((a % b : Nat) : Int)) w :=
  fun dst pos af gd ρ hρ => .inl (by
    have hb' : ¬ (b : Int) = 0 := by omega
    have e0 : (a : Int).tmod (b : Int) = ((a % b : Nat) : Int) := (Int.tmod_eq_emod_of_nonneg (by omega)).trans (by simp)
    simp only [execOp, hρ _ _ hx, hρ _ _ hy, eqGuard, binOp, Op.intDiv, vI]
    simp only [if_neg hb', e0]
    simp)

theorem ofInt64 (a : Nat) : BitVec.ofInt 64 (a : Int) = BitVec.ofNat 64 a := by simp
theorem and_lt64 {a : Nat} (b : Nat) (h : a < 18446744073709551616) : a &&& b < 18446744073709551616 := Nat.lt_of_le_of_lt Nat.and_le_left h
theorem or_lt64 {a b : Nat} (h : a < 18446744073709551616) (h2 : b < 18446744073709551616) : a ||| b < 18446744073709551616 := Nat.or_lt_two_pow (n := 64) h h2
theorem xor_lt64 {a b : Nat} (h : a < 18446744073709551616) (h2 : b < 18446744073709551616) : a ^^^ b < 18446744073709551616 := Nat.xor_lt_two_pow (n := 64) h h2
theorem nt_lt {a : Nat} (h : a < 18446744073709551616) : nt a < 18446744073709551616 := xor_lt64 h (by decide)
theorem shl_lt64 (a k : Nat) : (a <<< k) % 18446744073709551616 < 18446744073709551616 := Nat.mod_lt _ (by decide)
theorem shr_lt64 {a : Nat} (k : Nat) (h : a < 18446744073709551616) : a >>> k < 18446744073709551616 := Nat.lt_of_le_of_lt (Nat.shiftRight_le _ _) h

theorem y_and {x y : Operand} {t t' : TypeId} {a b : Nat} (hx : ev F x = some (vU a)) (hy : ev F y = some (vU b)) (h : a < 18446744073709551616) (h2 : b < 18446744073709551616) : Zv P w F (.binOp .and t x y t') T (vU (a &&& b)) w :=
  fun dst pos af gd ρ hρ => .inl (by
    have e : (BitVec.ofInt IntKind.u64.bits (a : Int) &&& BitVec.ofInt IntKind.u64.bits (b : Int)).toNat = a &&& b := by
      show (BitVec.ofInt 64 (a : Int) &&& BitVec.ofInt 64 (b : Int)).toNat = _
      rw [ofInt64, ofInt64, BitVec.toNat_and, BitVec.toNat_ofNat, BitVec.toNat_ofNat, Nat.mod_eq_of_lt h, Nat.mod_eq_of_lt h2]
    have e2 := wrap_u64 ((a &&& b : Nat) : Int) (by omega) (by have := and_lt64 b h; omega)
    simp only [execOp, hρ _ _ hx, hρ _ _ hy, eqGuard, binOp, Op.intBits, vU]
    simp only [e, e2]
    simp)
theorem y_or {x y : Operand} {t t' : TypeId} {a b : Nat} (hx : ev F x = some (vU a)) (hy : ev F y = some (vU b)) (h : a < 18446744073709551616) (h2 : b < 18446744073709551616) : Zv P w F (.binOp .or t x y t') T (vU (a ||| b)) w :=
  fun dst pos af gd ρ hρ => .inl (by
    have e : (BitVec.ofInt IntKind.u64.bits (a : Int) ||| BitVec.ofInt IntKind.u64.bits (b : Int)).toNat = a ||| b := by
      show (BitVec.ofInt 64 (a : Int) ||| BitVec.ofInt 64 (b : Int)).toNat = _
      rw [ofInt64, ofInt64, BitVec.toNat_or, BitVec.toNat_ofNat, BitVec.toNat_ofNat, Nat.mod_eq_of_lt h, Nat.mod_eq_of_lt h2]
    have e2 := wrap_u64 ((a ||| b : Nat) : Int) (by omega) (by have := or_lt64 h h2; omega)
    simp only [execOp, hρ _ _ hx, hρ _ _ hy, eqGuard, binOp, Op.intBits, vU]
    simp only [e, e2]
    simp)
theorem y_xor {x y : Operand} {t t' : TypeId} {a b : Nat} (hx : ev F x = some (vU a)) (hy : ev F y = some (vU b)) (h : a < 18446744073709551616) (h2 : b < 18446744073709551616) : Zv P w F (.binOp .xor t x y t') T (vU (a ^^^ b)) w :=
  fun dst pos af gd ρ hρ => .inl (by
    have e : (BitVec.ofInt IntKind.u64.bits (a : Int) ^^^ BitVec.ofInt IntKind.u64.bits (b : Int)).toNat = a ^^^ b := by
      show (BitVec.ofInt 64 (a : Int) ^^^ BitVec.ofInt 64 (b : Int)).toNat = _
      rw [ofInt64, ofInt64, BitVec.toNat_xor, BitVec.toNat_ofNat, BitVec.toNat_ofNat, Nat.mod_eq_of_lt h, Nat.mod_eq_of_lt h2]
    have e2 := wrap_u64 ((a ^^^ b : Nat) : Int) (by omega) (by have := xor_lt64 h h2; omega)
    simp only [execOp, hρ _ _ hx, hρ _ _ hy, eqGuard, binOp, Op.intBits, vU]
    simp only [e, e2]
    simp)
theorem not_toNat {b : Nat} (h : b < 18446744073709551616) : (~~~ (BitVec.ofNat 64 b)).toNat = nt b := by
  unfold nt
  rw [BitVec.toNat_not, BitVec.toNat_ofNat, Nat.mod_eq_of_lt h]
  apply Nat.eq_of_testBit_eq
  intro i
  rw [show (2 ^ 64 - 1 - b) = 2 ^ 64 - (b + 1) by omega, Nat.testBit_two_pow_sub_succ (by simpa using h), Nat.testBit_xor, show (18446744073709551615 : Nat) = 2 ^ 64 - 1 by decide, Nat.testBit_two_pow_sub_one]
  by_cases hi : i < 64
  · simp [hi]
  · have : b.testBit i = false := Nat.testBit_lt_two_pow (Nat.lt_of_lt_of_le h (by simpa using Nat.pow_le_pow_right (n := 2) (by decide) (show 64 ≤ i by omega)))
    simp [hi, this]
theorem y_andNot {x y : Operand} {t t' : TypeId} {a b : Nat} (hx : ev F x = some (vU a)) (hy : ev F y = some (vU b)) (h : a < 18446744073709551616) (h2 : b < 18446744073709551616) : Zv P w F (.binOp .andNot t x y t') T (vU (a &&& nt b)) w :=
  fun dst pos af gd ρ hρ => .inl (by
    have e : (BitVec.ofInt IntKind.u64.bits (a : Int) &&& ~~~ BitVec.ofInt IntKind.u64.bits (b : Int)).toNat = a &&& nt b := by
      show (BitVec.ofInt 64 (a : Int) &&& ~~~ BitVec.ofInt 64 (b : Int)).toNat = _
      rw [ofInt64, ofInt64, BitVec.toNat_and, not_toNat h2, BitVec.toNat_ofNat, Nat.mod_eq_of_lt h]
    have e2 := wrap_u64 ((a &&& nt b : Nat) : Int) (by omega) (by have := and_lt64 (nt b) h; omega)
    simp only [execOp, hρ _ _ hx, hρ _ _ hy, eqGuard, binOp, Op.intBits, vU]
    simp only [e, e2]
    simp)
theorem y_compl {x : Operand} {t : TypeId} {a : Nat} (hx : ev F x = some (vU a)) (h : a < 18446744073709551616) : Zv P w F (.unOp .xor t x) T (vU (nt a)) w :=
  fun dst pos af gd ρ hρ => .inl (by
    have e : (BitVec.ofInt IntKind.u64.bits (if IntKind.u64.signed then -1 else IntKind.u64.max) ^^^ BitVec.ofInt IntKind.u64.bits (a : Int)).toNat = nt a := by
      show (BitVec.ofInt 64 18446744073709551615 ^^^ BitVec.ofInt 64 (a : Int)).toNat = _
      rw [ofInt64, BitVec.toNat_xor, BitVec.toNat_ofNat, Nat.mod_eq_of_lt h, Nat.xor_comm]
      rfl
    have e2 := wrap_u64 ((nt a : Nat) : Int) (by omega) (by have := nt_lt h; omega)
    simp only [execOp, hρ _ _ hx, Op.unary, Op.intBits, vU]
    simp only [e, e2]
    simp)
/-- the wrapping negative of an unsigned number -/
theorem y_neg_u {x : Operand} {t : TypeId} {a : Nat} (hx : ev F x = some (vU a)) (h : a < 18446744073709551616) : Zv P w F (.unOp .neg t x) T (vU ((18446744073709551616 - a) % 18446744073709551616)) w :=
  fun dst pos af gd ρ hρ => .inl (by
    have e : IntKind.u64.wrap (0 - (a : Int)) = ((((18446744073709551616 - a) % 18446744073709551616) : Nat) : Int) := by rw [IntKind.wrap_u64]; omega
    simp only [execOp, hρ _ _ hx, Op.unary, Op.intArith, vU, e]
    simp)

theorem shl_val (a k : Nat) : IntKind.u64.wrap ((a : Int) * 2 ^ min k 64) = (((a <<< k) % 18446744073709551616 : Nat) : Int) := by
  rw [IntKind.wrap_u64]
  have e0 : ((a : Int) * 2 ^ min k 64) = ((a * 2 ^ min k 64 : Nat) : Int) := by simp
  rw [e0]
  have e1 : (a * 2 ^ min k 64) % 18446744073709551616 = (a <<< k) % 18446744073709551616 := by
    rw [Nat.shiftLeft_eq]
    rcases Nat.le_total k 64 with h | h
    · rw [Nat.min_eq_left h]
    · rw [Nat.min_eq_right h]
      obtain ⟨j, rfl⟩ : ∃ j, k = 64 + j := ⟨k - 64, by omega⟩
      rw [Nat.pow_add]
      have : (2 : Nat) ^ 64 = 18446744073709551616 := by decide
      rw [this, Nat.mul_comm 18446744073709551616 (2 ^ j), ← Nat.mul_assoc, Nat.mul_mod_left, Nat.mul_mod_left]
  rw [← e1]
  omega
theorem shr_val {a : Nat} (k : Nat) (h : a < 18446744073709551616) : Int.fdiv (a : Int) (2 ^ min k 64) = ((a >>> k : Nat) : Int) := by
  have e0 : ((2 : Int) ^ min k 64) = ((2 ^ min k 64 : Nat) : Int) := by simp
  rw [e0, Int.fdiv_eq_ediv_of_nonneg _ (Int.natCast_nonneg _)]
  have e1 : a / 2 ^ min k 64 = a >>> k := by
    rw [Nat.shiftRight_eq_div_pow]
    rcases Nat.le_total k 64 with h' | h'
    · rw [Nat.min_eq_left h']
    · rw [Nat.min_eq_right h', Nat.div_eq_of_lt (by simpa using h), Nat.div_eq_of_lt (Nat.lt_of_lt_of_le h (by simpa using Nat.pow_le_pow_right (n := 2) (by decide) h'))]
  rw [← e1]
  simp
theorem y_shl {x y : Operand} {t t' : TypeId} {k' : IntKind} {a k : Nat} (hx : ev F x = some (vU a)) (hy : ev F y = some (.int k' (k : Int))) : Zv P w F (.binOp .shl t x y t') T (vU ((a <<< k) % 18446744073709551616)) w :=
  fun dst pos af gd ρ hρ => .inl (by
    have h0 : ¬ ((k : Int) < 0) := by omega
    have e := shl_val a k
    simp only [execOp, hρ _ _ hx, hρ _ _ hy, eqGuard, binOp, Op.shift, if_neg h0, Int.toNat_natCast, vU]
    have hb : IntKind.u64.bits = 64 := rfl
    rw [hb, e]
    simp)
theorem y_shr {x y : Operand} {t t' : TypeId} {k' : IntKind} {a k : Nat} (hx : ev F x = some (vU a)) (hy : ev F y = some (.int k' (k : Int))) (h : a < 18446744073709551616) : Zv P w F (.binOp .shr t x y t') T (vU (a >>> k)) w :=
  fun dst pos af gd ρ hρ => .inl (by
    have h0 : ¬ ((k : Int) < 0) := by omega
    have e := shr_val k h
    simp only [execOp, hρ _ _ hx, hρ _ _ hy, eqGuard, binOp, Op.shift, if_neg h0, Int.toNat_natCast, vU]
    have hb : IntKind.u64.bits = 64 := rfl
    rw [hb, e]
    simp)
/-- shifts of an int that is not negative, by a small count -/
theorem y_shr_i {x y : Operand} {t t' : TypeId} {k' : IntKind} {a k : Nat} (hx : ev F x = some (vI a)) (hy : ev F y = some (.int k' (k : Int))) (hk : k ≤ 64) : Zv P w F (.binOp .shr t x y t') T (vI ((a / 2 ^ k : Nat) : Int)) w :=
  fun dst pos af gd ρ hρ => .inl (by
    have h0 : ¬ ((k : Int) < 0) := by omega
    have e : Int.fdiv (a : Int) (2 ^ min k 64) = ((a / 2 ^ k : Nat) : Int) := by
      rw [Nat.min_eq_left hk]
      have e0 : ((2 : Int) ^ k) = ((2 ^ k : Nat) : Int) := by simp
      rw [e0, Int.fdiv_eq_ediv_of_nonneg _ (Int.natCast_nonneg _)]
      simp
    simp only [execOp, hρ _ _ hx, hρ _ _ hy, eqGuard, binOp, Op.shift, if_neg h0, Int.toNat_natCast, vI]
    have hb : IntKind.i64.bits = 64 := rfl
    rw [hb, e]
    simp)
theorem y_shl_i {x y : Operand} {t t' : TypeId} {k' : IntKind} {a : Int} {k : Nat} (hx : ev F x = some (vI a)) (hy : ev F y = some (.int k' (k : Int))) (hk : k ≤ 64) (h0 : -9223372036854775808 ≤ a * 2 ^ k) (h : a * 2 ^ k < 9223372036854775808) : Zv P w F (.binOp .shl t x y t') T (vI (a * 2 ^ k)) w :=
  fun dst pos af gd ρ hρ => .inl (by
    have hn : ¬ ((k : Int) < 0) := by omega
    simp only [execOp, hρ _ _ hx, hρ _ _ hy, eqGuard, binOp, Op.shift, if_neg hn, Int.toNat_natCast, vI]
    have hb : IntKind.i64.bits = 64 := rfl
    rw [hb, Nat.min_eq_left hk, wrap_i64 _ h0 h]
    simp)

/-! tests -/
theorem y_lt_u {x y : Operand} {t t' : TypeId} {a b : Nat} (hx : ev F x = some (vU a)) (hy : ev F y = some (vU b)) : Zv P w F (.binOp .lss t x y t') T (.bool (decide (a < b))) w :=
  fun dst pos af gd ρ hρ => .inl (by simp [execOp, hρ _ _ hx, hρ _ _ hy, eqGuard, binOp, Op.intCmp])
theorem y_le_u {x y : Operand} {t t' : TypeId} {a b : Nat} (hx : ev F x = some (vU a)) (hy : ev F y = some (vU b)) : Zv P w F (.binOp .leq t x y t') T (.bool (decide (a ≤ b))) w :=
  fun dst pos af gd ρ hρ => .inl (by simp [execOp, hρ _ _ hx, hρ _ _ hy, eqGuard, binOp, Op.intCmp])
theorem y_gt_u {x y : Operand} {t t' : TypeId} {a b : Nat} (hx : ev F x = some (vU a)) (hy : ev F y = some (vU b)) : Zv P w F (.binOp .gtr t x y t') T (.bool (decide (b < a))) w :=
  fun dst pos af gd ρ hρ => .inl (by simp [execOp, hρ _ _ hx, hρ _ _ hy, eqGuard, binOp, Op.intCmp])
theorem y_ge_u {x y : Operand} {t t' : TypeId} {a b : Nat} (hx : ev F x = some (vU a)) (hy : ev F y = some (vU b)) : Zv P w F (.binOp .geq t x y t') T (.bool (decide (b ≤ a))) w :=
  fun dst pos af gd ρ hρ => .inl (by simp [execOp, hρ _ _ hx, hρ _ _ hy, eqGuard, binOp, Op.intCmp])
theorem beqInt (a b : Int) : (a == b) = decide (a = b) := by
  by_cases h : a = b <;> simp [h]
theorem bneInt (a b : Int) : (a != b) = decide (a ≠ b) := by
  by_cases h : a = b <;> simp [h]
theorem y_eq_u {x y : Operand} {t t' : TypeId} {a b : Nat} (hx : ev F x = some (vU a)) (hy : ev F y = some (vU b)) : Zv P w F (.binOp .eql t x y t') T (.bool (decide (a = b))) w :=
  fun dst pos af gd ρ hρ => .inl (by
    have e : ((a : Int) == (b : Int)) = decide (a = b) := by rw [beqInt]; exact decide_eq_decide.2 Int.ofNat_inj
    simp [execOp, hρ _ _ hx, hρ _ _ hy, eqGuard, binOp, Op.intCmp, e])
theorem y_ne_u {x y : Operand} {t t' : TypeId} {a b : Nat} (hx : ev F x = some (vU a)) (hy : ev F y = some (vU b)) : Zv P w F (.binOp .neq t x y t') T (.bool (decide (a ≠ b))) w :=
  fun dst pos af gd ρ hρ => .inl (by
    have e : ((a : Int) != (b : Int)) = decide (a ≠ b) := by rw [bneInt]; exact decide_eq_decide.2 (not_congr Int.ofNat_inj)
    simp [execOp, hρ _ _ hx, hρ _ _ hy, eqGuard, binOp, Op.intCmp, e])
theorem y_lt_i {x y : Operand} {t t' : TypeId} {a b : Int} (hx : ev F x = some (vI a)) (hy : ev F y = some (vI b)) : Zv P w F (.binOp .lss t x y t') T (.bool (decide (a < b))) w :=
  fun dst pos af gd ρ hρ => .inl (by simp [execOp, hρ _ _ hx, hρ _ _ hy, eqGuard, binOp, Op.intCmp])
theorem y_le_i {x y : Operand} {t t' : TypeId} {a b : Int} (hx : ev F x = some (vI a)) (hy : ev F y = some (vI b)) : Zv P w F (.binOp .leq t x y t') T (.bool (decide (a ≤ b))) w :=
  fun dst pos af gd ρ hρ => .inl (by simp [execOp, hρ _ _ hx, hρ _ _ hy, eqGuard, binOp, Op.intCmp])
theorem y_gt_i {x y : Operand} {t t' : TypeId} {a b : Int} (hx : ev F x = some (vI a)) (hy : ev F y = some (vI b)) : Zv P w F (.binOp .gtr t x y t') T (.bool (decide (b < a))) w :=
  fun dst pos af gd ρ hρ => .inl (by simp [execOp, hρ _ _ hx, hρ _ _ hy, eqGuard, binOp, Op.intCmp])
theorem y_ge_i {x y : Operand} {t t' : TypeId} {a b : Int} (hx : ev F x = some (vI a)) (hy : ev F y = some (vI b)) : Zv P w F (.binOp .geq t x y t') T (.bool (decide (b ≤ a))) w :=
  fun dst pos af gd ρ hρ => .inl (by simp [execOp, hρ _ _ hx, hρ _ _ hy, eqGuard, binOp, Op.intCmp])
theorem y_eq_i {x y : Operand} {t t' : TypeId} {a b : Int} (hx : ev F x = some (vI a)) (hy : ev F y = some (vI b)) : Zv P w F (.binOp .eql t x y t') T (.bool (decide (a = b))) w :=
  fun dst pos af gd ρ hρ => .inl (by simp [execOp, hρ _ _ hx, hρ _ _ hy, eqGuard, binOp, Op.intCmp, beqInt])
theorem y_ne_i {x y : Operand} {t t' : TypeId} {a b : Int} (hx : ev F x = some (vI a)) (hy : ev F y = some (vI b)) : Zv P w F (.binOp .neq t x y t') T (.bool (decide (a ≠ b))) w :=
  fun dst pos af gd ρ hρ => .inl (by simp [execOp, hρ _ _ hx, hρ _ _ hy, eqGuard, binOp, Op.intCmp, bneInt])

/-! from one kind to another -/
theorem y_conv {x : Operand} {s t : TypeId} {k k' : IntKind} {z : Int} (hx : ev F x = some (.int k z)) (hs : (P.underlying s).isSome = true) (ht : P.underlying t = some (.int k')) : Zv P w F (.convert s t x) T (.int k' (k'.wrap z)) w :=
  fun dst pos af gd ρ hρ => .inl (by
    obtain ⟨d, hd⟩ := Option.isSome_iff_exists.1 hs
    simp [execOp, hρ _ _ hx, convert, run_underlying ht, run_underlying hd, Conv.intToInt])
theorem y_conv_ui {x : Operand} {s t : TypeId} {m : Nat} (hx : ev F x = some (vU m)) (hs : (P.underlying s).isSome = true) (ht : P.underlying t = some (.int .i64)) (h : m < 9223372036854775808) : Zv P w F (.convert s t x) T (vI m) w := by
  have := y_conv (T := T) (w := w) hx hs ht
  rwa [wrap_i64 _ (by omega) (by omega)] at this
theorem y_conv_iu {x : Operand} {s t : TypeId} {z : Int} {m : Nat} (hx : ev F x = some (vI z)) (hs : (P.underlying s).isSome = true) (ht : P.underlying t = some (.int .u64)) (hz : z = (m : Int)) (h : m < 18446744073709551616) : Zv P w F (.convert s t x) T (vU m) w := by
  have := y_conv (T := T) (w := w) hx hs ht
  subst hz
  rwa [wrap_u64 _ (by omega) (by omega)] at this
theorem y_conv_uu {x : Operand} {s t : TypeId} {m : Nat} (hx : ev F x = some (vU m)) (hs : (P.underlying s).isSome = true) (ht : P.underlying t = some (.int .u64)) (h : m < 18446744073709551616) : Zv P w F (.convert s t x) T (vU m) w := by
  have := y_conv (T := T) (w := w) hx hs ht
  rwa [wrap_u64 _ (by omega) (by omega)] at this
theorem y_conv_ii {x : Operand} {s t : TypeId} {z : Int} (hx : ev F x = some (vI z)) (hs : (P.underlying s).isSome = true) (ht : P.underlying t = some (.int .i64)) (h0 : -9223372036854775808 ≤ z) (h : z < 9223372036854775808) : Zv P w F (.convert s t x) T (vI z) w := by
  have := y_conv (T := T) (w := w) hx hs ht
  rwa [wrap_i64 _ h0 h] at this
theorem y_conv_u8 {x : Operand} {s t : TypeId} {m : Nat} (hx : ev F x = some (vU m)) (hs : (P.underlying s).isSome = true) (ht : P.underlying t = some (.int .u8)) : Zv P w F (.convert s t x) T (v8 (m % 256)) w := by
  have := y_conv (T := T) (w := w) hx hs ht
  have e : IntKind.u8.wrap (m : Int) = ((m % 256 : Nat) : Int) := by rw [IntKind.wrap_u8]; omega
  rwa [e] at this
theorem y_conv_8u {x : Operand} {s t : TypeId} {m : Nat} (hx : ev F x = some (v8 m)) (hs : (P.underlying s).isSome = true) (ht : P.underlying t = some (.int .u64)) (h : m < 256) : Zv P w F (.convert s t x) T (vU m) w := by
  have := y_conv (T := T) (w := w) hx hs ht
  rwa [wrap_u64 _ (by omega) (by omega)] at this
theorem y_conv_8i {x : Operand} {s t : TypeId} {m : Nat} (hx : ev F x = some (v8 m)) (hs : (P.underlying s).isSome = true) (ht : P.underlying t = some (.int .i64)) (h : m < 256) : Zv P w F (.convert s t x) T (vI m) w := by
  have := y_conv (T := T) (w := w) hx hs ht
  rwa [wrap_i64 _ (by omega) (by omega)] at this

end ops

section cmp
variable {P : Program} {ops : Array Oper} {Q : Exit → Act → World → Prop} {n : Nat} {D : List Deferred} {F : Fr} {rest : List Oper} {w : World} {op : Op} {T : TypeId} {pos : String} {af : Array Edge} {p : Prop} [Decidable p] {d : Nat}
/-- a test: the walk parts -/
theorem st_if (h : Zv P w F op T (.bool (decide p)) w) (hd : Nat.blt d n = true) (ht : p → wpL P ops Q n D ((d, .bool true) :: F) rest w) (hf : ¬ p → wpL P ops Q n D ((d, .bool false) :: F) rest w) : wpL P ops Q n D F (⟨some d, op, T, pos, af, none⟩ :: rest) w := by
  by_cases hp : p
  · exact st (v := .bool true) (by simpa [hp] using h) hd (ht hp)
  · exact st (v := .bool false) (by simpa [hp] using h) hd (hf hp)
theorem st_t (h : Zv P w F op T (.bool (decide p)) w) (hp : p) (hd : Nat.blt d n = true) (ht : wpL P ops Q n D ((d, .bool true) :: F) rest w) : wpL P ops Q n D F (⟨some d, op, T, pos, af, none⟩ :: rest) w :=
  st (v := .bool true) (by simpa [hp] using h) hd ht
theorem st_f (h : Zv P w F op T (.bool (decide p)) w) (hp : ¬ p) (hd : Nat.blt d n = true) (ht : wpL P ops Q n D ((d, .bool false) :: F) rest w) : wpL P ops Q n D F (⟨some d, op, T, pos, af, none⟩ :: rest) w :=
  st (v := .bool false) (by simpa [hp] using h) hd ht
theorem stg_if {j t : Nat} {b : Bool} (hj : ((ops[j]?).bind (·.dst)) = some t) (hg : fget F t = some (.bool b)) (h : Zv P w F op T (.bool (decide p)) w) (hd : Nat.blt d n = true) (ht : p → wpL P ops Q n D ((d, .bool true) :: F) rest w) (hf : ¬ p → wpL P ops Q n D ((d, .bool false) :: F) rest w) : wpL P ops Q n D F (⟨some d, op, T, pos, af, some (j, b)⟩ :: rest) w := by
  by_cases hp : p
  · exact stg (v := .bool true) hj hg (by simpa [hp] using h) hd (ht hp)
  · exact stg (v := .bool false) hj hg (by simpa [hp] using h) hd (hf hp)
theorem stg_t {j t : Nat} {b : Bool} (hj : ((ops[j]?).bind (·.dst)) = some t) (hg : fget F t = some (.bool b)) (h : Zv P w F op T (.bool (decide p)) w) (hp : p) (hd : Nat.blt d n = true) (ht : wpL P ops Q n D ((d, .bool true) :: F) rest w) : wpL P ops Q n D F (⟨some d, op, T, pos, af, some (j, b)⟩ :: rest) w :=
  stg (v := .bool true) hj hg (by simpa [hp] using h) hd ht
theorem stg_f {j t : Nat} {b : Bool} (hj : ((ops[j]?).bind (·.dst)) = some t) (hg : fget F t = some (.bool b)) (h : Zv P w F op T (.bool (decide p)) w) (hp : ¬ p) (hd : Nat.blt d n = true) (ht : wpL P ops Q n D ((d, .bool false) :: F) rest w) : wpL P ops Q n D F (⟨some d, op, T, pos, af, some (j, b)⟩ :: rest) w :=
  stg (v := .bool false) hj hg (by simpa [hp] using h) hd ht
theorem ss_if {K : Act → Prop} (h : Zv P w F op T (.bool (decide p)) w) (hd : Nat.blt d n = true) (ht : p → wpS P ops w K n D ((d, .bool true) :: F) rest) (hf : ¬ p → wpS P ops w K n D ((d, .bool false) :: F) rest) : wpS P ops w K n D F (⟨some d, op, T, pos, af, none⟩ :: rest) := by
  by_cases hp : p
  · exact ss (v := .bool true) (by simpa [hp] using h) hd (ht hp)
  · exact ss (v := .bool false) (by simpa [hp] using h) hd (hf hp)
theorem ss_t {K : Act → Prop} (h : Zv P w F op T (.bool (decide p)) w) (hp : p) (hd : Nat.blt d n = true) (ht : wpS P ops w K n D ((d, .bool true) :: F) rest) : wpS P ops w K n D F (⟨some d, op, T, pos, af, none⟩ :: rest) :=
  ss (v := .bool true) (by simpa [hp] using h) hd ht
theorem ss_f {K : Act → Prop} (h : Zv P w F op T (.bool (decide p)) w) (hp : ¬ p) (hd : Nat.blt d n = true) (ht : wpS P ops w K n D ((d, .bool false) :: F) rest) : wpS P ops w K n D F (⟨some d, op, T, pos, af, none⟩ :: rest) :=
  ss (v := .bool false) (by simpa [hp] using h) hd ht
end cmp
end Go.Proofs.YtbahhdeblppooaaDoor

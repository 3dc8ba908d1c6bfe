/- Bytes as numbers, and strings that are indexed: one operation each; no statement of the program is proved here. -/
import Derived.Test.YtlhbbndedbacpaaK9
set_option linter.unusedVariables false
set_option linter.unusedSimpArgs false
namespace Go.Proofs.Ytlhbbndedbacpaa
open Go
section
variable {P : Program} {F : Fr} {w : World} {T : TypeId}
theorem wrap_u8n (m : Nat) (h : m < 256) : IntKind.u8.wrap (m : Int) = (m : Int) := by rw [IntKind.wrap_u8]; omega
theorem ofInt8 (a : Nat) : BitVec.ofInt 8 (a : Int) = BitVec.ofNat 8 a := by simp
theorem and_lt8 {a : Nat} (b : Nat) (h : a < 256) : a &&& b < 256 := Nat.lt_of_le_of_lt Nat.and_le_left h
theorem or_lt8 {a b : Nat} (h : a < 256) (h2 : b < 256) : a ||| b < 256 := Nat.or_lt_two_pow (n := 8) h h2
theorem y_and_8 {x y : Operand} {t t' : TypeId} {a b : Nat} (hx : ev F x = some (v8 a)) (hy : ev F y = some (v8 b)) (h : a < 256) (h2 : b < 256) : Zv P w F (.binOp .and t x y t') T (v8 (a &&& b)) w :=
  fun dst pos af gd ρ hρ => .inl (by
    have e : (BitVec.ofInt IntKind.u8.bits (a : Int) &&& BitVec.ofInt IntKind.u8.bits (b : Int)).toNat = a &&& b := by
      show (BitVec.ofInt 8 (a : Int) &&& BitVec.ofInt 8 (b : Int)).toNat = _
      rw [ofInt8, ofInt8, BitVec.toNat_and, BitVec.toNat_ofNat, BitVec.toNat_ofNat, Nat.mod_eq_of_lt h, Nat.mod_eq_of_lt h2]
    have e2 := wrap_u8n (a &&& b) (and_lt8 b h)
    simp only [execOp, hρ _ _ hx, hρ _ _ hy, eqGuard, binOp, Op.intBits, v8]
    simp only [e, e2]
    simp)
theorem y_or_8 {x y : Operand} {t t' : TypeId} {a b : Nat} (hx : ev F x = some (v8 a)) (hy : ev F y = some (v8 b)) (h : a < 256) (h2 : b < 256) : Zv P w F (.binOp .or t x y t') T (v8 (a ||| b)) w :=
  fun dst pos af gd ρ hρ => .inl (by
    have e : (BitVec.ofInt IntKind.u8.bits (a : Int) ||| BitVec.ofInt IntKind.u8.bits (b : Int)).toNat = a ||| b := by
      show (BitVec.ofInt 8 (a : Int) ||| BitVec.ofInt 8 (b : Int)).toNat = _
      rw [ofInt8, ofInt8, BitVec.toNat_or, BitVec.toNat_ofNat, BitVec.toNat_ofNat, Nat.mod_eq_of_lt h, Nat.mod_eq_of_lt h2]
    have e2 := wrap_u8n (a ||| b) (or_lt8 h h2)
    simp only [execOp, hρ _ _ hx, hρ _ _ hy, eqGuard, binOp, Op.intBits, v8]
    simp only [e, e2]
    simp)
theorem y_add_8 {x y : Operand} {t t' : TypeId} {a b : Nat} (hx : ev F x = some (v8 a)) (hy : ev F y = some (v8 b)) (h : a + b < 256) : Zv P w F (.binOp .add t x y t') T (v8 (a + b)) w :=
  fun dst pos af gd ρ hρ => .inl (by
    have e := wrap_u8n (a + b) h
    simp only [Int.natCast_add] at e
    simp [execOp, hρ _ _ hx, hρ _ _ hy, eqGuard, binOp, Op.intArith, e])
theorem shl_val8 (a k : Nat) : IntKind.u8.wrap ((a : Int) * 2 ^ min k 8) = (((a <<< k) % 256 : Nat) : Int) := by
  rw [IntKind.wrap_u8]
  have e0 : ((a : Int) * 2 ^ min k 8) = ((a * 2 ^ min k 8 : Nat) : Int) := by simp
  rw [e0]
  have e1 : (a * 2 ^ min k 8) % 256 = (a <<< k) % 256 := by
    rw [Nat.shiftLeft_eq]
    rcases Nat.le_total k 8 with h | h
    · rw [Nat.min_eq_left h]
    · rw [Nat.min_eq_right h]
      obtain ⟨j, rfl⟩ : ∃ j, k = 8 + j := ⟨k - 8, by omega⟩
      rw [Nat.pow_add]
      have : (2 : Nat) ^ 8 = 256 := by decide
      rw [this, Nat.mul_comm 256 (2 ^ j), ← Nat.mul_assoc, Nat.mul_mod_left, Nat.mul_mod_left]
  rw [← e1]
  omega
theorem y_shl_8 {x y : Operand} {t t' : TypeId} {k' : IntKind} {a k : Nat} (hx : ev F x = some (v8 a)) (hy : ev F y = some (.int k' (k : Int))) : Zv P w F (.binOp .shl t x y t') T (v8 ((a <<< k) % 256)) w :=
  fun dst pos af gd ρ hρ => .inl (by
    have h0 : ¬ ((k : Int) < 0) := by omega
    have e := shl_val8 a k
    simp only [execOp, hρ _ _ hx, hρ _ _ hy, eqGuard, binOp, Op.shift, if_neg h0, Int.toNat_natCast, v8]
    have hb : IntKind.u8.bits = 8 := rfl
    rw [hb, e]
    simp)
theorem y_lt_8 {x y : Operand} {t t' : TypeId} {a b : Nat} (hx : ev F x = some (v8 a)) (hy : ev F y = some (v8 b)) : Zv P w F (.binOp .lss t x y t') T (.bool (decide (a < b))) w :=
  fun dst pos af gd ρ hρ => .inl (by simp [execOp, hρ _ _ hx, hρ _ _ hy, eqGuard, binOp, Op.intCmp])
theorem y_eq_8 {x y : Operand} {t t' : TypeId} {a b : Nat} (hx : ev F x = some (v8 a)) (hy : ev F y = some (v8 b)) : Zv P w F (.binOp .eql t x y t') T (.bool (decide (a = b))) w :=
  fun dst pos af gd ρ hρ => .inl (by
    have e : ((a : Int) == (b : Int)) = decide (a = b) := by rw [beqInt]; exact decide_eq_decide.2 Int.ofNat_inj
    simp [execOp, hρ _ _ hx, hρ _ _ hy, eqGuard, binOp, Op.intCmp, e])
theorem y_ne_8 {x y : Operand} {t t' : TypeId} {a b : Nat} (hx : ev F x = some (v8 a)) (hy : ev F y = some (v8 b)) : Zv P w F (.binOp .neq t x y t') T (.bool (decide (a ≠ b))) w :=
  fun dst pos af gd ρ hρ => .inl (by
    have e : ((a : Int) != (b : Int)) = decide (a ≠ b) := by rw [bneInt]; exact decide_eq_decide.2 (not_congr Int.ofNat_inj)
    simp [execOp, hρ _ _ hx, hρ _ _ hy, eqGuard, binOp, Op.intCmp, e])
theorem y_conv_i8 {x : Operand} {s t : TypeId} {m : Nat} (hx : ev F x = some (vI (m : Nat))) (hs : (P.underlying s).isSome = true) (ht : P.underlying t = some (.int .u8)) (h : m < 256) : Zv P w F (.convert s t x) T (v8 m) w := by
  have := y_conv (T := T) (w := w) hx hs ht
  rwa [wrap_u8n m h] at this
/-- a byte of a string -/
theorem y_indexStr {x y : Operand} {t : TypeId} {k : IntKind} {s : ByteArray} {i : Nat} {b : UInt8} (hx : ev F x = some (.string s)) (hy : ev F y = some (.int k (i : Int))) (ht : P.underlying t = some .string) (hb : s[i]? = some b) : Zv P w F (.index t x y) T (v8 b.toNat) w :=
  fun dst pos af gd ρ hρ => .inl (by
    have h0 : (0 : Int) ≤ (i : Int) := by omega
    simp only [execOp, hρ _ _ hx, hρ _ _ hy, Instr.index, asIntOf, Sem.run_bind, Sem.run_pure, Result.andThen_ok, run_underlying ht, if_pos h0, Int.toNat_natCast, hb])
end
end Go.Proofs.Ytlhbbndedbacpaa

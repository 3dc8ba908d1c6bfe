/- The words of a set into which a place is put, and out of which one is taken: one word at a time. -/
import Derived.Test.YtefhjchhfpjciaaDoorL14
set_option linter.unusedVariables false
set_option linter.unusedSimpArgs false
namespace Go.Proofs.YtefhjchhfpjciaaDoor

/-- a word moved up by one, the top bit of the word before put in: what each number then is -/
theorem up_word {ws : List Nat} {j : Nat} (hw : ∀ x ∈ ws, x < 18446744073709551616) (hj : j < ws.length) (h0 : 0 < j) (x : Nat) :
    wbit ((ws.set j ((ws.getD j 0 <<< 1) % 18446744073709551616)).set j (((ws.getD j 0 <<< 1) % 18446744073709551616) ||| ((ws.getD (j - 1) 0 &&& 9223372036854775808) >>> 63))) x = if x / 64 = j then wbit ws (x - 1) else wbit ws x := by
  rw [List.set_set, wbit_set _ _ _ _ hj]
  by_cases h : x / 64 = j
  · rw [if_pos h, if_pos h, Nat.testBit_or, testBit_shl, top_bit (getD_lt64 hw _)]
    have hb := bit64 x
    by_cases h1 : x % 64 = 0
    · have e1 : (x - 1) / 64 = j - 1 := by omega
      have e2 : (x - 1) % 64 = 63 := by omega
      rw [wbit_of (x - 1), e1, e2]
      simp [h1]
    · have e1 : (x - 1) / 64 = j := by omega
      have e2 : (x - 1) % 64 = x % 64 - 1 := by omega
      have h2 : 1 ≤ x % 64 := by omega
      rw [wbit_of (x - 1), e1, e2]
      simp [h1, hb, h2]
  · rw [if_neg h, if_neg h]
/-- the word into which the place is put -/
theorem ins_word {ws : List Nat} {i : Nat} (hw : ∀ x ∈ ws, x < 18446744073709551616) (hj : i / 64 < ws.length) (x : Nat) :
    wbit (ws.set (i / 64) ((ws.getD (i / 64) 0 &&& ((1 <<< (i % 64)) % 18446744073709551616 - 1)) ||| (((ws.getD (i / 64) 0 &&& nt' ((1 <<< (i % 64)) % 18446744073709551616 - 1)) <<< 1) % 18446744073709551616))) x
      = if x / 64 = i / 64 then (if x < i then wbit ws x else if x = i then false else wbit ws (x - 1)) else wbit ws x := by
  rw [wbit_set _ _ _ _ hj]
  by_cases h : x / 64 = i / 64
  · rw [if_pos h, if_pos h, Nat.testBit_or, Nat.testBit_and, testBit_shl, Nat.testBit_and, nt_testBit, sub_one_low _ (bit64 i), sub_one_low _ (bit64 i)]
    have hb := bit64 x
    by_cases h1 : x < i
    · rw [if_pos h1, wbit_of x, h]
      have e1 : x % 64 < i % 64 := by omega
      have e2 : x % 64 - 1 < i % 64 := by omega
      have e3 : x % 64 - 1 < 64 := by omega
      simp [e1, e2, e3]
    · rw [if_neg h1]
      by_cases h2 : x = i
      · rw [if_pos h2]
        subst h2
        have e3 : x % 64 - 1 < 64 := by omega
        by_cases h3 : 1 ≤ x % 64
        · have e2 : x % 64 - 1 < x % 64 := by omega
          simp [e2, e3]
        · simp [h3]
      · rw [if_neg h2]
        have e0 : ¬ x % 64 < i % 64 := by omega
        have e1 : 1 ≤ x % 64 := by omega
        have e2 : ¬ x % 64 - 1 < i % 64 := by omega
        have e3 : x % 64 - 1 < 64 := by omega
        have e4 : (x - 1) / 64 = i / 64 := by omega
        have e5 : (x - 1) % 64 = x % 64 - 1 := by omega
        rw [wbit_of (x - 1), e4, e5]
        simp [e0, e1, e2, e3, hb]
  · rw [if_neg h, if_neg h]
end Go.Proofs.YtefhjchhfpjciaaDoor

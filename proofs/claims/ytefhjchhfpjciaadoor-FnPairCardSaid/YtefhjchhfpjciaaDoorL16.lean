/- The words of a set out of which a place is taken: one word at a time. -/
import Derived.Test.YtefhjchhfpjciaaDoorL15
set_option linter.unusedVariables false
set_option linter.unusedSimpArgs false
namespace Go.Proofs.YtefhjchhfpjciaaDoor

theorem ntnt_testBit (m : Nat) (k : Nat) (hk : k < 64) : (nt' (nt' m)).testBit k = m.testBit k := by
  rw [nt_testBit, nt_testBit]; simp [hk]
/-- the word out of which the place is taken -/
theorem del_word {ws : List Nat} {i : Nat} (hw : ∀ x ∈ ws, x < 18446744073709551616) (hj : i / 64 < ws.length) (x : Nat) :
    wbit (ws.set (i / 64) ((ws.getD (i / 64) 0 &&& nt' (nt' ((1 <<< (i % 64)) % 18446744073709551616 - 1))) ||| (((ws.getD (i / 64) 0 &&& nt' ((1 <<< (i % 64)) % 18446744073709551616 - 1)) >>> 1) &&& nt' ((1 <<< (i % 64)) % 18446744073709551616 - 1)))) x
      = if x / 64 = i / 64 then (if x < i then wbit ws x else if x % 64 = 63 then false else wbit ws (x + 1)) else wbit ws x := by
  rw [wbit_set _ _ _ _ hj]
  by_cases h : x / 64 = i / 64
  · have hb := bit64 x
    rw [if_pos h, if_pos h, Nat.testBit_or, Nat.testBit_and, ntnt_testBit _ _ hb, Nat.testBit_and, testBit_shr, Nat.testBit_and, nt_testBit, nt_testBit, sub_one_low _ (bit64 i), sub_one_low _ (bit64 i)]
    by_cases h1 : x < i
    · rw [if_pos h1, wbit_of x, h]
      have e1 : x % 64 < i % 64 := by omega
      simp [e1, hb]
    · rw [if_neg h1]
      have e0 : ¬ x % 64 < i % 64 := by omega
      by_cases h2 : x % 64 = 63
      · rw [if_pos h2, h2, testBit_big (getD_lt64 hw _) (show 64 ≤ 1 + 63 by omega)]
        have e3 : ¬ 63 < i % 64 := by omega
        simp [e3]
      · rw [if_neg h2]
        have e4 : (x + 1) / 64 = i / 64 := by omega
        have e5 : (x + 1) % 64 = 1 + x % 64 := by omega
        have e6 : 1 + x % 64 < 64 := by omega
        have e7 : ¬ 1 + x % 64 < i % 64 := by omega
        rw [wbit_of (x + 1), e4, e5]
        simp [e0, e6, e7, hb]
  · rw [if_neg h, if_neg h]
/-- a word moved down by one, its low bit given to the word before -/
theorem down_word {ws : List Nat} {j : Nat} (hw : ∀ x ∈ ws, x < 18446744073709551616) (hj : j < ws.length) (h0 : 0 < j) (x : Nat) :
    wbit ((ws.set (j - 1) (ws.getD (j - 1) 0 ||| ((ws.getD j 0 &&& 1) <<< 63) % 18446744073709551616)).set j (ws.getD j 0 >>> 1)) x
      = if x / 64 = j then (if x % 64 = 63 then false else wbit ws (x + 1)) else if x = 64 * j - 1 then (wbit ws x || wbit ws (64 * j)) else wbit ws x := by
  rw [wbit_set _ _ _ _ (by simpa using hj)]
  have hb := bit64 x
  by_cases h : x / 64 = j
  · rw [if_pos h, if_pos h, testBit_shr]
    by_cases h2 : x % 64 = 63
    · rw [if_pos h2, h2, testBit_big (getD_lt64 hw _) (show 64 ≤ 1 + 63 by omega)]
    · have e4 : (x + 1) / 64 = j := by omega
      have e5 : (x + 1) % 64 = 1 + x % 64 := by omega
      rw [if_neg h2, wbit_of (x + 1), e4, e5]
  · rw [if_neg h, if_neg h, wbit_set _ _ _ _ (by omega)]
    by_cases h3 : x / 64 = j - 1
    · rw [if_pos h3, Nat.testBit_or, low_bit_up]
      by_cases h4 : x = 64 * j - 1
      · have e4 : (64 * j) / 64 = j := by omega
        have e5 : (64 * j) % 64 = 0 := by omega
        have e6 : x % 64 = 63 := by omega
        rw [if_pos h4, wbit_of x, wbit_of (64 * j), e4, e5, h3, e6]
        simp
      · have e6 : ¬ x % 64 = 63 := by omega
        rw [if_neg h4, wbit_of x, h3]
        simp [e6]
    · rw [if_neg h3, if_neg (by omega)]
end Go.Proofs.YtefhjchhfpjciaaDoor

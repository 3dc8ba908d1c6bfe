/- 64 places from one on as a word; plain lemmas, without Go. -/
import Derived.Test.YtbahhdeblppooaaDoorL2
set_option linter.unusedVariables false
set_option linter.unusedSimpArgs false
namespace Go.Proofs.YtbahhdeblppooaaDoor

def wordFrom (s : List Bool) (i : Nat) : Nat := natOf (fun k => s.getD (i + k) false) 64
theorem wordFrom_lt (s : List Bool) (i : Nat) : wordFrom s i < 18446744073709551616 := natOf_lt _ 64
theorem wordFrom_testBit (s : List Bool) (i k : Nat) : (wordFrom s i).testBit k = (decide (k < 64) && s.getD (i + k) false) := natOf_testBit _ 64 k
theorem word_two (s : List Bool) (i : Nat) : (wordAt s (i / 64) >>> (i % 64)) ||| ((wordAt s (i / 64 + 1) <<< (64 - i % 64)) % 18446744073709551616) = wordFrom s i := by
  apply Nat.eq_of_testBit_eq
  intro k
  rw [wordFrom_testBit, Nat.testBit_or, testBit_shr, testBit_shl, wordAt_testBit, wordAt_testBit]
  have hm : i % 64 < 64 := Nat.mod_lt _ (by decide)
  by_cases hk : k < 64
  · by_cases h1 : i % 64 + k < 64
    · rw [show 64 * (i / 64) + (i % 64 + k) = i + k by omega]
      simp [hk, h1, show ¬ 64 - i % 64 ≤ k by omega]
    · rw [show 64 * (i / 64 + 1) + (k - (64 - i % 64)) = i + k by omega]
      simp [hk, h1, show 64 - i % 64 ≤ k by omega, show k - (64 - i % 64) < 64 by omega]
  · simp [hk, show ¬ i % 64 + k < 64 by omega]
theorem wordAt_ge (s : List Bool) (j : Nat) (h : nW s.length ≤ j) : wordAt s j = 0 := by
  rw [← pack_getD, getD_ge _ _ (by rw [pack_length]; exact h)]
theorem natOf_succ_or (f : Nat → Bool) (k : Nat) (hk : k < 64) (hf : f k = true) : natOf f k ||| (1 <<< k) % 18446744073709551616 = natOf f (k + 1) := by
  apply Nat.eq_of_testBit_eq
  intro i
  rw [Nat.testBit_or, natOf_testBit, natOf_testBit, testBit_one_shl _ _ hk]
  by_cases h : i = k
  · subst h; simp [hf]
  · by_cases h2 : i < k
    · simp [h, h2, show i < k + 1 by omega]
    · simp [h, h2, show ¬ i < k + 1 by omega]
theorem natOf_lt64 (f : Nat → Bool) (k : Nat) (hk : k ≤ 64) : natOf f k < 18446744073709551616 := Nat.lt_of_lt_of_le (natOf_lt f k) (by simpa using Nat.pow_le_pow_right (n := 2) (by decide) hk)
end Go.Proofs.YtbahhdeblppooaaDoor

/- A range of numbers turned or put in: by words, and as lists of truths. -/
import Derived.Test.YtbahhdeblppooaaDoorL11
set_option linter.unusedVariables false
set_option linter.unusedSimpArgs false
namespace Go.Proofs.YtbahhdeblppooaaDoor

def tab (n : Nat) (f : Nat → Bool) : List Bool := (List.range n).map f
theorem tab_length (n : Nat) (f : Nat → Bool) : (tab n f).length = n := by simp [tab]
theorem tab_getD (n : Nat) (f : Nat → Bool) (i : Nat) : (tab n f).getD i false = (decide (i < n) && f i) := by
  rcases Nat.lt_or_ge i n with h | h
  · rw [List.getD_eq_getElem?_getD]; simp [tab, h]
  · rw [getD_ge _ _ (by rw [tab_length]; exact h)]; simp [Nat.not_lt.2 h]
def inR (a b i : Nat) : Bool := decide (a ≤ i) && decide (i < b)
def flipR (s : List Bool) (a b : Nat) : List Bool := if a < b then tab (max s.length b) (fun i => s.getD i false ^^ inR a b i) else s
def setR (s : List Bool) (a b : Nat) : List Bool := if a < b then tab (max s.length b) (fun i => s.getD i false || inR a b i) else s
theorem flipR_getD {s : List Bool} {a b : Nat} (h : a < b) (i : Nat) : (flipR s a b).getD i false = (s.getD i false ^^ inR a b i) := by
  unfold flipR
  rw [if_pos h, tab_getD]
  by_cases h1 : i < max s.length b
  · simp [h1]
  · have h2 : ¬ i < b := by omega
    rw [getD_ge s false (by omega)]
    simp [h1, inR, h2]
theorem setR_getD {s : List Bool} {a b : Nat} (h : a < b) (i : Nat) : (setR s a b).getD i false = (s.getD i false || inR a b i) := by
  unfold setR
  rw [if_pos h, tab_getD]
  by_cases h1 : i < max s.length b
  · simp [h1]
  · have h2 : ¬ i < b := by omega
    rw [getD_ge s false (by omega)]
    simp [h1, inR, h2]
theorem flipR_length {s : List Bool} {a b : Nat} (h : a < b) : (flipR s a b).length = max s.length b := by unfold flipR; rw [if_pos h, tab_length]
theorem setR_length {s : List Bool} {a b : Nat} (h : a < b) : (setR s a b).length = max s.length b := by unfold setR; rw [if_pos h, tab_length]
theorem flipR_len (s : List Bool) (a b : Nat) : (flipR s a b).length ≤ max s.length b ∧ s.length ≤ (flipR s a b).length := by
  by_cases h : a < b
  · rw [flipR_length h]; omega
  · unfold flipR; rw [if_neg h]; omega
theorem setR_len (s : List Bool) (a b : Nat) : (setR s a b).length ≤ max s.length b := by
  by_cases h : a < b
  · rw [setR_length h]; omega
  · unfold setR; rw [if_neg h]; omega

/-! one word -/
theorem flip_low {ws : List Nat} {j r : Nat} (hj : j < ws.length) (i : Nat) :
    wbit (ws.set j (ws.getD j 0 ^^^ nt' ((18446744073709551615 <<< r) % 18446744073709551616))) i = (wbit ws i ^^ (decide (i / 64 = j) && decide (i % 64 < r))) := by
  have hb := bit64 i
  rw [wbit_set _ _ _ _ hj]
  by_cases h : i / 64 = j
  · rw [if_pos h, Nat.testBit_xor, nt_testBit, ones_shl, wbit_of, h]
    by_cases h2 : i % 64 < r
    · have h3 : ¬ r ≤ i % 64 := by omega
      simp [hb, h2, h3]
    · have h3 : r ≤ i % 64 := by omega
      simp [hb, h2, h3]
  · rw [if_neg h]; simp [h]
theorem flip_all {ws : List Nat} {j : Nat} (hj : j < ws.length) (i : Nat) : wbit (ws.set j (nt' (ws.getD j 0))) i = (wbit ws i ^^ decide (i / 64 = j)) := by
  have hb := bit64 i
  rw [wbit_set _ _ _ _ hj]
  by_cases h : i / 64 = j
  · rw [if_pos h, nt_testBit, wbit_of, h]; simp [hb]
  · rw [if_neg h]; simp [h]
theorem flip_high {ws : List Nat} {j k : Nat} (hj : j < ws.length) (hk : k ≤ 64) (i : Nat) :
    wbit (ws.set j (ws.getD j 0 ^^^ (18446744073709551615 >>> k))) i = (wbit ws i ^^ (decide (i / 64 = j) && decide (i % 64 < 64 - k))) := by
  rw [wbit_set _ _ _ _ hj]
  by_cases h : i / 64 = j
  · rw [if_pos h, Nat.testBit_xor, ones_shr _ _ hk, wbit_of, h]; simp
  · rw [if_neg h]; simp [h]
theorem or_word {ws : List Nat} {j x : Nat} (hj : j < ws.length) (i : Nat) : wbit (ws.set j (ws.getD j 0 ||| x)) i = (wbit ws i || (decide (i / 64 = j) && x.testBit (i % 64))) := by
  rw [wbit_set _ _ _ _ hj]
  by_cases h : i / 64 = j
  · rw [if_pos h, Nat.testBit_or, wbit_of, h]; simp
  · rw [if_neg h]; simp [h]
theorem all_word {ws : List Nat} {j : Nat} (hj : j < ws.length) (i : Nat) : wbit (ws.set j 18446744073709551615) i = (wbit ws i || decide (i / 64 = j)) := by
  have hb := bit64 i
  rw [wbit_set _ _ _ _ hj]
  by_cases h : i / 64 = j
  · rw [if_pos h, show (18446744073709551615 : Nat) = 2 ^ 64 - 1 by decide, Nat.testBit_two_pow_sub_one]; simp [hb, h]
  · rw [if_neg h]; simp [h]

/-! the parts of a range -/
theorem neg_mod {b : Nat} (h : b < 18446744073709551616) : ((18446744073709551616 - b) % 18446744073709551616) % 64 = (64 - b % 64) % 64 := by omega
theorem rangeF {a b : Nat} (h : a < b) (i : Nat) :
    ((decide (i / 64 = a / 64) && decide (i % 64 < a % 64)) ^^ ((decide (64 * (a / 64) ≤ i) && decide (i < 64 * (b / 64))) ^^ (decide (i / 64 = b / 64) && decide (i % 64 < b % 64)))) = inR a b i := by
  have hA : (decide (i / 64 = a / 64) && decide (i % 64 < a % 64)) = decide (64 * (a / 64) ≤ i ∧ i < a) := by
    rw [← Bool.decide_and]; exact decide_eq_decide.2 (by omega)
  have hC : (decide (i / 64 = b / 64) && decide (i % 64 < b % 64)) = decide (64 * (b / 64) ≤ i ∧ i < b) := by
    rw [← Bool.decide_and]; exact decide_eq_decide.2 (by omega)
  have hB : (decide (64 * (a / 64) ≤ i) && decide (i < 64 * (b / 64))) = decide (64 * (a / 64) ≤ i ∧ i < 64 * (b / 64)) := by rw [← Bool.decide_and]
  unfold inR
  rw [hA, hB, hC, ← Bool.decide_and]
  by_cases hb : i < 64 * (b / 64)
  · by_cases h1 : 64 * (a / 64) ≤ i
    · by_cases h2 : i < a
      · rw [decide_eq_true (show 64 * (a / 64) ≤ i ∧ i < a from ⟨h1, h2⟩), decide_eq_true (show 64 * (a / 64) ≤ i ∧ i < 64 * (b / 64) from ⟨h1, hb⟩), decide_eq_false (show ¬ (64 * (b / 64) ≤ i ∧ i < b) by omega), decide_eq_false (show ¬ (a ≤ i ∧ i < b) by omega)]; rfl
      · rw [decide_eq_false (show ¬ (64 * (a / 64) ≤ i ∧ i < a) by omega), decide_eq_true (show 64 * (a / 64) ≤ i ∧ i < 64 * (b / 64) from ⟨h1, hb⟩), decide_eq_false (show ¬ (64 * (b / 64) ≤ i ∧ i < b) by omega), decide_eq_true (show a ≤ i ∧ i < b by omega)]; rfl
    · rw [decide_eq_false (show ¬ (64 * (a / 64) ≤ i ∧ i < a) by omega), decide_eq_false (show ¬ (64 * (a / 64) ≤ i ∧ i < 64 * (b / 64)) by omega), decide_eq_false (show ¬ (64 * (b / 64) ≤ i ∧ i < b) by omega), decide_eq_false (show ¬ (a ≤ i ∧ i < b) by omega)]; rfl
  · by_cases h3 : i < b
    · by_cases h2 : i < a
      · rw [decide_eq_true (show 64 * (a / 64) ≤ i ∧ i < a by omega), decide_eq_false (show ¬ (64 * (a / 64) ≤ i ∧ i < 64 * (b / 64)) by omega), decide_eq_true (show 64 * (b / 64) ≤ i ∧ i < b by omega), decide_eq_false (show ¬ (a ≤ i ∧ i < b) by omega)]; rfl
      · rw [decide_eq_false (show ¬ (64 * (a / 64) ≤ i ∧ i < a) by omega), decide_eq_false (show ¬ (64 * (a / 64) ≤ i ∧ i < 64 * (b / 64)) by omega), decide_eq_true (show 64 * (b / 64) ≤ i ∧ i < b by omega), decide_eq_true (show a ≤ i ∧ i < b by omega)]; rfl
    · rw [decide_eq_false (show ¬ (64 * (a / 64) ≤ i ∧ i < a) by omega), decide_eq_false (show ¬ (64 * (a / 64) ≤ i ∧ i < 64 * (b / 64)) by omega), decide_eq_false (show ¬ (64 * (b / 64) ≤ i ∧ i < b) by omega), decide_eq_false (show ¬ (a ≤ i ∧ i < b) by omega)]; rfl
/-- all in one word -/
theorem range1 {a b k : Nat} (h : a < b) (hk : k = (64 - b % 64) % 64) (hw : a / 64 = (b - 1) / 64) (i : Nat) :
    (decide (i / 64 = a / 64) && ((decide (i % 64 < 64) && decide (a % 64 ≤ i % 64)) && decide (i % 64 < 64 - k))) = inR a b i := by
  unfold inR
  simp only [← Bool.decide_and]
  apply decide_eq_decide.2
  omega
/-- in the first word, those between, and the last one -/
theorem range3 {a b k : Nat} (h : a < b) (hk : k = (64 - b % 64) % 64) (hw : a / 64 < (b - 1) / 64) (i : Nat) :
    ((decide (i / 64 = a / 64) && (decide (i % 64 < 64) && decide (a % 64 ≤ i % 64))) || ((decide (64 * (a / 64 + 1) ≤ i) && decide (i < 64 * ((b - 1) / 64))) || (decide (i / 64 = (b - 1) / 64) && decide (i % 64 < 64 - k)))) = inR a b i := by
  unfold inR
  simp only [← Bool.decide_and, ← Bool.decide_or]
  apply decide_eq_decide.2
  omega
end Go.Proofs.YtbahhdeblppooaaDoor

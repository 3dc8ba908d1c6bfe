/- One number taken out or turned, and the places moved up or down by one: by words, and as lists of truths. -/
import Derived.Test.YtefhjchhfpjciaaDoorL13
set_option linter.unusedVariables false
set_option linter.unusedSimpArgs false
namespace Go.Proofs.YtefhjchhfpjciaaDoor

def clr (s : List Bool) (i : Nat) : List Bool := if i < s.length then s.set i false else s
def flp (s : List Bool) (i : Nat) : List Bool := if i < s.length then s.set i (!s.getD i false) else put s i true
theorem word_place {i k : Nat} : (k / 64 = i / 64 ∧ k % 64 = i % 64) ↔ k = i := by omega
theorem clear_word {ws : List Nat} {i : Nat} (hj : i / 64 < ws.length) (k : Nat) : wbit (ws.set (i / 64) (ws.getD (i / 64) 0 &&& nt' ((1 <<< (i % 64)) % 18446744073709551616))) k = (wbit ws k && !decide (k = i)) := by
  have hb := bit64 k
  rw [wbit_set _ _ _ _ hj]
  by_cases h : k / 64 = i / 64
  · rw [if_pos h, Nat.testBit_and, nt_testBit, testBit_one_shl _ _ (bit64 i), wbit_of, h]
    have e : decide (k % 64 = i % 64) = decide (k = i) := decide_eq_decide.2 (by omega)
    rw [e]
    simp only [hb, decide_true, Bool.xor_true]
  · rw [if_neg h]
    have e : ¬ k = i := fun e => h (by rw [e])
    simp [e]
theorem flip_word {ws : List Nat} {i : Nat} (hj : i / 64 < ws.length) (k : Nat) : wbit (ws.set (i / 64) (ws.getD (i / 64) 0 ^^^ ((1 <<< (i % 64)) % 18446744073709551616))) k = (wbit ws k ^^ decide (k = i)) := by
  rw [wbit_set _ _ _ _ hj]
  by_cases h : k / 64 = i / 64
  · rw [if_pos h, Nat.testBit_xor, testBit_one_shl _ _ (bit64 i), wbit_of, h]
    have e : decide (k % 64 = i % 64) = decide (k = i) := decide_eq_decide.2 (by omega)
    rw [e]
  · rw [if_neg h]
    have e : ¬ k = i := fun e => h (by rw [e])
    simp [e]

/-- a place put in at i, those from there on moved up -/
def insB (s : List Bool) (i : Nat) : List Bool := s.take i ++ false :: s.drop i
/-- the place i taken out -/
def delB (s : List Bool) (i : Nat) : List Bool := s.take i ++ s.drop (i + 1)
theorem insB_length {s : List Bool} {i : Nat} (h : i ≤ s.length) : (insB s i).length = s.length + 1 := by simp [insB]; omega
theorem delB_length {s : List Bool} {i : Nat} (h : i < s.length) : (delB s i).length = s.length - 1 := by simp [delB]; omega
theorem insB_getD {s : List Bool} {i : Nat} (h : i ≤ s.length) (k : Nat) : (insB s i).getD k false = if k < i then s.getD k false else if k = i then false else s.getD (k - 1) false := by
  unfold insB
  simp only [List.getD_eq_getElem?_getD]
  by_cases h1 : k < i
  · rw [if_pos h1, List.getElem?_append_left (by simp; omega), List.getElem?_take_of_lt h1]
  · rw [if_neg h1, List.getElem?_append_right (by simp; omega), List.length_take, Nat.min_eq_left h]
    by_cases h2 : k = i
    · subst h2; simp
    · rw [if_neg h2, show k - i = (k - i - 1) + 1 by omega, List.getElem?_cons_succ, List.getElem?_drop, show i + (k - i - 1) = k - 1 by omega]
theorem delB_getD {s : List Bool} {i : Nat} (h : i < s.length) (k : Nat) : (delB s i).getD k false = if k < i then s.getD k false else s.getD (k + 1) false := by
  unfold delB
  simp only [List.getD_eq_getElem?_getD]
  by_cases h1 : k < i
  · rw [if_pos h1, List.getElem?_append_left (by simp; omega), List.getElem?_take_of_lt h1]
  · rw [if_neg h1, List.getElem?_append_right (by simp; omega), List.length_take, Nat.min_eq_left (by omega), List.getElem?_drop, show i + 1 + (k - i) = k + 1 by omega]
theorem del_ins (s : List Bool) (i : Nat) (h : i ≤ s.length) : delB (insB s i) i = s := by
  have hl := insB_length h
  refine bool_ext (by rw [delB_length (by omega), hl]; omega) fun k _ => ?_
  rw [delB_getD (by omega)]
  by_cases h1 : k < i
  · rw [if_pos h1, insB_getD h, if_pos h1]
  · rw [if_neg h1, insB_getD h, if_neg (by omega), if_neg (by omega), Nat.add_sub_cancel]

/-! the words of one place more -/
theorem sub_one_low (r : Nat) (hr : r < 64) (i : Nat) : ((1 <<< r) % 18446744073709551616 - 1).testBit i = decide (i < r) := low_testBit r i hr
/-- the word behind an insertion's: the words so far moved, from the last one down to (not with) k -/
def insW (s : List Bool) (k i : Nat) : Bool := if i < 64 * k then s.getD i false else if i = 64 * k ∧ k = 0 then false else s.getD (i - 1) false
theorem top_bit {x : Nat} (h : x < 18446744073709551616) (i : Nat) : ((x &&& 9223372036854775808) >>> 63).testBit i = (decide (i = 0) && x.testBit 63) := by
  rw [testBit_shr, Nat.testBit_and, show (9223372036854775808 : Nat) = 2 ^ 63 by decide, Nat.testBit_two_pow]
  by_cases h0 : i = 0
  · subst h0; simp
  · have : ¬ 63 = 63 + i := by omega
    simp [h0, this]
theorem low_bit_up (x i : Nat) : (((x &&& 1) <<< 63) % 18446744073709551616).testBit i = (decide (i = 63) && x.testBit 0) := by
  rw [testBit_shl, Nat.testBit_and, testBit_one]
  by_cases h0 : i = 63
  · subst h0; simp
  · by_cases h1 : 63 ≤ i
    · have : ¬ i < 64 := by omega
      simp [h0, this]
    · simp [h0, h1]
end Go.Proofs.YtefhjchhfpjciaaDoor

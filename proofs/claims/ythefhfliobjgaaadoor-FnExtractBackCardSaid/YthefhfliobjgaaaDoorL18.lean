/- A list of truths as one number, its first truth the lowest bit: plain lemmas, without Go. -/
import Derived.Test.YthefhfliobjgaaaDoorL17
set_option linter.unusedVariables false
set_option linter.unusedSimpArgs false
namespace Go.Proofs.YthefhfliobjgaaaDoor

def num (l : List Bool) : Nat := natOf (fun k => l.getD k false) l.length
theorem num_lt (l : List Bool) : num l < 2 ^ l.length := natOf_lt _ _
theorem num_le {l : List Bool} {n : Nat} (h : l.length ≤ n) : num l < 2 ^ n := Nat.lt_of_lt_of_le (num_lt l) (Nat.pow_le_pow_right (by decide) h)
theorem num_lt64 {l : List Bool} (h : l.length ≤ 64) : num l < 18446744073709551616 := num_le h
theorem num_lt8 {l : List Bool} (h : l.length ≤ 8) : num l < 256 := num_le h
theorem num_testBit (l : List Bool) (k : Nat) : (num l).testBit k = l.getD k false := by
  unfold num
  rw [natOf_testBit]
  by_cases h : k < l.length
  · simp [h]
  · rw [getD_ge l false (by omega)]; simp
theorem num_nil : num [] = 0 := rfl
theorem num_false (l : List Bool) : num (l ++ [false]) = num l := by
  apply Nat.eq_of_testBit_eq
  intro k
  rw [num_testBit, num_testBit, app_getD, one_getD]; simp
theorem num_true (l : List Bool) : num (l ++ [true]) = num l ||| 2 ^ l.length := by
  apply Nat.eq_of_testBit_eq
  intro k
  rw [Nat.testBit_or, num_testBit, num_testBit, app_getD, one_getD, Nat.testBit_two_pow]
  congr 1
  by_cases h : l.length = k
  · subst h; simp
  · by_cases h2 : l.length ≤ k
    · simp [h, h2, show ¬ k - l.length = 0 by omega]
    · simp [h, h2]
theorem num_app (l t : List Bool) (h : l.length + t.length ≤ 64) : num (l ++ t) = num l ||| (num t <<< l.length) % 18446744073709551616 := by
  apply Nat.eq_of_testBit_eq
  intro k
  rw [Nat.testBit_or, testBit_shl, num_testBit, num_testBit, num_testBit, app_getD]
  by_cases hk : k < 64
  · simp [hk]
  · rw [getD_ge t false (by omega)]; simp
theorem shl8 {k : Nat} (h : k < 8) : (1 <<< k) % 256 = 2 ^ k := by
  rw [Nat.shiftLeft_eq, Nat.one_mul]
  exact Nat.mod_eq_of_lt (Nat.lt_of_lt_of_le (Nat.pow_lt_pow_right (by decide) h) (by decide))
theorem and_pow_ne (m k : Nat) : decide (m &&& 2 ^ k ≠ 0) = m.testBit k := by
  cases hb : m.testBit k with
  | true =>
    apply decide_eq_true
    intro h
    have h2 : (m &&& 2 ^ k).testBit k = true := by rw [Nat.testBit_and, hb, Nat.testBit_two_pow]; simp
    rw [h] at h2; simp at h2
  | false =>
    apply decide_eq_false
    intro h
    apply h
    apply Nat.eq_of_testBit_eq
    intro i
    rw [Nat.testBit_and, Nat.testBit_two_pow]
    by_cases e : k = i
    · subst e; simp [hb]
    · simp [e]
/-- a byte of a word -/
theorem byte_testBit (m a k : Nat) : ((m >>> a) % 256).testBit k = (decide (k < 8) && m.testBit (a + k)) := by
  rw [show (256 : Nat) = 2 ^ 8 by decide, Nat.testBit_mod_two_pow, Nat.testBit_shiftRight]
theorem cnt_byte (m a : Nat) : cnt ((m >>> a) % 256).testBit 8 = cnt (fun k => m.testBit (a + k)) 8 := cnt_congr fun i hi => by rw [byte_testBit]; simp [hi]

/-- the bits of w at the places of the mask m, side by side -/
def pextN (w m n : Nat) : Nat := num (exL m.testBit w.testBit n)
def pdepL (w m n : Nat) : List Bool := tab n fun x => m.testBit x && w.testBit (cnt m.testBit x)
theorem pdepL_succ (w m n : Nat) : pdepL w m (n + 1) = pdepL w m n ++ [m.testBit n && w.testBit (cnt m.testBit n)] := by simp [pdepL, tab, List.range_succ]
theorem pdepL_length (w m n : Nat) : (pdepL w m n).length = n := tab_length _ _
/-- the next byte of what is packed -/
theorem pext_step (w m i : Nat) (h : 8 * i + 8 ≤ 64) : exL m.testBit w.testBit (8 * i + 8) = exL m.testBit w.testBit (8 * i) ++ exL ((m >>> (8 * i)) % 256).testBit ((w >>> (8 * i)) % 256).testBit 8 := by
  rw [exL_add]
  congr 1
  apply exL_congr
  intro k hk
  rw [byte_testBit, byte_testBit]
  simp [hk]
theorem cnt_below (f : Nat → Bool) (a b : Nat) (h : a ≤ b) : cnt f a ≤ cnt f b := by
  obtain ⟨j, rfl⟩ : ∃ j, b = a + j := ⟨b - a, by omega⟩
  rw [cnt_add]; omega
/-- the next byte of what is spread -/
theorem pdep_step (w m i : Nat) : pdepL w m (8 * i + 8) = pdepL w m (8 * i) ++ pdepL ((w >>> (cnt m.testBit (8 * i))) % 256) ((m >>> (8 * i)) % 256) 8 := by
  unfold pdepL
  apply bool_ext
  · simp [tab_length]
  · intro k hk
    rw [tab_length] at hk
    rw [app_getD, tab_getD, tab_getD, tab_length, tab_getD]
    by_cases h : k < 8 * i
    · simp [h, hk, show ¬ 8 * i ≤ k by omega]
    · obtain ⟨j, rfl⟩ : ∃ j, k = 8 * i + j := ⟨k - 8 * i, by omega⟩
      have hj : j < 8 := by omega
      have e1 : 8 * i + j - 8 * i = j := by omega
      have e2 : cnt ((m >>> (8 * i)) % 256).testBit j = cnt (fun k => m.testBit (8 * i + k)) j := cnt_congr fun x hx => by rw [byte_testBit]; simp [show x < 8 by omega]
      have e3 := cnt_le (fun k => m.testBit (8 * i + k)) j
      rw [e1, byte_testBit, byte_testBit, e2, cnt_add]
      simp [hj, show ¬ (8 * i + j) < 8 * i by omega, show cnt (fun k => m.testBit (8 * i + k)) j < 8 by omega]
end Go.Proofs.YthefhfliobjgaaaDoor

/- Counts between two places, by words and masks; plain lemmas, without Go. -/
import Derived.Test.YtbahhdeblppooaaDoorL6
set_option linter.unusedVariables false
set_option linter.unusedSimpArgs false
namespace Go.Proofs.YtbahhdeblppooaaDoor

theorem shl1 (r : Nat) (hr : r < 64) : (1 <<< r) % 18446744073709551616 = 2 ^ r := by
  rw [Nat.one_shiftLeft]
  exact Nat.mod_eq_of_lt (by simpa using Nat.pow_lt_pow_right (a := 2) (by decide) hr)
theorem shl1_pos (r : Nat) (hr : r < 64) : 1 ≤ (1 <<< r) % 18446744073709551616 := by rw [shl1 r hr]; exact Nat.one_le_two_pow
theorem low_testBit (r i : Nat) (hr : r < 64) : ((1 <<< r) % 18446744073709551616 - 1).testBit i = decide (i < r) := by
  rw [shl1 r hr, Nat.testBit_two_pow_sub_one]
def nt' (m : Nat) : Nat := m ^^^ 18446744073709551615
theorem nt_testBit (m i : Nat) : (nt' m).testBit i = (m.testBit i ^^ decide (i < 64)) := by
  unfold nt'
  rw [Nat.testBit_xor, show (18446744073709551615 : Nat) = 2 ^ 64 - 1 by decide, Nat.testBit_two_pow_sub_one]
theorem popc_range (x m a b : Nat) (hab : a ≤ b) (hb : b ≤ 64) (hx : ∀ i, i < 64 → x.testBit i = (m.testBit i && (decide (a ≤ i) && decide (i < b)))) : popc x = cnt (fun k => m.testBit (a + k)) (b - a) := by
  unfold popc
  have e : 64 = a + ((b - a) + (64 - b)) := by omega
  conv => lhs; rw [e]
  rw [cnt_add, cnt_false (fun i hi => by rw [hx _ (by omega)]; simp [show ¬ a ≤ i by omega]), Nat.zero_add, cnt_add]
  rw [cnt_false (f := fun i => x.testBit (a + (b - a + i))) (fun i hi => by rw [hx _ (by omega)]; simp [show ¬ a + (b - a + i) < b by omega]), Nat.add_zero]
  apply cnt_congr
  intro i hi
  rw [hx _ (by omega)]
  simp [show a + i < b by omega]
theorem btw_inword (s : List Bool) (j a b : Nat) (hab : a ≤ b) (hb : b ≤ 64) : btw s (64 * j + a) (64 * j + b) = cnt (fun k => (wordAt s j).testBit (a + k)) (b - a) := by
  unfold btw
  rw [show 64 * j + b - (64 * j + a) = b - a by omega]
  apply cnt_congr
  intro i hi
  rw [wordAt_testBit]
  simp [show a + i < 64 by omega, Nat.add_assoc]
theorem mid_word (s : List Bool) (j a b : Nat) (hab : a ≤ b) (hb : b < 64) : popc (wordAt s j &&& (((1 <<< b) % 18446744073709551616 - 1) &&& nt' ((1 <<< a) % 18446744073709551616 - 1))) = btw s (64 * j + a) (64 * j + b) := by
  rw [btw_inword s j a b hab (by omega)]
  apply popc_range _ _ a b hab (by omega)
  intro i hi
  rw [Nat.testBit_and, Nat.testBit_and, nt_testBit, low_testBit _ _ hb, low_testBit _ _ (by omega)]
  by_cases h1 : i < a
  · simp [h1, hi, show ¬ a ≤ i by omega]
  · simp [h1, hi, show a ≤ i by omega]
theorem high_word (s : List Bool) (j a : Nat) (ha : a < 64) : popc (wordAt s j &&& nt' ((1 <<< a) % 18446744073709551616 - 1)) = btw s (64 * j + a) (64 * j + 64) := by
  rw [btw_inword s j a 64 (by omega) (by omega)]
  apply popc_range _ _ a 64 (by omega) (by omega)
  intro i hi
  rw [Nat.testBit_and, nt_testBit, low_testBit _ _ ha]
  by_cases h1 : i < a
  · simp [h1, hi, show ¬ a ≤ i by omega]
  · simp [h1, hi, show a ≤ i by omega]
theorem low_word (s : List Bool) (j b : Nat) (hb : b < 64) : popc (wordAt s j &&& ((1 <<< b) % 18446744073709551616 - 1)) = btw s (64 * j) (64 * j + b) := by
  have h := btw_inword s j 0 b (by omega) (by omega)
  rw [Nat.add_zero] at h
  rw [h]
  apply popc_range _ _ 0 b (by omega) (by omega)
  intro i hi
  rw [Nat.testBit_and, low_testBit _ _ hb]
  simp
theorem psum_take_drop (ws : List Nat) (a b : Nat) (h : a ≤ b) : psum (ws.take b) = psum (ws.take a) + psum ((ws.drop a).take (b - a)) := by
  rw [← psum_append]
  congr 1
  have e : b = a + (b - a) := by omega
  conv => lhs; rw [e]
  rw [List.take_add]
theorem btw_mid (s : List Bool) (a b : Nat) (h : a ≤ b) (hb : b ≤ nW s.length) : btw s (64 * a) (64 * b) = psum (((pack s).drop a).take (b - a)) := by
  have h1 := btw_words s a (by omega)
  have h2 := btw_words s b hb
  have h3 := psum_take_drop (pack s) a b h
  have h4 := btw_split s 0 (64 * a) (64 * b) (by omega) (by omega)
  omega
theorem cnt_eq_zero {f : Nat → Bool} {n : Nat} (h : cnt f n = 0) : ∀ i, i < n → f i = false := by
  induction n with
  | zero => intro i hi; omega
  | succ n ih =>
    simp only [cnt] at h
    intro i hi
    by_cases e : i = n
    · subst e
      by_cases hf : f i = true
      · rw [if_pos hf] at h; omega
      · simpa using hf
    · exact ih (by omega) i (by omega)
theorem popc_pos {m : Nat} (h : m < 18446744073709551616) (h0 : 0 < m) : 0 < popc m := by
  rcases Nat.eq_zero_or_pos (popc m) with e | e
  · exfalso
    have hz := cnt_eq_zero e
    have : m = 0 := by
      apply Nat.eq_of_testBit_eq
      intro i
      rw [Nat.zero_testBit]
      by_cases hi : i < 64
      · exact hz i hi
      · exact testBit_big h (by omega)
    omega
  · exact e
theorem psum_getD_le (ws : List Nat) (k : Nat) (hk : k < ws.length) : popc (ws.getD k 0) ≤ psum ws := by
  have h := List.take_append_drop (k + 1) ws
  rw [← h, psum_append, take_succ_getD ws k hk, psum_snoc]
  have e : (ws.take k ++ [ws.getD k 0] ++ ws.drop (k + 1)).getD k 0 = ws.getD k 0 := by
    rw [← take_succ_getD ws k hk, h]
  rw [e]
  omega
end Go.Proofs.YtbahhdeblppooaaDoor

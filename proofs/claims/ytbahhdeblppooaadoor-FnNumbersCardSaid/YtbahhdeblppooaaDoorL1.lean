/- Sets as lists of truths and as words of 64 bits: plain lemmas on lists and numbers, without Go. -/
set_option linter.unusedVariables false
set_option linter.unusedSimpArgs false
namespace Go.Proofs.YtbahhdeblppooaaDoor

/-! ### Numbers of bits -/
def natOf (f : Nat → Bool) : Nat → Nat
  | 0 => 0
  | n + 1 => natOf f n + (if f n then 2 ^ n else 0)

theorem natOf_lt (f : Nat → Bool) (n : Nat) : natOf f n < 2 ^ n := by
  induction n with
  | zero => simp [natOf]
  | succ n ih =>
    simp only [natOf, Nat.pow_succ]
    split <;> omega

theorem natOf_testBit (f : Nat → Bool) (n i : Nat) : (natOf f n).testBit i = (decide (i < n) && f i) := by
  induction n with
  | zero => simp [natOf]
  | succ n ih =>
    simp only [natOf]
    have hlt := natOf_lt f n
    by_cases hf : f n = true
    · rw [if_pos hf]
      rcases Nat.lt_trichotomy i n with h | h | h
      · rw [Nat.add_comm, Nat.testBit_two_pow_add_gt h, ih]
        simp [h, show i < n + 1 by omega]
      · subst h
        rw [Nat.add_comm, Nat.testBit_two_pow_add_eq, Nat.testBit_lt_two_pow hlt]
        simp [hf]
      · have h1 : natOf f n + 2 ^ n < 2 ^ i := by
          have : 2 ^ (n + 1) ≤ 2 ^ i := Nat.pow_le_pow_right (by decide) (by omega)
          rw [Nat.pow_succ] at this
          omega
        rw [Nat.testBit_lt_two_pow h1]
        simp [show ¬ i < n + 1 by omega]
    · rw [if_neg hf, Nat.add_zero, ih]
      by_cases h : i < n
      · simp [h, show i < n + 1 by omega]
      · by_cases h2 : i = n
        · subst h2; simp [hf]
        · simp [h, show ¬ i < n + 1 by omega]

/-! ### The words of a list of truths -/
def wordAt (s : List Bool) (j : Nat) : Nat := natOf (fun k => s.getD (64 * j + k) false) 64
def nW (n : Nat) : Nat := (n + 63) / 64
def pack (s : List Bool) : List Nat := (List.range (nW s.length)).map (wordAt s)
/-- bit i of words -/
def wbit (ws : List Nat) (i : Nat) : Bool := (ws.getD (i / 64) 0).testBit (i % 64)

theorem wordAt_lt (s : List Bool) (j : Nat) : wordAt s j < 18446744073709551616 := natOf_lt _ 64
theorem wordAt_testBit (s : List Bool) (j i : Nat) : (wordAt s j).testBit i = (decide (i < 64) && s.getD (64 * j + i) false) := natOf_testBit _ 64 i
theorem pack_length (s : List Bool) : (pack s).length = nW s.length := by simp [pack]
theorem getD_ge {α : Type} (l : List α) (d : α) {i : Nat} (h : l.length ≤ i) : l.getD i d = d := by
  simp [List.getD_eq_getElem?_getD, List.getElem?_eq_none h]
theorem pack_getD (s : List Bool) (j : Nat) : (pack s).getD j 0 = wordAt s j := by
  by_cases h : j < nW s.length
  · simp [pack, List.getD_eq_getElem?_getD, h]
  · rw [getD_ge _ _ (by simp [pack_length]; omega)]
    apply Nat.eq_of_testBit_eq
    intro i
    rw [wordAt_testBit]
    by_cases hi : i < 64
    · rw [getD_ge s false (by unfold nW at h; omega)]
      simp
    · simp [hi]
theorem pack_lt (s : List Bool) : ∀ x ∈ pack s, x < 18446744073709551616 := by
  intro x hx
  simp only [pack, List.mem_map] at hx
  obtain ⟨j, _, rfl⟩ := hx
  exact wordAt_lt s j
theorem pack_getD_lt (s : List Bool) (j : Nat) : (pack s).getD j 0 < 18446744073709551616 := by rw [pack_getD]; exact wordAt_lt s j
theorem wbit_pack (s : List Bool) (i : Nat) : wbit (pack s) i = s.getD i false := by
  unfold wbit
  rw [pack_getD, wordAt_testBit]
  have h : i % 64 < 64 := Nat.mod_lt _ (by decide)
  simp only [h, decide_true, Bool.true_and]
  congr 1
  omega

/-- words are what their bits are -/
theorem words_ext {ws vs : List Nat} (hl : ws.length = vs.length) (h1 : ∀ x ∈ ws, x < 18446744073709551616) (h2 : ∀ x ∈ vs, x < 18446744073709551616) (h : ∀ i, i < 64 * ws.length → wbit ws i = wbit vs i) : ws = vs := by
  apply List.ext_getElem hl
  intro j hj hj'
  apply Nat.eq_of_testBit_eq
  intro i
  by_cases hi : i < 64
  · have := h (64 * j + i) (by omega)
    unfold wbit at this
    rw [show (64 * j + i) / 64 = j by omega, show (64 * j + i) % 64 = i by omega] at this
    simpa [List.getD_eq_getElem?_getD, hj, hj'] using this
  · have e1 : ws[j] < 2 ^ i := Nat.lt_of_lt_of_le (h1 _ (List.getElem_mem hj)) (by simpa using Nat.pow_le_pow_right (n := 2) (by decide) (show 64 ≤ i by omega))
    have e2 : vs[j] < 2 ^ i := Nat.lt_of_lt_of_le (h2 _ (List.getElem_mem hj')) (by simpa using Nat.pow_le_pow_right (n := 2) (by decide) (show 64 ≤ i by omega))
    rw [Nat.testBit_lt_two_pow e1, Nat.testBit_lt_two_pow e2]

/-- words are those of a list of truths: as many as it wants, and with its bits -/
theorem pack_unique {ws : List Nat} {s : List Bool} (hl : ws.length = nW s.length) (h1 : ∀ x ∈ ws, x < 18446744073709551616) (h : ∀ i, i < 64 * ws.length → wbit ws i = s.getD i false) : ws = pack s :=
  words_ext (by rw [hl, pack_length]) h1 (pack_lt s) fun i hi => by rw [h i hi, wbit_pack]

theorem wbit_ge {ws : List Nat} {i : Nat} (h : 64 * ws.length ≤ i) : wbit ws i = false := by
  unfold wbit
  rw [getD_ge _ _ (by omega)]
  simp
theorem bool_ext {s t : List Bool} (hl : s.length = t.length) (h : ∀ i, i < s.length → s.getD i false = t.getD i false) : s = t := by
  apply List.ext_getElem hl
  intro i h1 h2
  have := h i h1
  simpa [List.getD_eq_getElem?_getD, h1, h2] using this

/-! ### One word of a list of words is set -/
theorem wbit_set (ws : List Nat) (j x i : Nat) (hj : j < ws.length) : wbit (ws.set j x) i = if i / 64 = j then x.testBit (i % 64) else wbit ws i := by
  unfold wbit
  by_cases h : i / 64 = j
  · subst h; simp [List.getD_eq_getElem?_getD, List.getElem?_set, hj]
  · simp [List.getD_eq_getElem?_getD, List.getElem?_set, h, Ne.symm h]
theorem wbit_append (ws vs : List Nat) (i : Nat) : wbit (ws ++ vs) i = if i < 64 * ws.length then wbit ws i else wbit vs (i - 64 * ws.length) := by
  unfold wbit
  by_cases h : i < 64 * ws.length
  · rw [if_pos h, List.getD_eq_getElem?_getD, List.getD_eq_getElem?_getD, List.getElem?_append_left (by omega)]
  · rw [if_neg h, List.getD_eq_getElem?_getD, List.getD_eq_getElem?_getD, List.getElem?_append_right (by omega)]
    rw [show (i - 64 * ws.length) / 64 = i / 64 - ws.length by omega, show (i - 64 * ws.length) % 64 = i % 64 by omega]
theorem wbit_zeros (n i : Nat) : wbit (List.replicate n 0) i = false := by
  unfold wbit
  have : (List.replicate n 0).getD (i / 64) 0 = 0 := by
    rw [List.getD_eq_getElem?_getD, List.getElem?_replicate]
    split <;> rfl
  rw [this]
  simp
theorem set_lt64 {ws : List Nat} (h : ∀ x ∈ ws, x < 18446744073709551616) {j y : Nat} (hy : y < 18446744073709551616) : ∀ x ∈ ws.set j y, x < 18446744073709551616 := by
  intro x hx
  rcases List.mem_or_eq_of_mem_set hx with h' | rfl
  · exact h x h'
  · exact hy
theorem getD_lt64 {ws : List Nat} (h : ∀ x ∈ ws, x < 18446744073709551616) (j : Nat) : ws.getD j 0 < 18446744073709551616 := by
  rw [List.getD_eq_getElem?_getD]
  rcases Nat.lt_or_ge j ws.length with hj | hj
  · simpa [hj] using h _ (List.getElem_mem hj)
  · simp [List.getElem?_eq_none hj]

/-! ### Bits of what the operations answer -/
theorem testBit_big {m i : Nat} (h : m < 18446744073709551616) (hi : 64 ≤ i) : m.testBit i = false :=
  Nat.testBit_lt_two_pow (Nat.lt_of_lt_of_le h (by simpa using Nat.pow_le_pow_right (n := 2) (by decide) hi))
theorem testBit_mod64 (m i : Nat) : (m % 18446744073709551616).testBit i = (decide (i < 64) && m.testBit i) := by
  rw [show (18446744073709551616 : Nat) = 2 ^ 64 by decide, Nat.testBit_mod_two_pow]
theorem testBit_shl (m k i : Nat) : ((m <<< k) % 18446744073709551616).testBit i = (decide (i < 64) && (decide (k ≤ i) && m.testBit (i - k))) := by
  rw [testBit_mod64, Nat.testBit_shiftLeft]
theorem testBit_shr (m k i : Nat) : (m >>> k).testBit i = m.testBit (k + i) := Nat.testBit_shiftRight ..
theorem testBit_one (i : Nat) : (1 : Nat).testBit i = decide (i = 0) := by
  cases i with
  | zero => rfl
  | succ n => rw [show (1 : Nat) = 2 ^ 0 by rfl, Nat.testBit_two_pow]; simp

/-! ### The numbers of a list of truths -/
def numsFrom : Nat → List Bool → List Nat
  | _, [] => []
  | i, b :: r => if b then i :: numsFrom (i + 1) r else numsFrom (i + 1) r
def nums (s : List Bool) : List Nat := numsFrom 0 s

end Go.Proofs.YtbahhdeblppooaaDoor

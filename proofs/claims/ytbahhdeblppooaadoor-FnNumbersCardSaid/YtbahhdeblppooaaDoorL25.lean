/- The bits of a word, one after the other, from the lowest on; the numbers from one on, as many as there is room for. -/
import Derived.Test.YtbahhdeblppooaaDoorL21
import Derived.Test.YtbahhdeblppooaaDoorL10
set_option linter.unusedVariables false
set_option linter.unusedSimpArgs false
namespace Go.Proofs.YtbahhdeblppooaaDoor

theorem clr_low {m : Nat} (h0 : m ≠ 0) (h : m < 18446744073709551616) (j : Nat) : (m &&& (m - 1)).testBit j = (m.testBit j && decide (tz m < j)) := by
  obtain ⟨d, hd, _⟩ := Lib.ctzFrom_spec 64 m (by omega) h
  have e : tz m = Lib.ctzFrom 64 m := by simp [tz, Lib.ctz, h0]
  have hm : m = 2 ^ tz m * (2 * d + 1) := by rw [e]; exact hd
  obtain ⟨h1, h2, h3⟩ := tz_spec h0 h
  obtain ⟨t, ht⟩ : ∃ t, tz m = t := ⟨_, rfl⟩
  rw [ht] at hm h1 h2 h3 ⊢
  have hpos : 0 < 2 ^ t := Nat.two_pow_pos t
  have hm1 : m - 1 = 2 ^ t * (2 * d) + (2 ^ t - 1) := by
    have : 2 ^ t * (2 * d + 1) = 2 ^ t * (2 * d) + 2 ^ t := by rw [Nat.mul_add, Nat.mul_one]
    omega
  rw [Nat.testBit_and]
  rcases Nat.lt_trichotomy j t with h4 | h4 | h4
  · rw [h3 j h4]; rfl
  · subst h4
    have : (m - 1).testBit j = false := by
      rw [hm1, Nat.testBit_two_pow_mul_add _ (by omega)]
      simp
    rw [this]; simp
  · have : (m - 1).testBit j = m.testBit j := by
      rw [hm1, Nat.testBit_two_pow_mul_add _ (by omega)]
      conv => rhs; rw [hm, Nat.testBit_two_pow_mul]
      have h5 : ¬ j < t := by omega
      have h6 : j ≥ t := by omega
      rw [if_neg h5]
      simp only [h6, decide_true, Bool.true_and]
      obtain ⟨k, hk⟩ : ∃ k, j - t = k + 1 := ⟨j - t - 1, by omega⟩
      rw [hk, Nat.testBit_succ, Nat.testBit_succ]
      congr 1
      omega
    rw [this]; simp [h4]

/-- x holds what is left, from y on, of the members of s from o up to e -/
def Wl (s : List Bool) (o e y x : Nat) : Prop := ∀ j, x.testBit j = (decide (y ≤ o + j) && decide (o + j < e) && s.getD (o + j) false)
theorem Wl.here (s : List Bool) (i : Nat) : Wl s i (64 * (i / 64 + 1)) i (wordAt s (i / 64) >>> (i % 64)) := by
  intro j
  rw [testBit_shr, wordAt_testBit, show 64 * (i / 64) + (i % 64 + j) = i + j by omega]
  have : decide (i % 64 + j < 64) = decide (i + j < 64 * (i / 64 + 1)) := decide_eq_decide.2 (by omega)
  rw [this]
  simp
theorem Wl.word (s : List Bool) (k : Nat) : Wl s (64 * k) (64 * (k + 1)) (64 * k) (wordAt s k) := by
  intro j
  rw [wordAt_testBit]
  have : decide (j < 64) = decide (64 * k + j < 64 * (k + 1)) := decide_eq_decide.2 (by omega)
  rw [this]
  simp
theorem Wl.nxt {s : List Bool} {o e y x : Nat} (h : Wl s o e y x) (h0 : x ≠ 0) (hx : x < 18446744073709551616) (hy : o ≤ y) : Nxt s y (o + tz x) ∧ o + tz x < e := by
  obtain ⟨h1, h2, h3⟩ := tz_spec h0 hx
  rw [h] at h2
  simp only [Bool.and_eq_true, decide_eq_true_eq] at h2
  refine ⟨⟨h2.1.1, h2.2, fun j hj hlt => ?_⟩, h2.1.2⟩
  have h4 := h3 (j - o) (by omega)
  rw [h, show o + (j - o) = j by omega] at h4
  have h5 : y ≤ j := hj
  have h6 : j < e := by omega
  simpa [h5, h6] using h4
theorem Wl.step {s : List Bool} {o e y x : Nat} (h : Wl s o e y x) (h0 : x ≠ 0) (hx : x < 18446744073709551616) (hy : o ≤ y) : Wl s o e (o + tz x + 1) (x &&& (x - 1)) := by
  have hn := (h.nxt h0 hx hy).1.1
  intro j
  rw [clr_low h0 hx, h]
  by_cases h1 : tz x < j
  · have h2 : y ≤ o + j := by omega
    have h3 : o + tz x + 1 ≤ o + j := by omega
    simp [h1, h2, h3]
  · have h3 : ¬ o + tz x + 1 ≤ o + j := by omega
    simp [h1, h3]
theorem Wl.none {s : List Bool} {o e y : Nat} (h : Wl s o e y 0) (hy : o ≤ y) : ∀ j, y ≤ j → j < e → s.getD j false = false := by
  intro j h1 h2
  have h3 := h (j - o)
  rw [Nat.zero_testBit, show o + (j - o) = j by omega] at h3
  simpa [h1, h2] using h3.symm
theorem clr_lt {x : Nat} (h : x < 18446744073709551616) : x &&& (x - 1) < x ∨ x = 0 := by
  rcases Nat.eq_zero_or_pos x with h0 | h0
  · exact .inr h0
  · left
    have := Nat.and_le_right (n := x) (m := x - 1)
    omega

/-- the numbers from i on, below y -/
def numsB (s : List Bool) (i y : Nat) : List Nat := (nums (s.take y)).filter fun x => decide (i ≤ x)
theorem numsB_self (s : List Bool) (i : Nat) : numsB s i i = [] := by
  unfold numsB
  rw [List.filter_eq_nil_iff]
  intro x hx
  have := nums_lt _ x hx
  have h2 := List.length_take_le i s
  simp; omega
theorem numsB_nxt {s : List Bool} {i y x : Nat} (h : Nxt s y x) (hy : i ≤ y) : numsB s i (x + 1) = numsB s i y ++ [x] := by
  unfold numsB
  rw [h.nums, List.filter_append]
  have : i ≤ x := Nat.le_trans hy h.1
  simp [this]
theorem take_min_len (s : List Bool) (y : Nat) : s.take (min y s.length) = s.take y := by
  rcases Nat.lt_or_ge s.length y with h | h
  · rw [Nat.min_eq_right (by omega), List.take_of_length_le (by omega), List.take_of_length_le (by omega)]
  · rw [Nat.min_eq_left h]
theorem numsB_gap {s : List Bool} {i y e : Nat} (hg : ∀ j, y ≤ j → j < e → s.getD j false = false) (h : y ≤ e) : numsB s i e = numsB s i y := by
  unfold numsB
  congr 1
  rw [← take_min_len s e, ← take_min_len s y]
  exact nums_gap (by omega) (by omega) (fun j h1 h2 => by
    rcases Nat.lt_or_ge j s.length with h3 | h3
    · exact hg j (by omega) (by omega)
    · exact getD_ge s false h3)
theorem numsB_end {s : List Bool} {i y : Nat} (h : s.length ≤ y) : numsB s i y = (nums s).filter fun x => decide (i ≤ x) := by
  unfold numsB
  rw [List.take_of_length_le h]
theorem numsB_take {s : List Bool} {i y n : Nat} (h : (numsB s i y).length = n) : ((nums s).filter fun x => decide (i ≤ x)).take n = numsB s i y := by
  have e := nums_app (s.take y) (s.drop y)
  rw [List.take_append_drop] at e
  rw [e, List.filter_append]
  exact List.take_left' h
theorem numsB_zero (s : List Bool) (y : Nat) : numsB s 0 y = nums (s.take y) := by
  unfold numsB
  rw [List.filter_eq_self]
  intro x _; simp
theorem numsB_all (s : List Bool) : numsB s 0 s.length = nums s := by rw [numsB_zero, List.take_length]
theorem numsB_len (s : List Bool) (i y : Nat) : (numsB s i y).length ≤ s.length := by
  have h1 := List.length_filter_le (fun x => decide (i ≤ x)) (nums (s.take y))
  have h2 := nums_length (s.take y)
  have h3 := count_le (s.take y)
  have h4 := List.length_take_le' y s
  unfold numsB
  omega
/-- a number that has been told apart, or is passed over, on the way through a list -/
theorem pick_step {xs : List Nat} {i n k : Nat} {P : List Nat} (hk : k < xs.length) (hP : P = ((xs.take k).filter fun x => decide (i ≤ x)).take n) :
    ((xs.take (k + 1)).filter fun x => decide (i ≤ x)).take n = if i ≤ xs.getD k 0 ∧ P.length < n then P ++ [xs.getD k 0] else P := by
  have e : xs.take (k + 1) = xs.take k ++ [xs.getD k 0] := by
    rw [List.take_add_one, List.getD_eq_getElem?_getD, List.getElem?_eq_getElem hk]; rfl
  rw [e, List.filter_append, List.take_append]
  have hl : P.length = min n ((xs.take k).filter fun x => decide (i ≤ x)).length := by rw [hP, List.length_take]
  rw [← hP]
  by_cases h1 : i ≤ xs.getD k 0
  · have e2 : [xs.getD k 0].filter (fun x => decide (i ≤ x)) = [xs.getD k 0] := by rw [List.filter_cons_of_pos (by simpa using h1)]; rfl
    rw [e2]
    by_cases h2 : P.length < n
    · rw [if_pos ⟨h1, h2⟩, List.take_of_length_le (l := [xs.getD k 0]) (by simp; omega)]
    · rw [if_neg (by omega), show n - ((xs.take k).filter fun x => decide (i ≤ x)).length = 0 by omega]
      simp
  · have e2 : [xs.getD k 0].filter (fun x => decide (i ≤ x)) = [] := by rw [List.filter_cons_of_neg (by simpa using h1)]; rfl
    rw [e2, if_neg (by omega)]
    simp

end Go.Proofs.YtbahhdeblppooaaDoor

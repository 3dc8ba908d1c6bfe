/- The lowest bit of a word, and going from one member of a set to the next. -/
import Derived.Test.YtbahhdeblppooaaDoorL8
import Derived.Lib.TrailingZeros
set_option linter.unusedVariables false
set_option linter.unusedSimpArgs false
namespace Go.Proofs.YtbahhdeblppooaaDoor

def tz (m : Nat) : Nat := Lib.ctz 64 m
theorem tz_spec {m : Nat} (h0 : m ≠ 0) (h : m < 18446744073709551616) : tz m < 64 ∧ m.testBit (tz m) = true ∧ ∀ b, b < tz m → m.testBit b = false := by
  have h1 := (Lib.lowest_bit 64 m h0 h).2
  obtain ⟨d, hd, _⟩ := Lib.ctzFrom_spec 64 m (by omega) h
  have e : tz m = Lib.ctzFrom 64 m := by simp [tz, Lib.ctz, h0]
  have hm : m = 2 ^ tz m * (2 * d + 1) := by rw [e]; exact hd
  refine ⟨h1, ?_, fun b hb => ?_⟩
  · refine (congrArg (fun x => x.testBit (tz m)) hm).trans ?_
    show (2 ^ tz m * (2 * d + 1)).testBit (tz m) = true
    rw [Nat.testBit_two_pow_mul]
    simp
  · refine (congrArg (fun x => x.testBit b) hm).trans ?_
    show (2 ^ tz m * (2 * d + 1)).testBit b = false
    rw [Nat.testBit_two_pow_mul]
    have : ¬ (b ≥ tz m) := by omega
    simp [this]
theorem tz_low {m : Nat} (h0 : m ≠ 0) (h : m < 18446744073709551616) : m &&& (18446744073709551616 - m) % 18446744073709551616 = 2 ^ tz m := by
  have h1 := (Lib.lowest_bit 64 m h0 h).1
  rw [Nat.mod_eq_of_lt (by omega)]
  exact h1
theorem tz_table {m : Nat} (h0 : m ≠ 0) (h : m < 18446744073709551616) : (2 ^ tz m * 285870213051353865 % 18446744073709551616) >>> 58 < 64 ∧ Lib.deBruijn64tab.getD ((2 ^ tz m * 285870213051353865 % 18446744073709551616) >>> 58) 0 = tz m := by
  have h1 := Lib.deBruijn64_at (tz m) (Lib.lowest_bit 64 m h0 h).2
  rw [Nat.shiftRight_eq_div_pow]
  exact h1

/-- x is the next member from i on -/
def Nxt (s : List Bool) (i x : Nat) : Prop := i ≤ x ∧ s.getD x false = true ∧ ∀ j, i ≤ j → j < x → s.getD j false = false
def Non (s : List Bool) (i : Nat) : Prop := ∀ j, i ≤ j → s.getD j false = false
theorem Nxt.lt {s : List Bool} {i x : Nat} (h : Nxt s i x) : x < s.length := by
  rcases Nat.lt_or_ge x s.length with h1 | h1
  · exact h1
  · have := h.2.1
    rw [getD_ge s false h1] at this; cases this
theorem nums_gap {s : List Bool} {a b : Nat} (h : a ≤ b) (hb : b ≤ s.length) (hg : ∀ j, a ≤ j → j < b → s.getD j false = false) : nums (s.take b) = nums (s.take a) := by
  induction b with
  | zero => have : a = 0 := by omega
            rw [this]
  | succ b ih =>
    rcases Nat.lt_or_ge a (b + 1) with h1 | h1
    · rw [nums_take_succ s b (by omega), hg b (by omega) (by omega), ih (by omega) (by omega) (fun j h2 h3 => hg j h2 (by omega))]
      simp
    · have : a = b + 1 := by omega
      rw [this]
theorem Nxt.nums {s : List Bool} {i x : Nat} (h : Nxt s i x) : nums (s.take (x + 1)) = nums (s.take i) ++ [x] := by
  rw [nums_take_succ s x h.lt, h.2.1, nums_gap h.1 (Nat.le_of_lt h.lt) h.2.2]; rfl
theorem Non.nums {s : List Bool} {i : Nat} (h : Non s i) : nums s = nums (s.take i) := by
  rcases Nat.lt_or_ge i s.length with h1 | h1
  · have := nums_gap (s := s) (Nat.le_of_lt h1) (Nat.le_refl _) (fun j h2 _ => h j h2)
    rwa [List.take_length] at this
  · rw [List.take_of_length_le h1]
/-- within the first word looked at -/
theorem nxt_here {s : List Bool} {i : Nat} (h0 : wordAt s (i / 64) >>> (i % 64) ≠ 0) : Nxt s i (i + tz (wordAt s (i / 64) >>> (i % 64))) := by
  have hlt : wordAt s (i / 64) >>> (i % 64) < 18446744073709551616 := by
    rw [Nat.shiftRight_eq_div_pow]; exact Nat.lt_of_le_of_lt (Nat.div_le_self _ _) (wordAt_lt _ _)
  obtain ⟨h1, h2, h3⟩ := tz_spec h0 hlt
  have key : ∀ b, (wordAt s (i / 64) >>> (i % 64)).testBit b = (decide (i % 64 + b < 64) && s.getD (i + b) false) := by
    intro b
    rw [testBit_shr, wordAt_testBit, show 64 * (i / 64) + (i % 64 + b) = i + b by omega]
  refine ⟨by omega, ?_, fun j hj hlt => ?_⟩
  · rw [key] at h2
    simp only [Bool.and_eq_true] at h2
    exact h2.2
  · have h4 := h3 (j - i) (by omega)
    rw [key] at h4
    have h5 := h2
    rw [key] at h5
    simp only [Bool.and_eq_true, decide_eq_true_eq] at h5
    have : i % 64 + (j - i) < 64 := by omega
    simp only [this, decide_true, Bool.true_and] at h4
    rwa [show i + (j - i) = j by omega] at h4
theorem non_here {s : List Bool} {i : Nat} (h0 : wordAt s (i / 64) >>> (i % 64) = 0) : ∀ j, i ≤ j → j < 64 * (i / 64 + 1) → s.getD j false = false := by
  intro j h1 h2
  have h3 : (wordAt s (i / 64) >>> (i % 64)).testBit (j - i) = false := by rw [h0, Nat.zero_testBit]
  rw [testBit_shr, wordAt_testBit, show 64 * (i / 64) + (i % 64 + (j - i)) = j by omega] at h3
  have : i % 64 + (j - i) < 64 := by omega
  simpa [this] using h3
theorem nxt_word {s : List Bool} {i k : Nat} (hi : i ≤ 64 * k) (hg : ∀ j, i ≤ j → j < 64 * k → s.getD j false = false) (h0 : wordAt s k ≠ 0) : Nxt s i (64 * k + tz (wordAt s k)) := by
  obtain ⟨h1, h2, h3⟩ := tz_spec h0 (wordAt_lt _ _)
  rw [wordAt_testBit] at h2
  simp only [Bool.and_eq_true, decide_eq_true_eq] at h2
  refine ⟨by omega, h2.2, fun j hj hlt => ?_⟩
  rcases Nat.lt_or_ge j (64 * k) with h4 | h4
  · exact hg j hj h4
  · have h5 := h3 (j - 64 * k) (by omega)
    rw [wordAt_testBit] at h5
    have : j - 64 * k < 64 := by omega
    simp only [this, decide_true, Bool.true_and] at h5
    rwa [show 64 * k + (j - 64 * k) = j by omega] at h5
theorem non_word {s : List Bool} {i k : Nat} (hg : ∀ j, i ≤ j → j < 64 * k → s.getD j false = false) (h0 : wordAt s k = 0) : ∀ j, i ≤ j → j < 64 * (k + 1) → s.getD j false = false := by
  intro j h1 h2
  rcases Nat.lt_or_ge j (64 * k) with h4 | h4
  · exact hg j h1 h4
  · have h5 : (wordAt s k).testBit (j - 64 * k) = false := by rw [h0, Nat.zero_testBit]
    rw [wordAt_testBit] at h5
    have : j - 64 * k < 64 := by omega
    simp only [this, decide_true, Bool.true_and] at h5
    rwa [show 64 * k + (j - 64 * k) = j by omega] at h5
theorem non_past {s : List Bool} {i k : Nat} (hg : ∀ j, i ≤ j → j < 64 * k → s.getD j false = false) (hk : nW s.length ≤ k) : Non s i := by
  intro j hj
  rcases Nat.lt_or_ge j (64 * k) with h4 | h4
  · exact hg j hj h4
  · exact getD_ge _ _ (by unfold nW at hk; omega)
end Go.Proofs.YtbahhdeblppooaaDoor

/- The highest bit of a number; the place before: plain lemmas, without Go. -/
import Derived.Test.YtbahhdeblppooaaDoorL11
import Derived.Test.YtbahhdeblppooaaDoorL10
set_option linter.unusedVariables false
set_option linter.unusedSimpArgs false
namespace Go.Proofs.YtbahhdeblppooaaDoor

/-- how many bits a number takes -/
def lg (x : Nat) : Nat := if x = 0 then 0 else Nat.log2 x + 1
theorem lg_zero : lg 0 = 0 := rfl
theorem lg_eq {x n : Nat} (h1 : 2 ^ n ≤ x) (h2 : x < 2 ^ (n + 1)) : lg x = n + 1 := by
  have hp := Nat.two_pow_pos n
  have h0 : x ≠ 0 := by omega
  unfold lg
  rw [if_neg h0]
  have h3 := Nat.log2_self_le h0
  have h4 := Nat.lt_log2_self (n := x)
  rcases Nat.lt_trichotomy (Nat.log2 x) n with h | h | h
  · have : 2 ^ (Nat.log2 x + 1) ≤ 2 ^ n := Nat.pow_le_pow_right (by decide) (by omega)
    omega
  · omega
  · have : 2 ^ (n + 1) ≤ 2 ^ (Nat.log2 x) := Nat.pow_le_pow_right (by decide) (by omega)
    omega
theorem lg_spec {x : Nat} (h : x ≠ 0) : ∃ n, lg x = n + 1 ∧ 2 ^ n ≤ x ∧ x < 2 ^ (n + 1) := by
  refine ⟨Nat.log2 x, by unfold lg; rw [if_neg h], Nat.log2_self_le h, Nat.lt_log2_self⟩
theorem lg_shift {x k : Nat} (h : 2 ^ k ≤ x) : lg x = k + lg (x >>> k) := by
  have hp := Nat.two_pow_pos k
  have h1 : x >>> k ≠ 0 := by
    rw [Nat.shiftRight_eq_div_pow]
    have := Nat.div_pos h hp
    omega
  obtain ⟨n, h2, h3, h4⟩ := lg_spec h1
  rw [h2, ← Nat.add_assoc]
  rw [Nat.shiftRight_eq_div_pow] at h3 h4
  refine lg_eq ?_ ?_
  · rw [Nat.pow_add, Nat.mul_comm]
    exact (Nat.le_div_iff_mul_le hp).1 h3
  · rw [show k + n + 1 = n + 1 + k by omega, Nat.pow_add]
    exact (Nat.div_lt_iff_lt_mul hp).1 h4
theorem lg_le {x n : Nat} (h : x < 2 ^ n) : lg x ≤ n := by
  by_cases h0 : x = 0
  · subst h0; simp [lg]
  · obtain ⟨k, h1, h2, h3⟩ := lg_spec h0
    rw [h1]
    rcases Nat.lt_or_ge k n with h4 | h4
    · omega
    · have : 2 ^ n ≤ 2 ^ k := Nat.pow_le_pow_right (by decide) h4
      omega
theorem lg_pos {x : Nat} (h : x ≠ 0) : 0 < lg x := by
  obtain ⟨k, h1, _⟩ := lg_spec h
  omega
theorem lg_top {x : Nat} (h : x ≠ 0) : x.testBit (lg x - 1) = true ∧ ∀ b, lg x ≤ b → x.testBit b = false := by
  obtain ⟨n, h1, h2, h3⟩ := lg_spec h
  rw [h1]
  refine ⟨?_, fun b hb => Nat.testBit_lt_two_pow (Nat.lt_of_lt_of_le h3 (Nat.pow_le_pow_right (by decide) hb))⟩
  show x.testBit n = true
  obtain ⟨y, rfl⟩ : ∃ y, x = 2 ^ n + y := ⟨x - 2 ^ n, by omega⟩
  rw [Nat.testBit_two_pow_add_eq, Nat.testBit_lt_two_pow (by rw [Nat.pow_succ] at h3; omega)]
  rfl

/-- the greatest place up to i where f is true -/
def PrvF (f : Nat → Bool) (i x : Nat) : Prop := x ≤ i ∧ f x = true ∧ ∀ j, x < j → j ≤ i → f j = false
def NoPF (f : Nat → Bool) (i : Nat) : Prop := ∀ j, j ≤ i → f j = false
theorem PrvF.unique {f : Nat → Bool} {i x y : Nat} (h : PrvF f i x) (h2 : PrvF f i y) : x = y := by
  rcases Nat.lt_trichotomy x y with e | e | e
  · have := h.2.2 y e h2.1
    rw [h2.2.1] at this; cases this
  · exact e
  · have := h2.2.2 x e h.1
    rw [h.2.1] at this; cases this
theorem PrvF.not {f : Nat → Bool} {i x : Nat} (h : PrvF f i x) (h2 : NoPF f i) : False := by
  have := h2 x h.1
  rw [h.2.1] at this; cases this
theorem PrvF.congr {f g : Nat → Bool} {i x : Nat} (h : PrvF f i x) (e : ∀ j, j ≤ i → f j = g j) : PrvF g i x :=
  ⟨h.1, by rw [← e x h.1]; exact h.2.1, fun j h1 h2 => by rw [← e j h2]; exact h.2.2 j h1 h2⟩
theorem NoPF.congr {f g : Nat → Bool} {i : Nat} (h : NoPF f i) (e : ∀ j, j ≤ i → f j = g j) : NoPF g i := fun j hj => by rw [← e j hj]; exact h j hj
/-- the place before, in a word k of which the bits above a place are struck -/
theorem prv_word {f : Nat → Bool} {i k x : Nat} (h0 : x ≠ 0) (hx : x < 18446744073709551616) (hk : k ≤ i / 64) (hb : ∀ t, t < 64 → x.testBit t = (decide (64 * k + t ≤ i) && f (64 * k + t))) (hg : ∀ j, 64 * (k + 1) ≤ j → j ≤ i → f j = false) :
    PrvF f i (64 * k + lg x - 1) := by
  have h1 := lg_pos h0
  have h64 := lg_le (n := 64) hx
  obtain ⟨h2, h3⟩ := lg_top h0
  have e := hb (lg x - 1) (by omega)
  rw [h2] at e
  have e1 : 64 * k + (lg x - 1) = 64 * k + lg x - 1 := by omega
  rw [e1] at e
  simp only [Bool.true_eq, Bool.and_eq_true, decide_eq_true_eq] at e
  refine ⟨e.1, e.2, fun j hj1 hj2 => ?_⟩
  rcases Nat.lt_or_ge j (64 * (k + 1)) with h | h
  · have e2 := hb (j - 64 * k) (by omega)
    rw [h3 _ (by omega), show 64 * k + (j - 64 * k) = j by omega] at e2
    simpa [hj2] using e2.symm
  · exact hg j h hj2
theorem prv_none {f : Nat → Bool} {i k x : Nat} (h0 : x = 0) (hb : ∀ t, t < 64 → x.testBit t = (decide (64 * k + t ≤ i) && f (64 * k + t))) (hg : ∀ j, 64 * (k + 1) ≤ j → j ≤ i → f j = false) :
    ∀ j, 64 * k ≤ j → j ≤ i → f j = false := by
  intro j h1 h2
  rcases Nat.lt_or_ge j (64 * (k + 1)) with h | h
  · have e2 := hb (j - 64 * k) (by omega)
    rw [h0, show 64 * k + (j - 64 * k) = j by omega] at e2
    simpa [h2] using e2.symm
  · exact hg j h h2
/-- the mask of the bits up to r -/
theorem upto_mask {r : Nat} (hr : r < 64) (t : Nat) (ht : t < 64) : (((1 <<< (r + 1)) % 18446744073709551616 + (18446744073709551616 - 1)) % 18446744073709551616).testBit t = decide (t ≤ r) := by
  by_cases h : r = 63
  · subst h
    have e : ((1 <<< (63 + 1)) % 18446744073709551616 + (18446744073709551616 - 1)) % 18446744073709551616 = 2 ^ 64 - 1 := by decide
    rw [e, Nat.testBit_two_pow_sub_one]
    exact decide_eq_decide.2 (by omega)
  · have e1 : (1 <<< (r + 1)) % 18446744073709551616 = 2 ^ (r + 1) := by
      rw [Nat.shiftLeft_eq, Nat.one_mul]
      exact Nat.mod_eq_of_lt (Nat.pow_lt_pow_right (a := 2) (by decide) (show r + 1 < 64 by omega))
    have hp := Nat.two_pow_pos (r + 1)
    have hlt : 2 ^ (r + 1) < 18446744073709551616 := Nat.pow_lt_pow_right (a := 2) (by decide) (show r + 1 < 64 by omega)
    have e2 : (2 ^ (r + 1) + (18446744073709551616 - 1)) % 18446744073709551616 = 2 ^ (r + 1) - 1 := by omega
    rw [e1, e2, Nat.testBit_two_pow_sub_one]
    exact decide_eq_decide.2 (by omega)

theorem Nxt.unique {s : List Bool} {i x y : Nat} (h : Nxt s i x) (h2 : Nxt s i y) : x = y := by
  rcases Nat.lt_trichotomy x y with e | e | e
  · have := h2.2.2 x h.1 e
    rw [h.2.1] at this; cases this
  · exact e
  · have := h.2.2 y h2.1 e
    rw [h2.2.1] at this; cases this
theorem Nxt.not {s : List Bool} {i x : Nat} (h : Nxt s i x) (h2 : Non s i) : False := by
  have := h2 x h.1
  rw [h.2.1] at this; cases this
end Go.Proofs.YtbahhdeblppooaaDoor

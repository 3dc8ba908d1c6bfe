/- The next number that is not in a set: plain lemmas, without Go. -/
import Derived.Test.YtbahhdeblppooaaDoorL20
set_option linter.unusedVariables false
set_option linter.unusedSimpArgs false
namespace Go.Proofs.YtbahhdeblppooaaDoor

theorem tz_le (m : Nat) (h : m < 18446744073709551616) : tz m ≤ 64 := by
  by_cases h0 : m = 0
  · subst h0; decide
  · have := tz_spec h0 h; omega
/-- a word of which m bits count: those of s from B on -/
theorem clr_word {s : List Bool} {B m x y : Nat} (hm : m ≤ 64) (hx : x < 18446744073709551616) (hxb : ∀ t, t < 64 → x.testBit t = (decide (t < m) && s.getD (B + t) false)) (hy : y < 18446744073709551616) (hyb : ∀ t, t < 64 → y.testBit t = decide (t < m)) :
    (x ≠ y → B + tz (nt' x) < s.length → Nxt (bnots s) B (B + tz (nt' x))) ∧ ((x = y ∨ s.length ≤ B + tz (nt' x)) → ∀ j, B ≤ j → j < B + m → (bnots s).getD j false = false) := by
  have hn := nt_lt64 hx
  have hnb : ∀ t, t < 64 → (nt' x).testBit t = !(decide (t < m) && s.getD (B + t) false) := fun t ht => by rw [nt_testBit, hxb t ht]; simp [ht]
  have hne : x ≠ y → ∃ t, t < m ∧ s.getD (B + t) false = false := by
    intro h
    apply Classical.byContradiction
    intro hno
    apply h
    apply Nat.eq_of_testBit_eq
    intro t
    by_cases ht : t < 64
    · rw [hxb t ht, hyb t ht]
      by_cases htm : t < m
      · have : s.getD (B + t) false ≠ false := fun e => hno ⟨t, htm, e⟩
        simp at this
        simp [htm, this]
      · simp [htm]
    · rw [testBit_big hx (by omega), testBit_big hy (by omega)]
  have hz : x ≠ y → tz (nt' x) < m ∧ s.getD (B + tz (nt' x)) false = false ∧ ∀ t, t < tz (nt' x) → s.getD (B + t) false = true := by
    intro h
    obtain ⟨t, htm, ht⟩ := hne h
    have h0 : nt' x ≠ 0 := by
      intro e
      have := hnb t (by omega)
      rw [e, ht] at this; simp at this
    obtain ⟨h1, h2, h3⟩ := tz_spec h0 hn
    have hle : tz (nt' x) ≤ t := by
      rcases Nat.lt_or_ge t (tz (nt' x)) with h4 | h4
      · have e := h3 t h4
        rw [hnb t (by omega), ht] at e; simp at e
      · exact h4
    refine ⟨by omega, ?_, fun u hu => ?_⟩
    · have e := hnb _ h1
      rw [h2] at e
      simpa [show tz (nt' x) < m by omega] using e.symm
    · have e := h3 u hu
      rw [hnb u (by omega)] at e
      simpa [show u < m by omega] using e
  refine ⟨fun h hl => ?_, fun h j h1 h2 => ?_⟩
  · obtain ⟨h1, h2, h3⟩ := hz h
    refine ⟨by omega, by rw [bnots_getD, h2]; simp [hl], fun j hj1 hj2 => ?_⟩
    have := h3 (j - B) (by omega)
    rw [show B + (j - B) = j by omega] at this
    rw [bnots_getD, this]; simp
  · rw [bnots_getD]
    by_cases hl : j < s.length
    · by_cases hxy : x = y
      · have e1 := hxb (j - B) (by omega)
        have e2 := hyb (j - B) (by omega)
        rw [hxy, e2, show B + (j - B) = j by omega] at e1
        have : s.getD j false = true := by simpa [show j - B < m by omega] using e1.symm
        rw [this]; simp
      · rcases h with h | h
        · exact absurd h hxy
        · have := (hz hxy).2.2 (j - B) (by omega)
          rw [show B + (j - B) = j by omega] at this
          rw [this]; simp
    · simp [hl]
theorem Nxt.after {t : List Bool} {i B x : Nat} (h : Nxt t B x) (hi : i ≤ B) (hg : ∀ j, i ≤ j → j < B → t.getD j false = false) : Nxt t i x :=
  ⟨by have := h.1; omega, h.2.1, fun j h1 h2 => by
    rcases Nat.lt_or_ge j B with h3 | h3
    · exact hg j h1 h3
    · exact h.2.2 j h3 h2⟩
theorem bnots_length (s : List Bool) : (bnots s).length = s.length := by simp [bnots]
end Go.Proofs.YtbahhdeblppooaaDoor

/- A set is known by its length and its numbers. -/
import Derived.Test.YtbahhdeblppooaaDoorL12
import Derived.Test.YtbahhdeblppooaaDoorL10
set_option linter.unusedVariables false
set_option linter.unusedSimpArgs false
namespace Go.Proofs.YtbahhdeblppooaaDoor

theorem mem_numsFrom (s : List Bool) : ∀ i j, j ∈ numsFrom i s ↔ i ≤ j ∧ s.getD (j - i) false = true := by
  induction s with
  | nil => intro i j; simp [numsFrom]
  | cons b r ih =>
    intro i j
    have e : ∀ k, (b :: r).getD (k + 1) false = r.getD k false := fun k => by simp
    have e0 : (b :: r).getD 0 false = b := by simp
    unfold numsFrom
    rcases Nat.lt_trichotomy j i with h | h | h
    · constructor
      · intro hm
        split at hm
        · rcases List.mem_cons.1 hm with h1 | h1
          · omega
          · have := ((ih (i + 1) j).1 h1).1; omega
        · have := ((ih (i + 1) j).1 hm).1; omega
      · intro h1; omega
    · subst h
      rw [Nat.sub_self, e0]
      constructor
      · intro hm
        split at hm
        · rename_i hb; exact ⟨Nat.le_refl _, hb⟩
        · have := ((ih (j + 1) j).1 hm).1; omega
      · intro h1
        rw [if_pos h1.2]; exact List.mem_cons_self ..
    · rw [show j - i = (j - (i + 1)) + 1 by omega, e]
      constructor
      · intro hm
        split at hm
        · rcases List.mem_cons.1 hm with h1 | h1
          · omega
          · have := (ih (i + 1) j).1 h1; exact ⟨by omega, this.2⟩
        · have := (ih (i + 1) j).1 hm; exact ⟨by omega, this.2⟩
      · intro h1
        have h2 := (ih (i + 1) j).2 ⟨by omega, h1.2⟩
        split
        · exact List.mem_cons_of_mem _ h2
        · exact h2
theorem mem_nums (s : List Bool) (j : Nat) : j ∈ nums s ↔ s.getD j false = true := by
  unfold nums; rw [mem_numsFrom]; simp
theorem mkS_nums (s : List Bool) : mkS s.length (nums s) = s := by
  have hl : (mkS s.length (nums s)).length = s.length := by
    rw [mkS_length]
    have h1 := mkN_le s.length s.length (nums s) (Nat.le_refl _) (nums_lt s)
    have h2 := (mkN_ge s.length (nums s)).1
    omega
  refine bool_ext hl fun i hi => ?_
  rw [mkS_getD]
  have := mem_nums s i
  cases h : s.getD i false
  · rw [h] at this; exact decide_eq_false (fun hm => by have := this.1 hm; cases this)
  · rw [h] at this; exact decide_eq_true (this.2 rfl)
theorem nums_pad (s : List Bool) (k : Nat) : nums (s ++ List.replicate k false) = nums s := by
  induction k with
  | zero => simp
  | succ k ih => rw [List.replicate_succ', ← List.append_assoc, nums_snoc, ih]; simp
theorem nums_congr {s t : List Bool} (h : ∀ i, s.getD i false = t.getD i false) : nums s = nums t := by
  have e : ext s (max s.length t.length) = ext t (max s.length t.length) := by
    refine bool_ext (by rw [ext_length, ext_length]; omega) fun i _ => ?_
    rw [ext_getD, ext_getD, h]
  have h1 : nums (ext s (max s.length t.length)) = nums s := nums_pad _ _
  have h2 : nums (ext t (max s.length t.length)) = nums t := nums_pad _ _
  rw [← h1, e, h2]
theorem flipR_twice (s : List Bool) (a b : Nat) : nums (flipR (flipR s a b) a b) = nums s := by
  by_cases h : a < b
  · refine nums_congr fun i => ?_
    rw [flipR_getD h, flipR_getD h]
    cases s.getD i false <;> cases inR a b i <;> rfl
  · unfold flipR; rw [if_neg h, if_neg h]
theorem nums_le (s : List Bool) (B : Nat) (h : s.length ≤ B + 1) : ∀ x ∈ nums s, x ≤ B := fun x hx => by have := nums_lt s x hx; omega
end Go.Proofs.YtbahhdeblppooaaDoor

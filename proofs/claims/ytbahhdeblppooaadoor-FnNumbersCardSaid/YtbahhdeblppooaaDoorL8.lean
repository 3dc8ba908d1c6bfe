/- The number of a set's j-th member: the halving search in a word, and the words before it. -/
import Derived.Test.YtbahhdeblppooaaDoorL7
set_option linter.unusedVariables false
set_option linter.unusedSimpArgs false
namespace Go.Proofs.YtbahhdeblppooaaDoor

/-- the search in the word m for its j-th bit has come to the k bits from pos on, which are the low bits of x; i bits are to be passed yet -/
def Sel (m j pos k x i : Nat) : Prop :=
  x < 18446744073709551616 ∧ (∀ b, b < k → x.testBit b = m.testBit (pos + b)) ∧ cnt m.testBit pos + i = j ∧ i < cnt x.testBit k ∧ pos + k ≤ 64

theorem Sel.start {m j : Nat} (hm : m < 18446744073709551616) (h : j < popc m) : Sel m j 0 64 m j :=
  ⟨hm, fun b _ => by rw [Nat.zero_add], by simp [cnt], h, by omega⟩

theorem cnt_low {m x h : Nat} (hh : h ≤ 64) (hx : ∀ i, i < 64 → x.testBit i = (m.testBit i && decide (i < h))) : popc x = cnt m.testBit h :=
  popc_and_low m h hh (fun _ => true) x hx

theorem cnt_eq_below {x m h k : Nat} (hh : h ≤ k) (hk : k ≤ 64) (hx : ∀ i, i < 64 → x.testBit i = (m.testBit i && decide (i < h))) : cnt x.testBit h = cnt m.testBit h :=
  cnt_congr fun i hi => by rw [hx i (by omega)]; simp [hi]

theorem Sel.low {m j pos x i h lo : Nat} (s : Sel m j pos (h + h) x i) (hlo : lo < 18446744073709551616) (hb : ∀ i, i < 64 → lo.testBit i = (x.testBit i && decide (i < h))) (hi : i < popc lo) : Sel m j pos h lo i := by
  obtain ⟨h1, h2, h3, h4, h5⟩ := s
  refine ⟨hlo, fun b hbh => ?_, h3, ?_, by omega⟩
  · rw [hb b (by omega), h2 b (by omega)]; simp [hbh]
  · rw [cnt_low (by omega) hb] at hi
    rwa [cnt_eq_below (Nat.le_refl h) (by omega) hb]

theorem Sel.high {m j pos x i h lo : Nat} (s : Sel m j pos (h + h) x i) (hb : ∀ i, i < 64 → lo.testBit i = (x.testBit i && decide (i < h))) (hi : popc lo ≤ i) : Sel m j (pos + h) h (x >>> h) (i - popc lo) := by
  obtain ⟨h1, h2, h3, h4, h5⟩ := s
  rw [cnt_low (by omega) hb] at hi ⊢
  have e1 := cnt_add m.testBit pos h
  have e2 : cnt (fun i => m.testBit (pos + i)) h = cnt x.testBit h := cnt_congr fun b hbh => (h2 b (by omega)).symm
  have e3 := cnt_add x.testBit h h
  have e4 : cnt (fun i => x.testBit (h + i)) h = cnt (x >>> h).testBit h := cnt_congr fun b _ => by rw [testBit_shr]
  refine ⟨?_, fun b hbh => ?_, by omega, by omega, by omega⟩
  · rw [Nat.shiftRight_eq_div_pow]; exact Nat.lt_of_le_of_lt (Nat.div_le_self _ _) h1
  · rw [testBit_shr, h2 (h + b) (by omega), Nat.add_assoc]

theorem low_mask (x h : Nat) (M : Nat) (hM : M = 2 ^ h - 1) : ∀ i, i < 64 → (x &&& M).testBit i = (x.testBit i && decide (i < h)) := by
  intro i _
  rw [hM, Nat.testBit_and, Nat.testBit_two_pow_sub_one]

theorem bit_toNat (x a : Nat) : (x >>> a) &&& 1 = (x.testBit a).toNat := by
  rw [Nat.and_one_is_mod, Nat.shiftRight_eq_div_pow, ← Nat.toNat_testBit]
theorem cnt_bit (f : Nat → Bool) (n : Nat) : cnt f (n + 1) = cnt f n + (f n).toNat := by
  simp only [cnt]; cases f n <;> rfl

theorem Sel.found {m j pos k x i a : Nat} (s : Sel m j pos k x i) (ha : a < k) (hb : x.testBit a = true) (hc : cnt x.testBit a = i) : m.testBit (pos + a) = true ∧ cnt m.testBit (pos + a) = j ∧ pos + a < 64 := by
  obtain ⟨h1, h2, h3, h4, h5⟩ := s
  refine ⟨by rw [← h2 a ha]; exact hb, ?_, by omega⟩
  rw [cnt_add]
  have e2 : cnt (fun i => m.testBit (pos + i)) a = cnt x.testBit a := cnt_congr fun b hba => (h2 b (by omega)).symm
  omega

/-! ### in a set -/
def sel (s : List Bool) (j : Nat) : Nat := (nums s).getD j s.length

theorem nums_prefix (s : List Bool) (k : Nat) (h : k ≤ s.length) : ∃ t, nums s = nums (s.take k) ++ t := by
  obtain ⟨d, hd⟩ : ∃ d, d = s.length - k := ⟨_, rfl⟩
  induction d generalizing k with
  | zero =>
    have : k = s.length := by omega
    exact ⟨[], by rw [this, List.take_length, List.append_nil]⟩
  | succ d ih =>
    obtain ⟨t, ht⟩ := ih (k + 1) (by omega) (by omega)
    rw [nums_take_succ s k (by omega), List.append_assoc] at ht
    exact ⟨_, ht⟩

theorem sel_eq {s : List Bool} {j r : Nat} (hr : s.getD r false = true) (hc : cnt (fun i => s.getD i false) r = j) : sel s j = r := by
  have hlt : r < s.length := by
    rcases Nat.lt_or_ge r s.length with h | h
    · exact h
    · rw [getD_ge s false h] at hr; cases hr
  obtain ⟨t, ht⟩ := nums_prefix s (r + 1) (by omega)
  rw [nums_take_succ s r hlt, if_pos hr] at ht
  have hl := nums_length_take s r (by omega)
  unfold sel
  rw [ht, List.getD_eq_getElem?_getD, List.append_assoc, List.getElem?_append_right (by omega), hl, hc, Nat.sub_self]
  rfl
theorem sel_past {s : List Bool} {j : Nat} (h : count s ≤ j) : sel s j = s.length := by
  unfold sel
  exact getD_ge _ _ (by rw [nums_length]; exact h)
theorem sel_in {s : List Bool} {j : Nat} (h : j < (nums s).length) : (nums s).getD j 0 = sel s j := by
  unfold sel
  rw [List.getD_eq_getElem?_getD, List.getD_eq_getElem?_getD, List.getElem?_eq_getElem h]; rfl
theorem sel_word {s : List Bool} {j k r : Nat} (hk : k < nW s.length) (hj : psum ((pack s).take k) ≤ j) (hr : r < 64) (hb : (wordAt s k).testBit r = true) (hc : cnt (wordAt s k).testBit r = j - psum ((pack s).take k)) : sel s j = 64 * k + r := by
  rw [wordAt_testBit] at hb
  simp only [hr, decide_true, Bool.true_and] at hb
  refine sel_eq hb ?_
  have e1 := btw_words s k (by omega)
  have e2 := btw_word s k r (by omega)
  have e3 := btw_split s 0 (64 * k) (64 * k + r) (by omega) (by omega)
  have e4 : btw s 0 (64 * k + r) = cnt (fun i => s.getD i false) (64 * k + r) := by
    unfold btw; rw [Nat.sub_zero]; exact cnt_congr fun i _ => by rw [Nat.zero_add]
  omega
theorem sel_le (s : List Bool) (j : Nat) : sel s j ≤ s.length := by
  unfold sel
  rcases Nat.lt_or_ge j (nums s).length with h | h
  · rw [List.getD_eq_getElem?_getD, List.getElem?_eq_getElem h]
    exact Nat.le_of_lt (nums_lt s _ (List.getElem_mem h))
  · rw [getD_ge _ _ h]; exact Nat.le_refl _
end Go.Proofs.YtbahhdeblppooaaDoor

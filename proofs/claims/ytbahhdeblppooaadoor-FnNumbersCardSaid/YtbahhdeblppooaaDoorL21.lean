/- Sets whose numbers are made greater or less: plain lemmas, without Go. -/
import Derived.Test.YtbahhdeblppooaaDoorL20
import Derived.Test.YtbahhdeblppooaaDoorL13
import Derived.Test.YtbahhdeblppooaaDoorL12
set_option linter.unusedVariables false
set_option linter.unusedSimpArgs false
namespace Go.Proofs.YtbahhdeblppooaaDoor

theorem numsFrom_add (s : List Bool) (n : Nat) : ∀ i, numsFrom (i + n) s = (numsFrom i s).map (· + n) := by
  induction s with
  | nil => intro i; rfl
  | cons b r ih =>
    intro i
    simp only [numsFrom]
    rw [show i + n + 1 = (i + 1) + n by omega, ih]
    split <;> simp
theorem nums_app (s t : List Bool) : nums (s ++ t) = nums s ++ (nums t).map (· + s.length) := by
  have key : ∀ i, numsFrom i (s ++ t) = numsFrom i s ++ numsFrom (i + s.length) t := by
    induction s with
    | nil => intro i; simp [numsFrom]
    | cons b r ih =>
      intro i
      simp only [List.cons_append, numsFrom, List.length_cons, ih]
      rw [show i + 1 + r.length = i + (r.length + 1) by omega]
      split <;> simp
  unfold nums
  rw [key, ← numsFrom_add]
theorem nums_falses (n : Nat) : nums (List.replicate n false) = [] := by
  have := nums_pad [] n
  simpa [nums, numsFrom] using this

/-- all numbers n greater -/
def shlS (s : List Bool) (n L : Nat) : List Bool := tab L fun x => decide (n ≤ x) && s.getD (x - n) false
theorem shlS_length (s : List Bool) (n L : Nat) : (shlS s n L).length = L := tab_length _ _
theorem shlS_getD {s : List Bool} {n L : Nat} (h : ∀ x, L ≤ x → s.getD (x - n) false = false) (x : Nat) : (shlS s n L).getD x false = (decide (n ≤ x) && s.getD (x - n) false) := by
  unfold shlS
  rw [tab_getD]
  by_cases hx : x < L
  · simp [hx]
  · rw [h x (by omega)]; simp
theorem nums_shl {s : List Bool} {n L : Nat} (h : ∀ x, L ≤ x → s.getD (x - n) false = false) : nums (shlS s n L) = (nums s).map (· + n) := by
  have e : nums (shlS s n L) = nums (List.replicate n false ++ s) := nums_congr fun i => by
    rw [shlS_getD h]
    simp only [List.getD_eq_getElem?_getD]
    by_cases hi : n ≤ i
    · rw [List.getElem?_append_right (by simpa using hi)]; simp [hi]
    · rw [List.getElem?_append_left (by simp; omega), List.getElem?_replicate]; simp [hi, show i < n by omega]
  rw [e, nums_app, nums_falses, List.length_replicate, List.nil_append]
/-- all numbers n less -/
def shrS (s : List Bool) (n : Nat) : List Bool := tab s.length fun x => s.getD (x + n) false
theorem shrS_length (s : List Bool) (n : Nat) : (shrS s n).length = s.length := tab_length _ _
theorem shrS_getD (s : List Bool) (n x : Nat) : (shrS s n).getD x false = s.getD (x + n) false := by
  unfold shrS
  rw [tab_getD]
  by_cases hx : x < s.length
  · simp [hx]
  · rw [getD_ge s false (by omega)]; simp
theorem nums_shr (s : List Bool) (n : Nat) : nums (shrS s n) = ((nums s).filter fun x => decide (n ≤ x)).map (· - n) := by
  have e : nums (shrS s n) = nums (s.drop n) := nums_congr fun i => by
    rw [shrS_getD]
    simp only [List.getD_eq_getElem?_getD, List.getElem?_drop]
    rw [Nat.add_comm]
  have h := nums_app (s.take n) (s.drop n)
  rw [List.take_append_drop] at h
  rw [e, h, List.filter_append, List.map_append]
  have h1 : (nums (s.take n)).filter (fun x => decide (n ≤ x)) = [] := by
    apply List.filter_eq_nil_iff.2
    intro x hx
    have := nums_lt (s.take n) x hx
    simp only [List.length_take] at this
    simp; omega
  rw [h1, List.map_nil, List.nil_append]
  by_cases hn : n ≤ s.length
  · have hl : (s.take n).length = n := by simp; omega
    rw [hl, List.filter_eq_self.2 (by intro x hx; obtain ⟨y, _, rfl⟩ := List.mem_map.1 hx; simp)]
    rw [List.map_map]
    symm
    conv => rhs; rw [← List.map_id (nums (s.drop n))]
    apply List.map_congr_left
    intro x _
    simp
  · rw [List.drop_eq_nil_of_le (by omega)]
    simp [nums, numsFrom]
theorem nums_shl_shr {s : List Bool} {n L : Nat} (h : ∀ x, L ≤ x → s.getD (x - n) false = false) : nums (shrS (shlS s n L) n) = nums s := by
  apply nums_congr
  intro i
  rw [shrS_getD, shlS_getD h]
  simp
/-- no number above the greatest one -/
theorem top_none {s : List Bool} {N x : Nat} (h : PrvF (fun j => s.getD j false) N x) (hN : s.length ≤ N + 1) : ∀ j, x < j → s.getD j false = false := by
  intro j hj
  rcases Nat.lt_or_ge N j with h1 | h1
  · exact getD_ge s false (by omega)
  · exact h.2.2 j hj h1

/-! words that are moved up -/
theorem shl_word {s t : List Bool} {n : Nat} (ht : ∀ x, t.getD x false = (decide (n ≤ x) && s.getD (x - n) false)) (i : Nat) (h0 : n % 64 ≠ 0) :
    wordAt t (i + 1 + n / 64) = ((wordAt s (i + 1) <<< (n % 64)) % 18446744073709551616) ||| (wordAt s i >>> (64 - n % 64)) := by
  apply Nat.eq_of_testBit_eq
  intro b
  have hn := bit64 n
  rw [Nat.testBit_or, testBit_shl, testBit_shr, wordAt_testBit, wordAt_testBit, wordAt_testBit, ht]
  by_cases hb : b < 64
  · by_cases h : n % 64 ≤ b
    · have e : 64 * (i + 1 + n / 64) + b - n = 64 * (i + 1) + (b - n % 64) := by omega
      simp [hb, h, e, show n ≤ 64 * (i + 1 + n / 64) + b by omega, show b - n % 64 < 64 by omega, show ¬ 64 - n % 64 + b < 64 by omega]
    · have e : 64 * (i + 1 + n / 64) + b - n = 64 * i + (64 - n % 64 + b) := by omega
      simp [hb, h, e, show n ≤ 64 * (i + 1 + n / 64) + b by omega, show 64 - n % 64 + b < 64 by omega]
  · simp [hb, show ¬ 64 - n % 64 + b < 64 by omega]
theorem shl_word0 {s t : List Bool} {n : Nat} (ht : ∀ x, t.getD x false = (decide (n ≤ x) && s.getD (x - n) false)) :
    wordAt t (n / 64) = (wordAt s 0 <<< (n % 64)) % 18446744073709551616 := by
  apply Nat.eq_of_testBit_eq
  intro b
  have hn := bit64 n
  rw [testBit_shl, wordAt_testBit, wordAt_testBit, ht]
  by_cases hb : b < 64
  · by_cases h : n % 64 ≤ b
    · have e : 64 * (n / 64) + b - n = b - n % 64 := by omega
      simp [hb, h, e, show n ≤ 64 * (n / 64) + b by omega, show b - n % 64 < 64 by omega]
    · simp [h, show ¬ n ≤ 64 * (n / 64) + b by omega]
  · simp [hb]
theorem shl_wordp {s t : List Bool} {n : Nat} (ht : ∀ x, t.getD x false = (decide (n ≤ x) && s.getD (x - n) false)) (i : Nat) (h0 : n % 64 = 0) :
    wordAt t (i + n / 64) = wordAt s i := by
  apply Nat.eq_of_testBit_eq
  intro b
  rw [wordAt_testBit, wordAt_testBit, ht]
  by_cases hb : b < 64
  · have e : 64 * (i + n / 64) + b - n = 64 * i + b := by omega
    simp [hb, e, show n ≤ 64 * (i + n / 64) + b by omega]
  · simp [hb]
theorem shl_low {s t : List Bool} {n : Nat} (ht : ∀ x, t.getD x false = (decide (n ≤ x) && s.getD (x - n) false)) (j : Nat) (h : j < n / 64) : wordAt t j = 0 := by
  apply Nat.eq_of_testBit_eq
  intro b
  rw [wordAt_testBit, ht, Nat.zero_testBit]
  by_cases hb : b < 64
  · simp [show ¬ n ≤ 64 * j + b by omega]
  · simp [hb]
theorem word_none {t : List Bool} {j : Nat} (h : ∀ x, 64 * j ≤ x → t.getD x false = false) : wordAt t j = 0 := by
  apply Nat.eq_of_testBit_eq
  intro b
  rw [wordAt_testBit, h _ (by omega), Nat.zero_testBit, Bool.and_false]
/-- words are those of a list if each is -/
theorem pack_words {ws : List Nat} {t : List Bool} (hl : ws.length = nW t.length) (h : ∀ j, j < ws.length → ws.getD j 0 = wordAt t j) : ws = pack t := by
  apply List.ext_getElem (by rw [hl, pack_length])
  intro j h1 h2
  have e := h j h1
  rw [← pack_getD] at e
  simpa [List.getD_eq_getElem?_getD, h1, h2] using e
theorem set_getD_nat (ws : List Nat) (i j x : Nat) (h : i < ws.length) : (ws.set i x).getD j 0 = if j = i then x else ws.getD j 0 := by
  rw [List.getD_eq_getElem?_getD, List.getD_eq_getElem?_getD, List.getElem?_set]
  by_cases e : i = j
  · subst e; simp [h]
  · simp [e, Ne.symm e]
/-! words that are moved down -/
theorem shr_word (s : List Bool) (n i : Nat) (h0 : n % 64 ≠ 0) : wordAt (shrS s n) i = (wordAt s (i + n / 64) >>> (n % 64)) ||| ((wordAt s (i + n / 64 + 1) <<< (64 - n % 64)) % 18446744073709551616) := by
  apply Nat.eq_of_testBit_eq
  intro b
  have hn := bit64 n
  rw [Nat.testBit_or, testBit_shl, testBit_shr, wordAt_testBit, wordAt_testBit, wordAt_testBit, shrS_getD]
  by_cases hb : b < 64
  · by_cases h : n % 64 + b < 64
    · have e : 64 * (i + n / 64) + (n % 64 + b) = 64 * i + b + n := by omega
      simp [hb, h, e, show ¬ 64 - n % 64 ≤ b by omega]
    · have e : 64 * (i + n / 64 + 1) + (b - (64 - n % 64)) = 64 * i + b + n := by omega
      simp [hb, h, e, show 64 - n % 64 ≤ b by omega, show b - (64 - n % 64) < 64 by omega]
  · simp [hb, show ¬ n % 64 + b < 64 by omega]
theorem shr_wordp (s : List Bool) (n i : Nat) (h0 : n % 64 = 0) : wordAt (shrS s n) i = wordAt s (i + n / 64) := by
  apply Nat.eq_of_testBit_eq
  intro b
  rw [wordAt_testBit, wordAt_testBit, shrS_getD]
  have e : 64 * (i + n / 64) + b = 64 * i + b + n := by omega
  rw [e]
end Go.Proofs.YtbahhdeblppooaaDoor

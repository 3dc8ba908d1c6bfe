/- Counts of numbers: of words, of lists of truths, between two places; plain lemmas, without Go. -/
import Derived.Test.YtbahhdeblppooaaDoorL4
set_option linter.unusedVariables false
set_option linter.unusedSimpArgs false
namespace Go.Proofs.YtbahhdeblppooaaDoor

def psum (ws : List Nat) : Nat := (ws.map popc).sum
def count (s : List Bool) : Nat := cnt (fun i => s.getD i false) s.length
def btw (s : List Bool) (a b : Nat) : Nat := cnt (fun k => s.getD (a + k) false) (b - a)

theorem psum_snoc (ws : List Nat) (x : Nat) : psum (ws ++ [x]) = psum ws + popc x := by simp [psum]
theorem psum_cons (ws : List Nat) (x : Nat) : psum (x :: ws) = popc x + psum ws := by simp [psum]
theorem psum_append (ws vs : List Nat) : psum (ws ++ vs) = psum ws + psum vs := by simp [psum]
theorem psum_le (ws : List Nat) : psum ws ≤ 64 * ws.length := by
  induction ws with
  | nil => simp [psum]
  | cons x r ih => rw [psum_cons, List.length_cons]; have := popc_le x; omega
theorem psum_zeros (n : Nat) : psum (List.replicate n 0) = 0 := by
  induction n with
  | zero => rfl
  | succ n ih => rw [List.replicate_succ, psum_cons, ih, popc_zero]
theorem take_succ_getD' (xs : List Nat) (k : Nat) (h : k < xs.length) : xs.take (k + 1) = xs.take k ++ [xs.getD k 0] := take_succ_getD xs k h
theorem cnt_wbit (ws : List Nat) (k : Nat) (hk : k ≤ ws.length) : cnt (wbit ws) (64 * k) = psum (ws.take k) := by
  induction k with
  | zero => simp [cnt, psum]
  | succ k ih =>
    rw [take_succ_getD ws k (by omega), psum_snoc, show 64 * (k + 1) = 64 * k + 64 by omega, cnt_add, ih (by omega)]
    congr 1
    apply cnt_congr
    intro i hi
    unfold wbit
    rw [show (64 * k + i) / 64 = k by omega, show (64 * k + i) % 64 = i by omega]
theorem cnt_ge {f : Nat → Bool} {n m : Nat} (h : n ≤ m) (hf : ∀ i, n ≤ i → f i = false) : cnt f m = cnt f n := by
  obtain ⟨j, rfl⟩ : ∃ j, m = n + j := ⟨m - n, by omega⟩
  rw [cnt_add, cnt_false (f := fun i => f (n + i)) (fun i _ => hf (n + i) (by omega)), Nat.add_zero]
theorem psum_pack (s : List Bool) : psum (pack s) = count s := by
  have h := cnt_wbit (pack s) (pack s).length (Nat.le_refl _)
  rw [List.take_length] at h
  rw [← h]
  unfold count
  rw [cnt_congr (fun i _ => wbit_pack s i)]
  exact cnt_ge (by rw [pack_length]; unfold nW; omega) (fun i hi => getD_ge s false hi)
theorem count_le (s : List Bool) : count s ≤ s.length := cnt_le _ _
theorem btw_le (s : List Bool) (a b : Nat) : btw s a b ≤ b - a := cnt_le _ _
theorem btw_zero (s : List Bool) (a b : Nat) (h : b ≤ a) : btw s a b = 0 := by unfold btw; rw [Nat.sub_eq_zero_of_le h]; rfl
theorem btw_succ (s : List Bool) (a b : Nat) (h : a ≤ b) : btw s a (b + 1) = btw s a b + (if s.getD b false then 1 else 0) := by
  unfold btw
  rw [show b + 1 - a = (b - a) + 1 by omega]
  simp only [cnt, show a + (b - a) = b from by omega]
theorem btw_split (s : List Bool) (a b c : Nat) (h1 : a ≤ b) (h2 : b ≤ c) : btw s a c = btw s a b + btw s b c := by
  unfold btw
  rw [show c - a = (b - a) + (c - b) by omega, cnt_add]
  congr 1
  apply cnt_congr
  intro i _
  rw [show a + (b - a + i) = b + i by omega]
theorem btw_past (s : List Bool) (a b : Nat) (h : s.length ≤ a) : btw s a b = 0 := cnt_false (fun i _ => getD_ge s false (by omega))
theorem btw_min (s : List Bool) (a b : Nat) : btw s a (min b s.length) = btw s a b := by
  rcases Nat.le_total b s.length with h | h
  · rw [Nat.min_eq_left h]
  · rw [Nat.min_eq_right h]
    rcases Nat.le_total a s.length with h2 | h2
    · rw [btw_split s a s.length b h2 h, btw_past s s.length b (Nat.le_refl _), Nat.add_zero]
    · rw [btw_zero s a _ h2, btw_past s a b h2]
theorem btw_all (s : List Bool) : btw s 0 s.length = count s := by
  unfold btw count
  apply cnt_congr
  intro i _
  rw [Nat.zero_add]
/-- whole words -/
theorem btw_words (s : List Bool) (k : Nat) (h : k ≤ nW s.length) : btw s 0 (64 * k) = psum ((pack s).take k) := by
  rw [← cnt_wbit _ _ (by rw [pack_length]; exact h)]
  unfold btw
  apply cnt_congr
  intro i _
  rw [Nat.zero_add, wbit_pack]

/-! ### the numbers of a list of truths -/
theorem numsFrom_snoc (s : List Bool) (b : Bool) : ∀ i, numsFrom i (s ++ [b]) = numsFrom i s ++ (if b then [i + s.length] else []) := by
  induction s with
  | nil => intro i; cases b <;> simp [numsFrom]
  | cons x r ih =>
    intro i
    simp only [List.cons_append, numsFrom, ih, List.length_cons]
    rw [show i + 1 + r.length = i + (r.length + 1) by omega]
    cases x <;> simp
theorem nums_snoc (s : List Bool) (b : Bool) : nums (s ++ [b]) = nums s ++ (if b then [s.length] else []) := by
  unfold nums; rw [numsFrom_snoc, Nat.zero_add]
theorem take_succ_getDB (s : List Bool) (k : Nat) (h : k < s.length) : s.take (k + 1) = s.take k ++ [s.getD k false] := by
  rw [List.take_succ_eq_append_getElem h]
  simp [List.getD_eq_getElem?_getD, h]
theorem nums_take_succ (s : List Bool) (k : Nat) (h : k < s.length) : nums (s.take (k + 1)) = nums (s.take k) ++ (if s.getD k false then [k] else []) := by
  rw [take_succ_getDB s k h, nums_snoc]
  simp [Nat.min_eq_left (Nat.le_of_lt h)]
theorem nums_length_take (s : List Bool) (k : Nat) (h : k ≤ s.length) : (nums (s.take k)).length = cnt (fun i => s.getD i false) k := by
  induction k with
  | zero => rfl
  | succ k ih =>
    rw [nums_take_succ s k (by omega), List.length_append, ih (by omega)]
    simp only [cnt]
    by_cases hb : s.getD k false = true
    · rw [if_pos hb, if_pos hb]; rfl
    · rw [if_neg hb, if_neg hb]; rfl
theorem nums_length (s : List Bool) : (nums s).length = count s := by
  have := nums_length_take s s.length (Nat.le_refl _)
  rwa [List.take_length] at this
theorem nums_lt (s : List Bool) : ∀ x ∈ nums s, x < s.length := by
  have key : ∀ k, k ≤ s.length → ∀ x ∈ nums (s.take k), x < k := by
    intro k
    induction k with
    | zero => intro _ x hx; simp [nums, numsFrom] at hx
    | succ k ih =>
      intro hk x hx
      rw [nums_take_succ s k (by omega)] at hx
      rcases List.mem_append.1 hx with h | h
      · have := ih (by omega) x h; omega
      · by_cases hb : s.getD k false = true
        · rw [if_pos hb] at h; simp only [List.mem_singleton] at h; omega
        · rw [if_neg hb] at h; simp at h
  have := key s.length (Nat.le_refl _)
  rwa [List.take_length] at this
end Go.Proofs.YtbahhdeblppooaaDoor

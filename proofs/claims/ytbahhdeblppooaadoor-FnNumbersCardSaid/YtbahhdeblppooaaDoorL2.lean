/- Sets as lists of truths: what it is to put a number in, and the words of it; plain lemmas, without Go. -/
import Derived.Test.YtbahhdeblppooaaDoorL1
set_option linter.unusedVariables false
set_option linter.unusedSimpArgs false
namespace Go.Proofs.YtbahhdeblppooaaDoor

/-- at least as long -/
def ext (s : List Bool) (n : Nat) : List Bool := s ++ List.replicate (n - s.length) false
def put (s : List Bool) (i : Nat) (b : Bool) : List Bool := (ext s (i + 1)).set i b
def bnot (s : List Bool) : List Bool := s.map (!·)

theorem ext_length (s : List Bool) (n : Nat) : (ext s n).length = max s.length n := by simp [ext]; omega
theorem ext_getD (s : List Bool) (n i : Nat) : (ext s n).getD i false = s.getD i false := by
  unfold ext
  rw [List.getD_eq_getElem?_getD, List.getD_eq_getElem?_getD]
  rcases Nat.lt_or_ge i s.length with h | h
  · rw [List.getElem?_append_left h]
  · rw [List.getElem?_append_right h, List.getElem?_replicate, List.getElem?_eq_none h]
    split <;> rfl
theorem ext_of_le {s : List Bool} {n : Nat} (h : n ≤ s.length) : ext s n = s := by simp [ext, Nat.sub_eq_zero_of_le h]
theorem put_length (s : List Bool) (i : Nat) (b : Bool) : (put s i b).length = max s.length (i + 1) := by simp [put, ext_length]
theorem set_getD (s : List Bool) (i j : Nat) (b : Bool) (h : i < s.length) : (s.set i b).getD j false = if j = i then b else s.getD j false := by
  rw [List.getD_eq_getElem?_getD, List.getD_eq_getElem?_getD, List.getElem?_set]
  by_cases e : i = j
  · subst e; simp [h]
  · simp [e, Ne.symm e]
theorem put_getD (s : List Bool) (i j : Nat) (b : Bool) : (put s i b).getD j false = if j = i then b else s.getD j false := by
  unfold put
  rw [set_getD _ _ _ _ (by rw [ext_length]; omega), ext_getD]
theorem put_of_lt {s : List Bool} {i : Nat} (b : Bool) (h : i < s.length) : put s i b = s.set i b := by rw [put, ext_of_le (by omega)]

theorem replicate_getD (n i : Nat) : (List.replicate n false).getD i false = false := by
  rw [List.getD_eq_getElem?_getD, List.getElem?_replicate]
  split <;> rfl
theorem pack_zeros (n : Nat) : pack (List.replicate n false) = List.replicate (nW n) 0 := by
  symm
  apply pack_unique
  · simp
  · intro x hx; have := List.eq_of_mem_replicate hx; omega
  · intro i _; rw [wbit_zeros, replicate_getD]
theorem zeros_lt (n : Nat) : ∀ x ∈ List.replicate n 0, x < 18446744073709551616 := by intro x hx; have := List.eq_of_mem_replicate hx; omega
theorem append_lt {ws vs : List Nat} (h1 : ∀ x ∈ ws, x < 18446744073709551616) (h2 : ∀ x ∈ vs, x < 18446744073709551616) : ∀ x ∈ ws ++ vs, x < 18446744073709551616 := by
  intro x hx
  rcases List.mem_append.1 hx with h | h
  · exact h1 x h
  · exact h2 x h
theorem pack_ext (s : List Bool) (n : Nat) (h : s.length ≤ n) : pack (ext s n) = pack s ++ List.replicate (nW n - nW s.length) 0 := by
  symm
  have hle : nW s.length ≤ nW n := by unfold nW; omega
  apply pack_unique
  · rw [List.length_append, pack_length, List.length_replicate, ext_length, Nat.max_eq_right h]; omega
  · exact append_lt (pack_lt s) (zeros_lt _)
  · intro i _
    rw [wbit_append, ext_getD, wbit_pack, wbit_zeros, pack_length]
    split
    · rfl
    · rename_i hi
      rw [getD_ge s false (by unfold nW at hi; omega)]

theorem testBit_one_shl (k i : Nat) (hk : k < 64) : ((1 <<< k) % 18446744073709551616).testBit i = decide (i = k) := by
  rw [testBit_shl, testBit_one]
  by_cases h : i = k
  · subst h; simp [hk]
  · by_cases h2 : k ≤ i
    · simp [h, show ¬ i - k = 0 by omega]
    · simp [h, h2]
theorem pack_set (s : List Bool) (i : Nat) (h : i < s.length) : (pack s).set (i / 64) ((pack s).getD (i / 64) 0 ||| (1 <<< (i % 64)) % 18446744073709551616) = pack (s.set i true) := by
  have hj : i / 64 < (pack s).length := by rw [pack_length]; unfold nW; omega
  have hm : i % 64 < 64 := Nat.mod_lt _ (by decide)
  apply pack_unique
  · simp [pack_length]
  · exact set_lt64 (pack_lt s) (Nat.or_lt_two_pow (n := 64) (pack_getD_lt s _) (Nat.mod_lt _ (by decide)))
  · intro k _
    rw [wbit_set _ _ _ _ hj, set_getD _ _ _ _ h]
    by_cases e : k / 64 = i / 64
    · rw [if_pos e, Nat.testBit_or, testBit_one_shl _ _ hm, pack_getD, wordAt_testBit]
      have hk : k % 64 < 64 := Nat.mod_lt _ (by decide)
      by_cases e2 : k = i
      · subst e2; simp
      · rw [if_neg e2, show 64 * (i / 64) + k % 64 = k by omega]
        simp [hk, show ¬ k % 64 = i % 64 by omega]
    · rw [if_neg e, wbit_pack, if_neg (by omega)]

theorem and_one_shl_ne (m k : Nat) (hk : k < 64) : decide (m &&& (1 <<< k) % 18446744073709551616 ≠ 0) = m.testBit k := by
  cases hb : m.testBit k with
  | true =>
    apply decide_eq_true
    intro h
    have h2 : (m &&& (1 <<< k) % 18446744073709551616).testBit k = true := by rw [Nat.testBit_and, testBit_one_shl _ _ hk, hb]; simp
    rw [h] at h2
    simp at h2
  | false =>
    apply decide_eq_false
    intro h
    apply h
    apply Nat.eq_of_testBit_eq
    intro i
    rw [Nat.testBit_and, testBit_one_shl _ _ hk]
    by_cases e : i = k
    · subst e; simp [hb]
    · simp [e]

/-! ### the set of numbers in any order -/
def mkS (L : Nat) (xs : List Nat) : List Bool := xs.foldl (fun s i => put s i true) (List.replicate L false)
theorem mkS_snoc (L : Nat) (xs : List Nat) (x : Nat) : mkS L (xs ++ [x]) = put (mkS L xs) x true := by simp [mkS]
theorem mkS_length_le (L B : Nat) (xs : List Nat) (hL : L ≤ B) (h : ∀ x ∈ xs, x < B) : (mkS L xs).length ≤ B := by
  have key : ∀ (xs : List Nat) (s : List Bool), s.length ≤ B → (∀ x ∈ xs, x < B) → (xs.foldl (fun s i => put s i true) s).length ≤ B := by
    intro xs
    induction xs with
    | nil => intro s hs _; exact hs
    | cons x r ih =>
      intro s hs hx
      exact ih _ (by rw [put_length]; have := hx x (List.mem_cons_self ..); omega) (fun y hy => hx y (List.mem_cons_of_mem _ hy))
  exact key xs _ (by simpa using hL) h
theorem take_succ_getD (xs : List Nat) (k : Nat) (h : k < xs.length) : xs.take (k + 1) = xs.take k ++ [xs.getD k 0] := by
  rw [List.take_succ_eq_append_getElem h]
  simp [List.getD_eq_getElem?_getD, h]
theorem foldl_put_getD (xs : List Nat) : ∀ (s : List Bool) (j : Nat), (xs.foldl (fun s i => put s i true) s).getD j false = (decide (j ∈ xs) || s.getD j false) := by
  induction xs with
  | nil => intro s j; simp
  | cons x r ih =>
    intro s j
    rw [List.foldl_cons, ih, put_getD]
    by_cases h : j = x
    · subst h; simp
    · simp [h]
theorem mkS_getD (L : Nat) (xs : List Nat) (j : Nat) : (mkS L xs).getD j false = decide (j ∈ xs) := by
  unfold mkS
  rw [foldl_put_getD, replicate_getD, Bool.or_false]
def mkN (L : Nat) (xs : List Nat) : Nat := xs.foldl (fun n x => max n (x + 1)) L
theorem mkN_snoc (L : Nat) (xs : List Nat) (x : Nat) : mkN L (xs ++ [x]) = max (mkN L xs) (x + 1) := by simp [mkN]
theorem foldl_put_length (xs : List Nat) : ∀ (s : List Bool), (xs.foldl (fun s i => put s i true) s).length = xs.foldl (fun n x => max n (x + 1)) s.length := by
  induction xs with
  | nil => intro s; rfl
  | cons x r ih => intro s; rw [List.foldl_cons, ih, put_length, List.foldl_cons]
theorem mkS_length (L : Nat) (xs : List Nat) : (mkS L xs).length = mkN L xs := by
  unfold mkS mkN
  rw [foldl_put_length, List.length_replicate]
theorem mkN_ge (L : Nat) (xs : List Nat) : L ≤ mkN L xs ∧ ∀ x ∈ xs, x < mkN L xs := by
  have key : ∀ (xs : List Nat) (n : Nat), n ≤ xs.foldl (fun n x => max n (x + 1)) n ∧ ∀ x ∈ xs, x < xs.foldl (fun n x => max n (x + 1)) n := by
    intro xs
    induction xs with
    | nil => intro n; simp
    | cons x r ih =>
      intro n
      obtain ⟨h1, h2⟩ := ih (max n (x + 1))
      refine ⟨by rw [List.foldl_cons]; omega, ?_⟩
      intro y hy
      rw [List.foldl_cons]
      rcases List.mem_cons.1 hy with rfl | h
      · omega
      · exact h2 y h
  exact key xs L
theorem mkN_le (L B : Nat) (xs : List Nat) (hL : L ≤ B) (h : ∀ x ∈ xs, x < B) : mkN L xs ≤ B := by rw [← mkS_length]; exact mkS_length_le L B xs hL h
/-- all numbers of xs set in a list -/
def setAll (s : List Bool) (xs : List Nat) : List Bool := xs.foldl (fun s x => s.set x true) s
theorem setAll_snoc (s : List Bool) (xs : List Nat) (x : Nat) : setAll s (xs ++ [x]) = (setAll s xs).set x true := by simp [setAll]
theorem setAll_length (s : List Bool) (xs : List Nat) : (setAll s xs).length = s.length := by
  unfold setAll
  induction xs generalizing s with
  | nil => rfl
  | cons x r ih => rw [List.foldl_cons, ih]; simp
theorem setAll_getD (xs : List Nat) : ∀ (s : List Bool) (j : Nat), (∀ x ∈ xs, x < s.length) → (setAll s xs).getD j false = (decide (j ∈ xs) || s.getD j false) := by
  induction xs with
  | nil => intro s j _; simp [setAll]
  | cons x r ih =>
    intro s j h
    have e : setAll s (x :: r) = setAll (s.set x true) r := rfl
    rw [e, ih _ _ (fun y hy => by simpa using h y (List.mem_cons_of_mem _ hy)), set_getD _ _ _ _ (h x (List.mem_cons_self ..))]
    by_cases hj : j = x
    · subst hj; simp
    · simp [hj]
theorem setAll_eq (L : Nat) (xs : List Nat) : setAll (List.replicate (mkN L xs) false) xs = mkS L xs := by
  apply bool_ext
  · rw [setAll_length, mkS_length, List.length_replicate]
  · intro i _
    rw [setAll_getD _ _ _ (by simpa using (mkN_ge L xs).2), mkS_getD, replicate_getD, Bool.or_false]
end Go.Proofs.YtbahhdeblppooaaDoor

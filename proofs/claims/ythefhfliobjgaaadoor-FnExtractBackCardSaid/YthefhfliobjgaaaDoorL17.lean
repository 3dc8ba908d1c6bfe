/- What is packed by a mask, and what is spread by it: plain lemmas on lists of truths, without Go. -/
import Derived.Test.YthefhfliobjgaaaDoorL12
import Derived.Test.YthefhfliobjgaaaDoorL13
set_option linter.unusedVariables false
set_option linter.unusedSimpArgs false
namespace Go.Proofs.YthefhfliobjgaaaDoor

/-- the truths of g at the places below n where f is true, in order -/
def exL (f g : Nat → Bool) : Nat → List Bool
  | 0 => []
  | n + 1 => exL f g n ++ (if f n then [g n] else [])
theorem exL_length (f g : Nat → Bool) (n : Nat) : (exL f g n).length = cnt f n := by
  induction n with
  | zero => rfl
  | succ n ih => simp only [exL, cnt, List.length_append, ih]; split <;> rfl
theorem exL_congr {f g f' g' : Nat → Bool} {n : Nat} (h : ∀ i, i < n → f i = f' i ∧ (f i = true → g i = g' i)) : exL f g n = exL f' g' n := by
  induction n with
  | zero => rfl
  | succ n ih =>
    simp only [exL]
    rw [ih (fun i hi => h i (by omega)), ← (h n (by omega)).1]
    cases hf : f n with
    | false => rfl
    | true => rw [(h n (by omega)).2 hf]
theorem exL_add (f g : Nat → Bool) (a b : Nat) : exL f g (a + b) = exL f g a ++ exL (fun i => f (a + i)) (fun i => g (a + i)) b := by
  induction b with
  | zero => simp [exL]
  | succ b ih => rw [← Nat.add_assoc]; simp only [exL]; rw [ih, List.append_assoc]
theorem exL_false {f g : Nat → Bool} {n : Nat} (h : ∀ i, i < n → f i = false) : exL f g n = [] := by
  apply List.eq_nil_of_length_eq_zero
  rw [exL_length, cnt_false h]
theorem app_getD (s t : List Bool) (k : Nat) : (s ++ t).getD k false = (s.getD k false || (decide (s.length ≤ k) && t.getD (k - s.length) false)) := by
  simp only [List.getD_eq_getElem?_getD]
  by_cases h : k < s.length
  · rw [List.getElem?_append_left h]
    simp [show ¬ s.length ≤ k by omega]
  · rw [List.getElem?_append_right (by omega), List.getElem?_eq_none (show s.length ≤ k by omega)]
    simp [show s.length ≤ k by omega]
theorem one_getD (b : Bool) (k : Nat) : [b].getD k false = (decide (k = 0) && b) := by
  cases k with
  | zero => simp
  | succ k => simp

/-- what a set has at the places of a mask, side by side -/
def exS (s m : List Bool) : List Bool := exL (fun i => m.getD i false) (fun i => s.getD i false) m.length
theorem exS_length (s m : List Bool) : (exS s m).length = count m := exL_length _ _ _
theorem exL_nums (s m : List Bool) (n : Nat) (h : n ≤ m.length) : exL (fun i => m.getD i false) (fun i => s.getD i false) n = (nums (m.take n)).map fun x => s.getD x false := by
  induction n with
  | zero => rfl
  | succ n ih =>
    rw [nums_take_succ m n (by omega), List.map_append, ← ih (by omega)]
    simp only [exL]
    congr 1
    split <;> rfl
theorem exS_nums (s m : List Bool) : exS s m = (nums m).map fun x => s.getD x false := by
  have := exL_nums s m m.length (Nat.le_refl _)
  rwa [List.take_length] at this
/-- as many places as one likes beyond the mask's end -/
theorem exL_past (s m : List Bool) (n : Nat) (h : m.length ≤ n) : exL (fun i => m.getD i false) (fun i => s.getD i false) n = exS s m := by
  obtain ⟨j, rfl⟩ : ∃ j, n = m.length + j := ⟨n - m.length, by omega⟩
  rw [exL_add, exL_false (n := j) (fun i _ => getD_ge m false (by omega)), List.append_nil]
  rfl
/-- behind the end of the set there is nothing to be had -/
theorem exL_short (s m : List Bool) (a b : Nat) (h : s.length ≤ a) (hab : a ≤ b) (k : Nat) : (exL (fun i => m.getD i false) (fun i => s.getD i false) a).getD k false = (exL (fun i => m.getD i false) (fun i => s.getD i false) b).getD k false := by
  obtain ⟨j, rfl⟩ : ∃ j, b = a + j := ⟨b - a, by omega⟩
  rw [exL_add, app_getD]
  have key : ∀ j k, (exL (fun i => m.getD (a + i) false) (fun i => s.getD (a + i) false) j).getD k false = false := by
    intro j
    induction j with
    | zero => intro k; rfl
    | succ j ih =>
      intro k
      simp only [exL]
      rw [app_getD, ih]
      have : s.getD (a + j) false = false := getD_ge s false (by omega)
      rw [this]
      split
      · rw [one_getD]; simp
      · simp
  rw [key]; simp

/-- a set spread to the places of a mask -/
def depS (s m : List Bool) : List Bool := tab m.length fun x => m.getD x false && s.getD (cnt (fun i => m.getD i false) x) false
theorem depS_length (s m : List Bool) : (depS s m).length = m.length := tab_length _ _
theorem depS_getD (s m : List Bool) (x : Nat) : (depS s m).getD x false = (m.getD x false && s.getD (cnt (fun i => m.getD i false) x) false) := by
  unfold depS
  rw [tab_getD]
  by_cases h : x < m.length
  · simp [h]
  · rw [getD_ge m false (by omega)]; simp

/-- numbers of a list whose places are true elsewhere -/
def spr (f : Nat → Bool) : Nat → List Nat → List Nat
  | _, [] => []
  | j, x :: r => (if f j then [x] else []) ++ spr f (j + 1) r
theorem spr_snoc (f : Nat → Bool) (xs : List Nat) (x : Nat) : ∀ j, spr f j (xs ++ [x]) = spr f j xs ++ (if f (j + xs.length) then [x] else []) := by
  induction xs with
  | nil => intro j; simp [spr]
  | cons y r ih =>
    intro j
    simp only [List.cons_append, spr, ih, List.append_assoc, List.length_cons]
    rw [show j + 1 + r.length = j + (r.length + 1) by omega]
theorem nums_dep (s m : List Bool) : nums (depS s m) = spr (fun k => s.getD k false) 0 (nums m) := by
  have key : ∀ n, n ≤ m.length → nums ((depS s m).take n) = spr (fun k => s.getD k false) 0 (nums (m.take n)) := by
    intro n
    induction n with
    | zero => intro _; rfl
    | succ n ih =>
      intro h
      rw [nums_take_succ _ n (by rw [depS_length]; omega), nums_take_succ m n (by omega), ih (by omega), depS_getD]
      cases hm : m.getD n false with
      | false => simp
      | true =>
        simp only [Bool.true_and, if_true]
        rw [spr_snoc, Nat.zero_add, nums_length_take m n (by omega)]
  have := key m.length (Nat.le_refl _)
  rwa [← depS_length s m, List.take_length, depS_length, List.take_length] at this

/-- what is spread and packed again: as much of the set as the mask has places -/
theorem ex_dep (s m : List Bool) : exS (depS s m) m = tab (count m) fun k => s.getD k false := by
  have key : ∀ n, n ≤ m.length → exL (fun i => m.getD i false) (fun i => (depS s m).getD i false) n = tab (cnt (fun i => m.getD i false) n) fun k => s.getD k false := by
    intro n
    induction n with
    | zero => intro _; rfl
    | succ n ih =>
      intro h
      simp only [exL, cnt]
      rw [ih (by omega)]
      by_cases hm : m.getD n false = true
      · rw [if_pos hm, if_pos hm, depS_getD, hm, Bool.true_and]
        simp [tab, List.range_succ]
      · rw [if_neg hm, if_neg hm]
        simp
  exact key m.length (Nat.le_refl _)
theorem nums_below (s : List Bool) (C : Nat) : nums (tab C fun k => s.getD k false) = (nums s).filter fun x => decide (x < C) := by
  have key : ∀ n, n ≤ s.length → nums (tab (min n C) fun k => s.getD k false) = (nums (s.take n)).filter fun x => decide (x < C) := by
    intro n
    induction n with
    | zero => intro _; rw [Nat.zero_min]; rfl
    | succ n ih =>
      intro h
      rw [nums_take_succ s n (by omega), List.filter_append, ← ih (by omega)]
      by_cases hc : n < C
      · rw [Nat.min_eq_left (by omega), Nat.min_eq_left (by omega)]
        have e : tab (n + 1) (fun k => s.getD k false) = tab n (fun k => s.getD k false) ++ [s.getD n false] := by simp [tab, List.range_succ]
        rw [e, nums_snoc, tab_length]
        congr 1
        split <;> simp [hc]
      · rw [Nat.min_eq_right (by omega), Nat.min_eq_right (by omega)]
        split <;> simp [hc]
  have h := key s.length (Nat.le_refl _)
  rw [List.take_length] at h
  rw [← h]
  apply nums_congr
  intro i
  rw [tab_getD, tab_getD]
  by_cases h1 : i < s.length
  · have : decide (i < C) = decide (i < min s.length C) := decide_eq_decide.2 (by omega)
    rw [this]
  · rw [getD_ge s false (by omega)]; simp
end Go.Proofs.YthefhfliobjgaaaDoor

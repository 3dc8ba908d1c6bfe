/- The text of a set as bits: what is written, what is asked. -/
import Derived.Test.YtoheaoihiecgdaaDoorL1
set_option linter.unusedVariables false
set_option linter.unusedSimpArgs false
namespace Go.Proofs.YtoheaoihiecgdaaDoor

/-- a bit of a word as a figure -/
def dig (x k : Nat) : Nat := 48 + ((x >>> k) &&& 1) % 256
theorem dig_bit (x k : Nat) : dig x k = if x.testBit k then 49 else 48 := by
  unfold dig Nat.testBit
  rw [Nat.and_comm 1, Nat.and_one_is_mod]
  rcases Nat.mod_two_eq_zero_or_one (x >>> k) with h | h <;> simp [h]
theorem dig_lt (x k : Nat) : dig x k < 256 ∧ dig x k ≠ 46 := by rw [dig_bit]; split <;> omega
/-- a word's figures from the highest one on, down to m -/
def digW (x m : Nat) : List Nat := (List.range (64 - m)).map fun u => dig x (63 - u)
theorem digW_full (x : Nat) : digW x 64 = [] := rfl
theorem digW_step {x m : Nat} (h : 0 < m) (h2 : m ≤ 64) : digW x (m - 1) = digW x m ++ [dig x (m - 1)] := by
  unfold digW
  rw [show 64 - (m - 1) = (64 - m) + 1 by omega, List.range_succ, List.map_append]
  simp only [List.map_cons, List.map_nil]
  rw [show 63 - (64 - m) = m - 1 by omega]
theorem digW_len (x m : Nat) : (digW x m).length = 64 - m := by simp [digW]
/-- the words from the last one on, down to m -/
def digT (ws : List Nat) (n m : Nat) : List Nat := (List.range (n - m)).flatMap fun t => digW (ws.getD (n - 1 - t) 0) 0 ++ [46]
theorem digT_full (ws : List Nat) (n : Nat) : digT ws n n = [] := by unfold digT; rw [Nat.sub_self]; rfl
theorem digT_step {ws : List Nat} {n m : Nat} (h : 0 < m) (h2 : m ≤ n) : digT ws n (m - 1) = digT ws n m ++ digW (ws.getD (m - 1) 0) 0 ++ [46] := by
  unfold digT
  rw [show n - (m - 1) = (n - m) + 1 by omega, List.range_succ, List.flatMap_append]
  simp only [List.flatMap_cons, List.flatMap_nil, List.append_nil]
  rw [show n - 1 - (n - m) = m - 1 by omega, List.append_assoc]
theorem digT_len (ws : List Nat) (n m : Nat) : (digT ws n m).length = 65 * (n - m) := by
  unfold digT
  induction (n - m) with
  | zero => rfl
  | succ k ih =>
    rw [List.range_succ, List.flatMap_append, List.length_append, ih]
    simp [digW_len]; omega
theorem digT_lt (ws : List Nat) (n m : Nat) : ∀ x ∈ digT ws n m, x < 256 := by
  intro x hx
  unfold digT at hx
  obtain ⟨t, _, h⟩ := List.mem_flatMap.1 hx
  rcases List.mem_append.1 h with h | h
  · obtain ⟨u, _, rfl⟩ := List.mem_map.1 h
    exact (dig_lt _ _).1
  · simp only [List.mem_singleton] at h; omega
/-- what is asked: the places from the last one of the last word on, down to m -/
def askT (s : List Bool) (n m : Nat) : List Nat := (List.range (64 * n - m)).map fun t => if s.getD (64 * n - 1 - t) false then 49 else 48
theorem askT_full (s : List Bool) (n : Nat) : askT s n (64 * n) = [] := by unfold askT; rw [Nat.sub_self]; rfl
theorem askT_step {s : List Bool} {n m : Nat} (h : 0 < m) (h2 : m ≤ 64 * n) : askT s n (m - 1) = askT s n m ++ [if s.getD (m - 1) false then 49 else 48] := by
  unfold askT
  rw [show 64 * n - (m - 1) = (64 * n - m) + 1 by omega, List.range_succ, List.map_append]
  simp only [List.map_cons, List.map_nil]
  rw [show 64 * n - 1 - (64 * n - m) = m - 1 by omega]
theorem askT_lt (s : List Bool) (n m : Nat) : ∀ x ∈ askT s n m, x < 256 := by
  intro x hx
  unfold askT at hx
  obtain ⟨t, _, rfl⟩ := List.mem_map.1 hx
  split <;> omega
theorem askT_len (s : List Bool) (n m : Nat) : (askT s n m).length = 64 * n - m := by simp [askT]
theorem range_blocks (f : Nat → Nat) (n : Nat) : (List.range (64 * n)).map f = (List.range n).flatMap fun t => (List.range 64).map fun u => f (64 * t + u) := by
  induction n with
  | zero => rfl
  | succ n ih =>
    rw [show 64 * (n + 1) = 64 * n + 64 by omega, List.range_add, List.map_append, ih, List.range_succ (n := n), List.flatMap_append]
    simp
theorem filter_digW (x : Nat) : ((digW x 0 ++ [46]).filter fun b => decide (b ≠ 46)) = digW x 0 := by
  rw [List.filter_append, List.filter_eq_self.2]
  · simp
  · intro b hb
    obtain ⟨u, _, rfl⟩ := List.mem_map.1 hb
    simpa using (dig_lt x (63 - u)).2
theorem flatMap_congr' {l : List Nat} {f g : Nat → List Nat} (h : ∀ x ∈ l, f x = g x) : l.flatMap f = l.flatMap g := by
  induction l with
  | nil => rfl
  | cons a r ih => rw [List.flatMap_cons, List.flatMap_cons, h a (List.mem_cons_self ..), ih (fun x hx => h x (List.mem_cons_of_mem _ hx))]
theorem dump_law {s : List Bool} {ws : List Nat} {n : Nat} (hw : ∀ j, j < n → ws.getD j 0 = wordAt s j) : ((digT ws n 0).filter fun b => decide (b ≠ 46)) = askT s n 0 := by
  unfold digT askT
  rw [Nat.sub_zero, Nat.sub_zero, range_blocks, List.filter_flatMap]
  simp only [filter_digW]
  refine flatMap_congr' fun t ht => ?_
  have ht := List.mem_range.1 ht
  rw [hw _ (by omega)]
  unfold digW
  rw [Nat.sub_zero]
  apply List.map_congr_left
  intro u hu
  have hu := List.mem_range.1 hu
  rw [dig_bit, wordAt_testBit]
  have h1 : 63 - u < 64 := by omega
  have h2 : 64 * (n - 1 - t) + (63 - u) = 64 * n - 1 - (64 * t + u) := by omega
  rw [h2]
  simp [h1]
theorem filter_take_succ (p : Nat → Bool) (l : List Nat) {k : Nat} (h : k < l.length) : (l.take (k + 1)).filter p = (l.take k).filter p ++ if p (l.getD k 0) then [l.getD k 0] else [] := by
  have e : l.take (k + 1) = l.take k ++ [l.getD k 0] := by
    rw [List.take_add_one, List.getD_eq_getElem?_getD, List.getElem?_eq_getElem h]; rfl
  rw [e, List.filter_append]
  by_cases hp : p (l.getD k 0) = true
  · rw [if_pos hp, List.filter_cons_of_pos hp]; rfl
  · rw [if_neg hp, List.filter_cons_of_neg hp]; rfl

end Go.Proofs.YtoheaoihiecgdaaDoor

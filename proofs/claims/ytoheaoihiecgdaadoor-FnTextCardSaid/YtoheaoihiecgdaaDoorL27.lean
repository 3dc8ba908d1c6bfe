/- Numbers with commas between them. -/
import Derived.Test.YtoheaoihiecgdaaDoorS1
set_option linter.unusedVariables false
set_option linter.unusedSimpArgs false
namespace Go.Proofs.YtoheaoihiecgdaaDoor

def jn (xs : List Nat) : List Nat := xs.foldl (fun a x => a ++ (if a = [] then [] else [44]) ++ dec x) []
theorem jn_nil : jn [] = [] := rfl
theorem jn_snoc' (xs : List Nat) (x : Nat) : jn (xs ++ [x]) = jn xs ++ (if jn xs = [] then [] else [44]) ++ dec x := by
  unfold jn
  rw [List.foldl_append]; rfl
theorem dec_ne (u : Nat) : dec u ≠ [] := by
  by_cases h : u < 10
  · rw [dec_small h]; simp
  · rw [dec_big h]; simp
theorem jn_ne {xs : List Nat} : jn xs = [] ↔ xs = [] := by
  rcases List.eq_nil_or_concat xs with h | ⟨ys, y, h⟩
  · subst h; simp [jn_nil]
  · subst h
    rw [List.concat_eq_append, jn_snoc']
    have := dec_ne y
    simp [this]
theorem jn_snoc (xs : List Nat) (x : Nat) : jn (xs ++ [x]) = jn xs ++ (if xs = [] then [] else [44]) ++ dec x := by
  rw [jn_snoc']
  by_cases h : xs = []
  · rw [if_pos h, if_pos (jn_ne.2 h)]
  · rw [if_neg h, if_neg (fun h2 => h (jn_ne.1 h2))]
theorem jn_lt (xs : List Nat) : ∀ x ∈ jn xs, x < 256 := by
  have key : ∀ (xs a : List Nat), (∀ x ∈ a, x < 256) → ∀ x ∈ xs.foldl (fun a x => a ++ (if a = [] then [] else [44]) ++ dec x) a, x < 256 := by
    intro xs
    induction xs with
    | nil => intro a ha; exact ha
    | cons y r ih =>
      intro a ha
      refine ih _ fun x hx => ?_
      rcases List.mem_append.1 hx with h | h
      · rcases List.mem_append.1 h with h | h
        · exact ha x h
        · split at h
          · cases h
          · simp only [List.mem_singleton] at h; omega
      · exact dec_lt y x h
  exact key xs [] (by simp)
theorem jn_len (xs : List Nat) (h : ∀ x ∈ xs, x < 100000) : (jn xs).length ≤ 6 * xs.length := by
  have key : ∀ n, n ≤ xs.length → (jn (xs.take n)).length ≤ 6 * n := by
    intro n
    induction n with
    | zero => intro _; simp [jn_nil]
    | succ n ih =>
      intro hn
      have e : xs.take (n + 1) = xs.take n ++ [xs.getD n 0] := by
        rw [List.take_add_one, List.getD_eq_getElem?_getD, List.getElem?_eq_getElem (by omega)]; rfl
      rw [e, jn_snoc, List.length_append, List.length_append]
      have h1 := ih (by omega)
      have h2 := dec_len (xs.getD n 0) (h _ (by rw [List.getD_eq_getElem?_getD, List.getElem?_eq_getElem (by omega)]; exact List.getElem_mem _))
      have h3 : (if xs.take n = [] then [] else [44] : List Nat).length ≤ 1 := by split <;> simp
      omega
  have := key xs.length (Nat.le_refl _)
  rwa [List.take_length] at this
theorem take_snoc {xs : List Nat} {k : Nat} (h : k < xs.length) : xs.take (k + 1) = xs.take k ++ [xs.getD k 0] := by
  rw [List.take_add_one, List.getD_eq_getElem?_getD, List.getElem?_eq_getElem h]; rfl

end Go.Proofs.YtoheaoihiecgdaaDoor

/- The bytes of a set: its length and its words, the highest byte first. -/
import Derived.Test.YtlhbbndedbacpaaL2
set_option linter.unusedVariables false
set_option linter.unusedSimpArgs false
namespace Go.Proofs.Ytlhbbndedbacpaa

/-- a word's bytes, the highest first -/
def be8 (x : Nat) : List Nat := (List.range 8).map fun t => (x >>> (56 - 8 * t)) % 256
theorem be8_len (x : Nat) : (be8 x).length = 8 := by simp [be8]
theorem be8_lt (x : Nat) : ∀ y ∈ be8 x, y < 256 := fun y hy => by
  unfold be8 at hy
  obtain ⟨t, _, rfl⟩ := List.mem_map.1 hy
  omega
theorem be8_take {x u : Nat} (h : u < 8) : (be8 x).take (u + 1) = (be8 x).take u ++ [(x >>> (56 - 8 * u)) % 256] := by
  have hl := be8_len x
  rw [List.take_add_one, List.getElem?_eq_getElem (by omega)]
  simp [be8]
/-- words as bytes -/
def byt (ws : List Nat) : List Nat := ws.flatMap be8
theorem byt_len (ws : List Nat) : (byt ws).length = 8 * ws.length := by
  unfold byt
  induction ws with
  | nil => rfl
  | cons a r ih => rw [List.flatMap_cons, List.length_append, ih, be8_len, List.length_cons]; omega
theorem byt_lt (ws : List Nat) : ∀ y ∈ byt ws, y < 256 := fun y hy => by
  obtain ⟨x, _, h⟩ := List.mem_flatMap.1 hy
  exact be8_lt x y h
theorem byt_take {ws : List Nat} {k : Nat} (h : k < ws.length) : byt (ws.take (k + 1)) = byt (ws.take k) ++ be8 (ws.getD k 0) := by
  unfold byt
  rw [List.take_add_one, List.getD_eq_getElem?_getD, List.getElem?_eq_getElem h, List.flatMap_append]
  simp
/-- the bytes of a set -/
def setB (s : List Bool) : List Nat := byt (s.length :: pack s)
theorem setB_len (s : List Bool) : (setB s).length = 8 + 8 * nW s.length := by
  unfold setB
  rw [byt_len, List.length_cons, pack_length]; omega
theorem setB_lt (s : List Bool) : ∀ y ∈ setB s, y < 256 := byt_lt _
/-- the first k members -/
def upto (s : List Bool) (k : Nat) : List Bool := s.take k ++ List.replicate (s.length - k) false
theorem upto_len {s : List Bool} {k : Nat} (h : k ≤ s.length) : (upto s k).length = s.length := by unfold upto; simp; omega
theorem upto_zero (s : List Bool) : upto s 0 = List.replicate s.length false := by simp [upto]
theorem upto_full (s : List Bool) : upto s s.length = s := by simp [upto]
theorem upto_true {s : List Bool} {k : Nat} (h : k < s.length) (hb : s.getD k false = true) : (upto s k).set k true = upto s (k + 1) := by
  unfold upto
  rw [List.set_append_right _ _ (by simp; omega)]
  obtain ⟨m, hm⟩ : ∃ m, s.length - k = m + 1 := ⟨s.length - k - 1, by omega⟩
  have e : s.take (k + 1) = s.take k ++ [true] := by
    rw [List.take_add_one, List.getElem?_eq_getElem h]
    rw [List.getD_eq_getElem?_getD, List.getElem?_eq_getElem h] at hb
    simp only [Option.getD_some] at hb
    simp [hb]
  rw [e, hm, show s.length - (k + 1) = m by omega, List.length_take, Nat.min_eq_left (by omega), Nat.sub_self, List.replicate_succ, List.set_cons_zero, List.append_assoc]
  rfl
theorem upto_false {s : List Bool} {k : Nat} (h : k < s.length) (hb : s.getD k false = false) : upto s k = upto s (k + 1) := by
  unfold upto
  obtain ⟨m, hm⟩ : ∃ m, s.length - k = m + 1 := ⟨s.length - k - 1, by omega⟩
  have e : s.take (k + 1) = s.take k ++ [false] := by
    rw [List.take_add_one, List.getElem?_eq_getElem h]
    rw [List.getD_eq_getElem?_getD, List.getElem?_eq_getElem h] at hb
    simp only [Option.getD_some] at hb
    simp [hb]
  rw [e, hm, show s.length - (k + 1) = m by omega, List.replicate_succ, List.append_assoc]
  rfl

end Go.Proofs.Ytlhbbndedbacpaa

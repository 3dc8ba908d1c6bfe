/- Two sets joined, word by word: plain lemmas, without Go. -/
import Derived.Test.YtefhjchhfpjciaaDoorL9
import Derived.Test.YtefhjchhfpjciaaDoorL21
set_option linter.unusedVariables false
set_option linter.unusedSimpArgs false
namespace Go.Proofs.YtefhjchhfpjciaaDoor

/-- an operation on words that goes bit by bit -/
def Bw (g : Bool → Bool → Bool) (op : Nat → Nat → Nat) : Prop := (∀ x y i, x < 18446744073709551616 → y < 18446744073709551616 → i < 64 → (op x y).testBit i = g (x.testBit i) (y.testBit i)) ∧ ∀ x y, x < 18446744073709551616 → y < 18446744073709551616 → op x y < 18446744073709551616
theorem bw_or : Bw gOr (fun x y => x ||| y) := ⟨op_or, fun x y h h2 => Nat.or_lt_two_pow (n := 64) h h2⟩
theorem bw_and : Bw gAnd (fun x y => x &&& y) := ⟨op_and, fun x y h h2 => Nat.lt_of_le_of_lt Nat.and_le_left h⟩
theorem bw_xor : Bw gXor (fun x y => x ^^^ y) := ⟨op_xor, fun x y h h2 => Nat.xor_lt_two_pow (n := 64) h h2⟩
theorem bw_dif : Bw gDif (fun x y => x &&& nt' y) := ⟨op_dif, fun x y h h2 => Nat.lt_of_le_of_lt Nat.and_le_left h⟩
theorem word_ext {x y : Nat} (hx : x < 18446744073709551616) (hy : y < 18446744073709551616) (h : ∀ i, i < 64 → x.testBit i = y.testBit i) : x = y := by
  apply Nat.eq_of_testBit_eq
  intro i
  by_cases hi : i < 64
  · exact h i hi
  · rw [testBit_big hx (by omega), testBit_big hy (by omega)]
/-- a word of a set that has what g says -/
theorem joined_word {g : Bool → Bool → Bool} {op : Nat → Nat → Nat} (hw : Bw g op) {s t u : List Bool} (hu : ∀ i, u.getD i false = g (s.getD i false) (t.getD i false)) (k : Nat) : wordAt u k = op (wordAt s k) (wordAt t k) := by
  refine word_ext (wordAt_lt _ _) (hw.2 _ _ (wordAt_lt _ _) (wordAt_lt _ _)) fun i hi => ?_
  rw [hw.1 _ _ i (wordAt_lt _ _) (wordAt_lt _ _) hi, wordAt_testBit, wordAt_testBit, wordAt_testBit, hu]
  simp [hi]
theorem past_word (s : List Bool) (k : Nat) (h : nW s.length ≤ k) : wordAt s k = 0 := by rw [← pack_getD]; exact pack_past s k h
theorem joined_in {g : Bool → Bool → Bool} (hg : g false false = false) (s t : List Bool) : (joined g s t).length = max s.length t.length ∧ ∀ i, (joined g s t).getD i false = g (s.getD i false) (t.getD i false) := ⟨joined_length g s t, joined_getD hg s t⟩
/-- a set as long as the first one, with what g says -/
def firstS (g : Bool → Bool → Bool) (s t : List Bool) : List Bool := tab s.length fun i => g (s.getD i false) (t.getD i false)
theorem firstS_length (g : Bool → Bool → Bool) (s t : List Bool) : (firstS g s t).length = s.length := tab_length _ _
theorem firstS_getD {g : Bool → Bool → Bool} (hg : ∀ b, g false b = false) (s t : List Bool) (i : Nat) : (firstS g s t).getD i false = g (s.getD i false) (t.getD i false) := by
  unfold firstS
  rw [tab_getD]
  by_cases h : i < s.length
  · simp [h]
  · rw [getD_ge s false (by omega), hg]; simp
theorem firstS_nums {g : Bool → Bool → Bool} (hg : ∀ b, g false b = false) (s t : List Bool) : nums (firstS g s t) = nums (joined g s t) := nums_congr fun i => by rw [firstS_getD hg, joined_getD (hg false)]
theorem gAnd_f (b : Bool) : gAnd false b = false := rfl
theorem gDif_f (b : Bool) : gDif false b = false := rfl
theorem ext_nums (s : List Bool) (n : Nat) : nums (ext s n) = nums s := nums_congr fun i => ext_getD s n i
end Go.Proofs.YtefhjchhfpjciaaDoor

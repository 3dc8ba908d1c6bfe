/- Words that are changed bit by bit: masks, and what a list of words says of each number. -/
import Derived.Test.YtbahhdeblppooaaDoorL8
set_option linter.unusedVariables false
set_option linter.unusedSimpArgs false
namespace Go.Proofs.YtbahhdeblppooaaDoor

def bnots (s : List Bool) : List Bool := s.map (!·)
theorem bnots_getD (s : List Bool) (i : Nat) : (bnots s).getD i false = (decide (i < s.length) && !s.getD i false) := by
  unfold bnots
  rcases Nat.lt_or_ge i s.length with h | h
  · simp [List.getD_eq_getElem?_getD, h]
  · simp [List.getD_eq_getElem?_getD, h, Nat.not_lt.2 h]
/-- the low bits -/
theorem ones_shr (k i : Nat) (hk : k ≤ 64) : (18446744073709551615 >>> k).testBit i = decide (i < 64 - k) := by
  rw [Nat.testBit_shiftRight, show (18446744073709551615 : Nat) = 2 ^ 64 - 1 by decide, Nat.testBit_two_pow_sub_one]
  by_cases h : i < 64 - k
  · have : k + i < 64 := by omega
    simp [h, this]
  · have : ¬ k + i < 64 := by omega
    simp [h, this]
theorem ones_shl (k i : Nat) : ((18446744073709551615 <<< k) % 18446744073709551616).testBit i = (decide (i < 64) && decide (k ≤ i)) := by
  rw [testBit_shl, show (18446744073709551615 : Nat) = 2 ^ 64 - 1 by decide, Nat.testBit_two_pow_sub_one]
  by_cases h : i < 64 <;> by_cases h2 : k ≤ i
  · have : i - k < 64 := by omega
    simp [h, h2, this]
  · simp [h, h2]
  · simp [h]
  · simp [h]
theorem ones_shr_lt (k : Nat) : 18446744073709551615 >>> k < 18446744073709551616 := by
  rw [Nat.shiftRight_eq_div_pow]; exact Nat.lt_of_le_of_lt (Nat.div_le_self _ _) (by decide)
theorem bit64 (i : Nat) : i % 64 < 64 := Nat.mod_lt _ (by decide)

theorem wbit_of {ws : List Nat} (i : Nat) : wbit ws i = (ws.getD (i / 64) 0).testBit (i % 64) := rfl
/-- words that say of each number what a list of truths says are its words -/
theorem pack_of_wbit {ws : List Nat} {s : List Bool} (hl : ws.length = nW s.length) (h1 : ∀ x ∈ ws, x < 18446744073709551616) (h : ∀ i, i < 64 * ws.length → wbit ws i = s.getD i false) : ws = pack s := pack_unique hl h1 h
theorem nW_pos {n : Nat} (h : 0 < n) : 0 < nW n := by unfold nW; omega
theorem nW_mod {n : Nat} (h : n % 64 ≠ 0) : nW n - 1 = n / 64 := by unfold nW; omega
theorem wbit_clean {ws : List Nat} {L : Nat} (hl : ws.length = nW L) (h0 : L % 64 ≠ 0) (i : Nat) :
    wbit (ws.set (ws.length - 1) (ws.getD (ws.length - 1) 0 &&& (18446744073709551615 >>> (64 - L % 64)))) i = (wbit ws i && decide (i < L)) := by
  have hn := nW_mod h0
  have hp : 0 < nW L := nW_pos (by omega)
  have hb := bit64 i
  rw [wbit_set _ _ _ _ (by omega), hl, hn]
  by_cases h : i / 64 = L / 64
  · rw [if_pos h, Nat.testBit_and, ones_shr _ _ (by omega), wbit_of, h]
    congr 1
    apply decide_eq_decide.2
    omega
  · rw [if_neg h]
    by_cases h2 : i < L
    · simp [h2]
    · rw [wbit_ge (by rw [hl]; unfold nW; omega)]; simp
theorem clean_full {ws : List Nat} {L : Nat} (hl : ws.length = nW L) (h0 : L % 64 = 0) (i : Nat) : wbit ws i = (wbit ws i && decide (i < L)) := by
  by_cases h2 : i < L
  · simp [h2]
  · rw [wbit_ge (by rw [hl]; unfold nW; omega)]; simp
theorem set_lt64' {ws : List Nat} (h : ∀ x ∈ ws, x < 18446744073709551616) {j y : Nat} (hy : y < 18446744073709551616) : ∀ x ∈ ws.set j y, x < 18446744073709551616 := set_lt64 h hy
theorem getD_app {ws tl : List Nat} {j : Nat} (hj : j < ws.length) : (ws ++ tl).getD j 0 = ws.getD j 0 := by
  rw [List.getD_eq_getElem?_getD, List.getElem?_append_left hj, ← List.getD_eq_getElem?_getD]
theorem nt_lt64 {x : Nat} (h : x < 18446744073709551616) : nt' x < 18446744073709551616 := Nat.xor_lt_two_pow (n := 64) h (by decide)
end Go.Proofs.YtbahhdeblppooaaDoor

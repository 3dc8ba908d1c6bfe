/- Words into which packed bits are put, and words that are taken from a place on: plain lemmas, without Go. -/
import Derived.Test.YthefhfliobjgaaaDoorL18
import Derived.Test.YthefhfliobjgaaaDoorL11
import Derived.Test.YthefhfliobjgaaaDoorL7
set_option linter.unusedVariables false
set_option linter.unusedSimpArgs false
namespace Go.Proofs.YthefhfliobjgaaaDoor

theorem exL_end (s m : List Bool) (n : Nat) (h : s.length ≤ n ∨ m.length ≤ n) (k : Nat) : (exL (fun i => m.getD i false) (fun i => s.getD i false) n).getD k false = (exS s m).getD k false := by
  rcases h with h | h
  · rw [exL_short s m n (n + m.length) h (by omega), exL_past s m _ (by omega)]
  · rw [exL_past s m n h]
theorem count_full (m : List Bool) (n : Nat) : cnt (fun i => m.getD i false) n ≤ count m := by
  rcases Nat.le_total n m.length with h | h
  · exact cnt_below _ _ _ h
  · exact Nat.le_of_eq (cnt_ge h fun i hi => getD_ge m false hi)
theorem cnt_word (m : List Bool) (k : Nat) : cnt (fun i => m.getD i false) (64 * (k + 1)) = cnt (fun i => m.getD i false) (64 * k) + popc (wordAt m k) := by
  rw [show 64 * (k + 1) = 64 * k + 64 by omega, cnt_add]
  have e : cnt (fun i => m.getD (64 * k + i) false) 64 = cnt (wordAt m k).testBit 64 := by
    apply cnt_congr
    intro i hi
    rw [wordAt_testBit]; simp [hi]
  rw [e]; rfl
theorem exL_word (s m : List Bool) (k : Nat) : exL (fun i => m.getD i false) (fun i => s.getD i false) (64 * (k + 1)) = exL (fun i => m.getD i false) (fun i => s.getD i false) (64 * k) ++ exL (wordAt m k).testBit (wordAt s k).testBit 64 := by
  have e : exL (fun i => m.getD (64 * k + i) false) (fun i => s.getD (64 * k + i) false) 64 = exL (wordAt m k).testBit (wordAt s k).testBit 64 := by
    apply exL_congr
    intro i hi
    refine ⟨?_, fun _ => ?_⟩ <;> (rw [wordAt_testBit]; simp [hi])
  rw [show 64 * (k + 1) = 64 * k + 64 by omega, exL_add, e]
theorem put_one {ws : List Nat} {o E c : Nat} (hE : E < 2 ^ c) (hc : o % 64 + c ≤ 64) (h1 : o / 64 < ws.length) (x : Nat) :
    wbit (ws.set (o / 64) (ws.getD (o / 64) 0 ||| (E <<< (o % 64)) % 18446744073709551616)) x = (wbit ws x || (decide (o ≤ x) && E.testBit (x - o))) := by
  have hb := bit64 x
  have hEb : ∀ j, c ≤ j → E.testBit j = false := fun j hj => Nat.testBit_lt_two_pow (Nat.lt_of_lt_of_le hE (Nat.pow_le_pow_right (by decide) hj))
  rw [wbit_set _ _ _ _ h1]
  by_cases h : x / 64 = o / 64
  · rw [if_pos h, Nat.testBit_or, testBit_shl, wbit_of x, h]
    have e : decide (o % 64 ≤ x % 64) = decide (o ≤ x) := decide_eq_decide.2 (by omega)
    rw [e]
    by_cases h2 : o ≤ x
    · have e2 : x % 64 - o % 64 = x - o := by omega
      simp [hb, h2, e2]
    · simp [h2]
  · rw [if_neg h]
    by_cases h2 : o ≤ x
    · rw [hEb (x - o) (by omega)]; simp
    · simp [h2]
theorem put_two {ws : List Nat} {o E c : Nat} (hE : E < 2 ^ c) (hc : c ≤ 64) (h64 : 64 < o % 64 + c) (hz : ∀ x, o ≤ x → wbit ws x = false) (h1 : o / 64 + 1 < ws.length) (x : Nat) :
    wbit ((ws.set (o / 64) (ws.getD (o / 64) 0 ||| (E <<< (o % 64)) % 18446744073709551616)).set (o / 64 + 1) (E >>> (64 - o % 64))) x = (wbit ws x || (decide (o ≤ x) && E.testBit (x - o))) := by
  have hb := bit64 x
  have hEb : ∀ j, c ≤ j → E.testBit j = false := fun j hj => Nat.testBit_lt_two_pow (Nat.lt_of_lt_of_le hE (Nat.pow_le_pow_right (by decide) hj))
  rw [wbit_set _ _ _ _ (by simpa using h1)]
  by_cases h3 : x / 64 = o / 64 + 1
  · rw [if_pos h3, testBit_shr, hz x (by omega)]
    have h2 : o ≤ x := by omega
    have e2 : 64 - o % 64 + x % 64 = x - o := by omega
    simp [h2, e2]
  · rw [if_neg h3, wbit_set _ _ _ _ (by omega)]
    by_cases h : x / 64 = o / 64
    · rw [if_pos h, Nat.testBit_or, testBit_shl, wbit_of x, h]
      have e : decide (o % 64 ≤ x % 64) = decide (o ≤ x) := decide_eq_decide.2 (by omega)
      rw [e]
      by_cases h2 : o ≤ x
      · have e2 : x % 64 - o % 64 = x - o := by omega
        simp [hb, h2, e2]
      · simp [h2]
    · rw [if_neg h]
      by_cases h2 : o ≤ x
      · rw [hEb (x - o) (by omega)]; simp
      · simp [h2]
theorem src_two (s : List Bool) (o t : Nat) (ht : t < 64) (h0 : o % 64 ≠ 0) : ((wordAt s (o / 64) >>> (o % 64)) ||| ((wordAt s (o / 64 + 1) <<< (64 - o % 64)) % 18446744073709551616)).testBit t = s.getD (o + t) false := by
  have hb := bit64 o
  rw [Nat.testBit_or, testBit_shr, testBit_shl, wordAt_testBit, wordAt_testBit]
  by_cases h : o % 64 + t < 64
  · have e : 64 * (o / 64) + (o % 64 + t) = o + t := by omega
    have h2 : ¬ 64 - o % 64 ≤ t := by omega
    simp [h, h2, e]
  · have e : 64 * (o / 64 + 1) + (t - (64 - o % 64)) = o + t := by omega
    have h2 : 64 - o % 64 ≤ t := by omega
    have h3 : t - (64 - o % 64) < 64 := by omega
    simp [h, h2, h3, e, ht]
theorem src_one (s : List Bool) (o t : Nat) (ht : t < 64) (h : o % 64 = 0 ∨ nW s.length ≤ o / 64 + 1) : (wordAt s (o / 64) >>> (o % 64)).testBit t = s.getD (o + t) false := by
  have hb := bit64 o
  rw [testBit_shr, wordAt_testBit]
  by_cases h2 : o % 64 + t < 64
  · have e : 64 * (o / 64) + (o % 64 + t) = o + t := by omega
    simp [h2, e]
  · rcases h with h | h
    · omega
    · rw [getD_ge s false (i := o + t) (by unfold nW at h; omega)]; simp [h2]
/-- the next word of what is spread -/
theorem dep_word {s m : List Bool} {src k x : Nat} (hsrc : ∀ t, t < 64 → src.testBit t = s.getD (cnt (fun i => m.getD i false) (64 * k) + t) false) (h : x / 64 = k) :
    (num (pdepL src (wordAt m k) 64)).testBit (x % 64) = (depS s m).getD x false := by
  have hb := bit64 x
  have hx : 64 * k + x % 64 = x := by omega
  have e : cnt (wordAt m k).testBit (x % 64) = cnt (fun i => m.getD (64 * k + i) false) (x % 64) := cnt_congr fun i hi => by rw [wordAt_testBit]; simp [show i < 64 by omega]
  have hc := cnt_le (wordAt m k).testBit (x % 64)
  have e2 : cnt (fun i => m.getD i false) x = cnt (fun i => m.getD i false) (64 * k) + cnt (wordAt m k).testBit (x % 64) := by
    rw [e, ← cnt_add, hx]
  rw [num_testBit, depS_getD]
  unfold pdepL
  rw [tab_getD, wordAt_testBit, hsrc _ (by omega), e2, hx]
  simp [hb]
/-- where no more of the set is to be had -/
theorem dep_past {s m : List Bool} {k x : Nat} (h : s.length ≤ cnt (fun i => m.getD i false) k) (hx : k ≤ x) : (depS s m).getD x false = false := by
  have := cnt_below (fun i => m.getD i false) k x hx
  rw [depS_getD, getD_ge s false (i := cnt (fun i => m.getD i false) x) (by omega), Bool.and_false]
theorem dep_none {s m : List Bool} {k x : Nat} (h : wordAt m k = 0) (hx : x / 64 = k) : (depS s m).getD x false = false := by
  have hb := bit64 x
  have e : m.getD x false = (wordAt m k).testBit (x % 64) := by
    rw [wordAt_testBit, show 64 * k + x % 64 = x by omega]; simp [hb]
  rw [depS_getD, e, h]; simp
end Go.Proofs.YthefhfliobjgaaaDoor

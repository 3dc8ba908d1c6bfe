/- Counts up to a place; plain lemmas, without Go. -/
import Derived.Test.YtbahhdeblppooaaDoorL5
set_option linter.unusedVariables false
set_option linter.unusedSimpArgs false
namespace Go.Proofs.YtbahhdeblppooaaDoor

theorem popc_shl (m r : Nat) (hr : r < 64) : popc ((m <<< (63 - r)) % 18446744073709551616) = cnt m.testBit (r + 1) := by
  unfold popc
  have e : 64 = (63 - r) + (r + 1) := by omega
  conv => lhs; rw [e]
  rw [cnt_add, cnt_false (f := ((m <<< (63 - r)) % 18446744073709551616).testBit) (fun i hi => by rw [testBit_shl]; simp [show ¬ 63 - r ≤ i by omega]), Nat.zero_add]
  apply cnt_congr
  intro i hi
  rw [testBit_shl]
  simp [show 63 - r + i < 64 by omega]
theorem btw_word (s : List Bool) (j r : Nat) (hr : r ≤ 64) : btw s (64 * j) (64 * j + r) = cnt (wordAt s j).testBit r := by
  unfold btw
  rw [show 64 * j + r - 64 * j = r by omega]
  apply cnt_congr
  intro i hi
  rw [wordAt_testBit]
  simp [show i < 64 by omega]
theorem rank_eq (s : List Bool) (i : Nat) (h : i / 64 < nW s.length) : psum ((pack s).take (i / 64)) + popc ((wordAt s (i / 64) <<< (63 - i % 64)) % 18446744073709551616) = btw s 0 (i + 1) := by
  rw [popc_shl _ _ (Nat.mod_lt _ (by decide)), ← btw_words s _ (by omega), ← btw_word s _ _ (by omega), btw_split s 0 (64 * (i / 64)) (i + 1) (by omega) (by omega)]
  congr 2
  omega
theorem rank_past (s : List Bool) (i : Nat) (h : nW s.length ≤ i / 64) : psum (pack s) = btw s 0 (i + 1) := by
  rw [psum_pack, ← btw_all, btw_split s 0 s.length (i + 1) (by omega) (by unfold nW at h; omega), btw_past s s.length _ (Nat.le_refl _), Nat.add_zero]
/-- a mask over a word -/
theorem popc_and_low (m r : Nat) (hr : r ≤ 64) (f : Nat → Bool) (x : Nat) (hx : ∀ i, i < 64 → x.testBit i = (m.testBit i && decide (i < r))) : popc x = cnt m.testBit r := by
  unfold popc
  have e : 64 = r + (64 - r) := by omega
  conv => lhs; rw [e]
  rw [cnt_add, cnt_false (f := fun i => x.testBit (r + i)) (fun i hi => by rw [hx _ (by omega)]; simp), Nat.add_zero]
  apply cnt_congr
  intro i hi
  rw [hx _ (by omega)]
  simp [hi]
end Go.Proofs.YtbahhdeblppooaaDoor

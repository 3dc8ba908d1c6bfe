/- The set of words, and a set into which another one is copied: plain lemmas, without Go. -/
import Derived.Test.YtepmbglaalkbdaaDoorL12
import Derived.Test.YtepmbglaalkbdaaDoorL13
import Derived.Test.YtepmbglaalkbdaaDoorL11
set_option linter.unusedVariables false
set_option linter.unusedSimpArgs false
namespace Go.Proofs.YtepmbglaalkbdaaDoor

def ofW (ws : List Nat) : List Bool := tab (64 * ws.length) (wbit ws)
theorem ofW_length (ws : List Nat) : (ofW ws).length = 64 * ws.length := tab_length _ _
theorem ofW_getD (ws : List Nat) (i : Nat) : (ofW ws).getD i false = wbit ws i := by
  unfold ofW
  rw [tab_getD]
  by_cases h : i < 64 * ws.length
  · simp [h]
  · rw [wbit_ge (by omega)]; simp
theorem pack_ofW {ws : List Nat} (h : ∀ x ∈ ws, x < 18446744073709551616) : pack (ofW ws) = ws := by
  symm
  refine pack_unique ?_ h fun i _ => (ofW_getD ws i).symm
  rw [ofW_length]; unfold nW; omega
/-- as the program reckons it: the bit of a word -/
theorem ofW_bit (ws : List Nat) (i : Nat) : decide ((ws.getD (i / 64) 0 >>> (i % 64)) &&& 1 = 1) = wbit ws i := by
  unfold wbit
  generalize ws.getD (i / 64) 0 = x
  rw [Nat.and_one_is_mod]
  have e : x.testBit (i % 64) = decide ((x >>> (i % 64)) % 2 = 1) := by
    rw [Nat.testBit_eq_decide_div_mod_eq, Nat.shiftRight_eq_div_pow]
  rw [e]

def copyS (s t : List Bool) : List Bool := tab t.length fun i => if i < 64 * min (nW s.length) (nW t.length) then s.getD i false else t.getD i false
theorem copyS_length (s t : List Bool) : (copyS s t).length = t.length := tab_length _ _
theorem copyS_getD (s t : List Bool) (i : Nat) : (copyS s t).getD i false = (decide (i < t.length) && if i < 64 * min (nW s.length) (nW t.length) then s.getD i false else t.getD i false) := tab_getD _ _ _
theorem copyS_low {s t : List Bool} {i : Nat} (h1 : i < s.length) (h2 : i < t.length) : (copyS s t).getD i false = s.getD i false := by
  rw [copyS_getD, if_pos (by unfold nW; omega)]; simp [h2]
theorem wbit_drop (ws : List Nat) (m i : Nat) : wbit (ws.drop m) i = wbit ws (64 * m + i) := by
  unfold wbit
  rw [show (64 * m + i) / 64 = m + i / 64 by omega, show (64 * m + i) % 64 = i % 64 by omega]
  simp only [List.getD_eq_getElem?_getD, List.getElem?_drop]
theorem wbit_copy {s t : List Bool} {m : Nat} (hm : m = min (nW s.length) (nW t.length)) (i : Nat) : wbit ((pack s).take m ++ (pack t).drop m) i = if i < 64 * m then s.getD i false else t.getD i false := by
  have h1 := pack_length s
  have h2 := pack_length t
  have hl : ((pack s).take m).length = m := by simp; omega
  rw [wbit_append, hl]
  by_cases h : i < 64 * m
  · rw [if_pos h, if_pos h, ← wbit_pack]
    unfold wbit
    simp only [List.getD_eq_getElem?_getD, List.getElem?_take_of_lt (show i / 64 < m by omega)]
  · rw [if_neg h, if_neg h, wbit_drop, wbit_pack, show 64 * m + (i - 64 * m) = i by omega]
end Go.Proofs.YtepmbglaalkbdaaDoor

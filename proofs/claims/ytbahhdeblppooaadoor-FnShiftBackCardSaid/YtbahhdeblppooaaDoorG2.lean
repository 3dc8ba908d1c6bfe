/- Shrink, ClearAll, SetAll, Compact, each by its contract. -/
import Derived.Test.YtbahhdeblppooaaDoorB2
import Derived.Test.YtbahhdeblppooaaDoorL14
set_option linter.unusedVariables false
set_option linter.unusedSimpArgs false
set_option maxRecDepth 100000
namespace Go.Proofs.YtbahhdeblppooaaDoor
open Go Go.RowKit

theorem BW.len {w : World} {p q L L' : Nat} {ws tl : List Nat} (h : BW w p q L ws tl) (e : L = L') : BW w p q L' ws tl := e ▸ h
theorem over_all {xs ys : List Value} (h : ys.length = xs.length) : over xs 0 ys = ys := by
  unfold over
  rw [List.take_zero, List.nil_append, List.drop_eq_nil_of_le (by omega), List.append_nil]
theorem take_getD (s : List Bool) (n k : Nat) : (s.take n).getD k false = (decide (k < n) && s.getD k false) := by
  simp only [List.getD_eq_getElem?_getD]
  by_cases h : k < n
  · rw [List.getElem?_take_of_lt h]; simp [h]
  · rw [List.getElem?_eq_none (by simp; omega)]; simp [h]
theorem wbit_take (ws : List Nat) (n k : Nat) : wbit (ws.take n) k = (decide (k < 64 * n) && wbit ws k) := by
  unfold wbit
  simp only [List.getD_eq_getElem?_getD]
  by_cases h : k / 64 < n
  · have h2 : k < 64 * n := by omega
    rw [List.getElem?_take_of_lt h]; simp [h2]
  · have h2 : ¬ k < 64 * n := by omega
    rw [List.getElem?_eq_none (by simp; omega)]; simp [h2]































































































theorem c_ClearAll (p q : Nat) (s : List Bool) (w : World) (hB : BSet w p q s) (hs : s.length ≤ 100001) :
    Cal Tryd.prog 48 [vP p] w fun v w' => v = vP p ∧ BSet w' p q (List.replicate s.length false) ∧ Keep w w' [p, q] := by
  obtain ⟨tl, hBW⟩ := hB
  have hst := hBW.st
  have hlen := pack_length s
  have hnn : (pack s).length ≤ 2000 := by rw [hlen]; unfold nW; omega
  refine go_in' Tryd.func48 rfl Tryd.ntmps48 (Nat.le_of_ble_eq_true rfl) ?_
  refine c_seq ?_
  refine c_region ?_
  refine st (y_assign rfl) rfl ?_
  refine l_nil ?_
  refine q_then ?_
  refine c_seq ?_
  refine c_seq ?_
  refine c_region ?_
  refine st (y_move rfl) rfl ?_
  refine st (y_pnil_ne rfl rfl pte49) rfl ?_
  refine st (y_move rfl) rfl ?_
  refine stg rfl rfl (y_move rfl) rfl ?_
  refine stg rfl rfl (y_nil rfl) rfl ?_
  refine stg rfl rfl (fa66_1 rfl) rfl ?_
  refine stg rfl rfl (y_loadb rfl one64 (by assumption) (by rfl)) rfl ?_
  refine stg rfl rfl (y_snil_ne rfl rfl Tryd.underlying64) rfl ?_
  refine st (y_pickT rfl rfl) rfl ?_
  refine l_nil ?_
  refine q_then ?_
  refine c_true rfl rfl ?_
  refine c_seq ?_
  refine c_region ?_
  refine st (y_move rfl) rfl ?_
  refine st (y_nil rfl) rfl ?_
  refine st (fa66_1 rfl) rfl ?_
  refine st (y_loadb rfl one64 (by assumption) (by rfl)) rfl ?_
  refine st (y_len rfl Tryd.underlying64) rfl ?_
  refine st (y_move (v := vI ((0 : Nat) : Int)) rfl) rfl ?_
  refine l_nil ?_
  refine q_then ?_
  refine c_block ?_
  refine c_loop (fun k : Nat => [(0, vP p), (17, vI ((pack s).length : Nat)), (18, vI (k : Nat))]) (fun k w' => k ≤ (pack s).length ∧ Keep w w' [q] ∧ ∃ ws, BW w' p q s.length ws tl ∧ ws.length = (pack s).length ∧ ∀ i, i < 64 * k → wbit ws i = false) (fun k => (pack s).length - k) 0 ?_ ?_ ?_
  · exact ⟨rfl, rfl, rfl, trivial⟩
  · exact ⟨Nat.zero_le _, Keep.refl _ _, _, hBW, rfl, fun i hi => absurd hi (by omega)⟩
  · rintro k w1 ⟨hk, hK1, ws, hBW1, hl1, hb1⟩
    have hst := hBW1.st
    have hwd := hBW1.wd
    refine c_seq ?_
    refine c_region ?_
    refine st_if (y_lt_i rfl rfl) rfl (fun hlt => ?_) (fun hlt => ?_)
    · have hj : k < ws.length := by omega
      refine l_nil ?_
      refine q_then ?_
      refine c_seq ?_
      refine c_true rfl rfl ?_
      refine c_skip ?_
      refine q_then ?_
      refine c_seq ?_
      refine c_block ?_
      refine c_seq ?_
      refine c_region ?_
      refine st (y_move rfl) rfl ?_
      refine st (y_assign rfl) rfl ?_
      refine l_nil ?_
      refine q_then ?_
      refine c_region ?_
      refine st (y_move rfl) rfl ?_
      refine st (y_nil rfl) rfl ?_
      refine st (fa66_1 rfl) rfl ?_
      refine st (y_loadb rfl one64 (by assumption) (by rfl)) rfl ?_
      refine st (y_move rfl) rfl ?_
      first | refine st (y_index0 rfl rfl Tryd.underlying64 sz67 (by omega)) rfl ?_ | refine st (y_index rfl rfl Tryd.underlying64 sz67 (by omega)) rfl ?_ | refine st (y_indexA rfl rfl Tryd.underlying64 sz67 (by omega)) rfl ?_
      refine st_storeM vU rfl rfl rfl sz67 (by assumption) (by first | omega | (simp only [List.length_append, List.length_map, List.length_replicate, List.length_set, List.length_take, List.length_drop]; omega)) rfl ?_
      intro w2 hw2 hK2 hS2
      refine l_nil ?_
      refine q_block ?_
      refine q_then ?_
      refine c_region ?_
      first | refine st (y_add_in (b := 1) rfl rfl (by omega)) rfl ?_ | refine st (y_add_i (b := 1) rfl rfl (by omega) (by omega)) rfl ?_
      refine st (y_move rfl) rfl ?_
      refine l_nil ?_
      refine q_round (k + 1) ⟨rfl, rfl, rfl, trivial⟩ ⟨by omega, hK1.trans hK2 (fun i hi => .inl hi), _, hBW1.store hw2 hK2 (by decide) hj, by simpa using hl1, fun i hi => ?_⟩ (by omega)
      rw [wbit_set _ _ _ _ hj]
      by_cases h : i / 64 = k
      · rw [if_pos h, Nat.zero_testBit]
      · rw [if_neg h]; exact hb1 i (by omega)
    ·
      have hke : k = (pack s).length := by omega
      refine l_nil ?_
      refine q_then ?_
      refine c_seq ?_
      refine c_false rfl rfl ?_
      refine c_exit ?_
      refine q_then_exit ?_
      refine q_then_exit ?_
      refine q_block_hit ?_
      refine q_then ?_
      refine c_seq ?_
      refine c_region ?_
      refine st (y_move rfl) rfl ?_
      refine st (y_assign rfl) rfl ?_
      refine l_nil ?_
      refine q_then ?_
      refine c_ret ?_
      refine q_end1 (.inl rfl) rfl rfl ?_
      refine ⟨_, rfl, rfl, ?_, hK1.mono (fun i hi => .inl (by simp only [List.mem_singleton] at hi; subst hi; simp))⟩
      have hrl : (List.replicate s.length false).length = s.length := by simp
      rw [← hrl] at hBW1
      refine hBW1.bset (by rw [hl1, hlen, hrl]) fun i hi => ?_
      rw [hb1 i (by omega), replicate_getD]
















































end Go.Proofs.YtbahhdeblppooaaDoor

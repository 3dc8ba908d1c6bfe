/- Shrink, ClearAll, SetAll, Compact, each by its contract. -/
import Derived.Test.YtmlamceblhhhpaaDoorB2
import Derived.Test.YtmlamceblhhhpaaDoorL14
set_option linter.unusedVariables false
set_option linter.unusedSimpArgs false
set_option maxRecDepth 100000
namespace Go.Proofs.YtmlamceblhhhpaaDoor
open Go Go.RowKit

theorem BW.len {w : World} {p q L L' : Nat} {ws tl : List Nat} (h : BW w p q L ws tl) (e : L = L') : BW w p q L' ws tl := e ▸ h
theorem over_all {xs ys : List Value} (h : ys.length = xs.length) : over xs 0 ys = ys := by
  unfold over
  rw [List.take_zero, List.nil_append, List.drop_eq_nil_of_le (by omega), List.append_nil]
theorem take_getD (s : List Bool) (n k : Nat) : (s.take n).getD k false = (decide (k < n) && s.getD k false) := by
  simp only [List.getD_eq_getElem?_getD]
  by_cases h : k < n
  · rw [List.getElem?_take_of_lt h]; simp [h]
  · rw [List.getElem?_eq_none (by simp; omega)]; simp [h]
theorem wbit_take (ws : List Nat) (n k : Nat) : wbit (ws.take n) k = (decide (k < 64 * n) && wbit ws k) := by
  unfold wbit
  simp only [List.getD_eq_getElem?_getD]
  by_cases h : k / 64 < n
  · have h2 : k < 64 * n := by omega
    rw [List.getElem?_take_of_lt h]; simp [h2]
  · have h2 : ¬ k < 64 * n := by omega
    rw [List.getElem?_eq_none (by simp; omega)]; simp [h2]

theorem c_Shrink (p q : Nat) (s : List Bool) (i : Nat) (w : World) (hB : BSet w p q s) (hi : i ≤ 100000) (hs : s.length ≤ 100001) :
    Cal Tryd.prog 26 [vP p, vU i] w fun v w' => v = vP p ∧ ∃ q', BSet w' p q' (s.take (i + 1)) ∧ (q' = q ∨ w.heap.size ≤ q') ∧ Keep w w' [p, q] := by
  have hlts := hB.lts
  obtain ⟨tl, hBW⟩ := id hB
  have hst := hBW.st
  refine go_in' Tryd.func26 rfl Tryd.ntmps26 (Nat.le_of_ble_eq_true rfl) ?_
  refine c_seq ?_
  refine c_region ?_
  refine st (y_assign rfl) rfl ?_
  refine l_nil ?_
  refine q_then ?_
  refine c_seq ?_
  refine c_seq ?_
  refine c_region ?_
  refine st (y_move rfl) rfl ?_
  refine st (y_move rfl) rfl ?_
  refine st (y_nil rfl) rfl ?_
  refine st (fa53_0 rfl) rfl ?_
  refine st (y_loadb rfl one22 (by assumption) (by rfl)) rfl ?_
  refine st_if (y_ge_u rfl rfl) rfl (fun hge => ?_) (fun hge => ?_)
  · refine l_nil ?_
    refine q_then ?_
    refine c_true rfl rfl ?_
    refine c_seq ?_
    refine c_region ?_
    refine st (y_move rfl) rfl ?_
    refine st (y_assign rfl) rfl ?_
    refine l_nil ?_
    refine q_then ?_
    refine c_ret ?_
    refine q_then_ret ?_
    refine q_end1 (.inl rfl) rfl rfl ?_
    exact ⟨_, rfl, rfl, q, by rw [List.take_of_length_le (by omega)]; exact hB, .inl rfl, Keep.refl _ _⟩
  ·
    have hwd := hBW.wd
    have hcap := hBW.cap
    have hlen := pack_length s
    have hn : nW (i + 1) ≤ (pack s).length := by rw [hlen]; exact nW_le _ _ (by omega)
    have hn2 : nW (i + 1) ≤ 2000 := by unfold nW; omega
    have hn0 : 0 < nW (i + 1) := nW_pos (by omega)
    refine l_nil ?_
    refine q_then ?_
    refine c_false rfl rfl ?_
    refine c_skip ?_
    refine q_then ?_
    refine c_seq ?_
    refine c_region ?_
    refine st (y_move rfl) rfl ?_
    refine st (y_add_u (b := 1) rfl rfl (by omega)) rfl ?_
    refine st (y_assign rfl) rfl ?_
    refine l_nil ?_
    refine q_then ?_
    refine c_seq ?_
    refine c_region ?_
    refine st (y_move rfl) rfl ?_
    refine sc rfl rfl isfn39 (c_wordsNeeded _ (by omega) _) rfl ?_
    rintro _ _ ⟨rfl, rfl⟩
    refine st (y_assign rfl) rfl ?_
    refine l_nil ?_
    refine q_then ?_
    refine c_seq ?_
    refine c_seq ?_
    refine c_region ?_
    refine st (y_move rfl) rfl ?_
    refine st (y_move rfl) rfl ?_
    refine st (y_nil rfl) rfl ?_
    refine st (fa53_1 rfl) rfl ?_
    refine st (y_loadb rfl one51 (by assumption) (by rfl)) rfl ?_
    refine st (y_len rfl Tryd.underlying51) rfl ?_
    refine st_f (y_gt_i rfl rfl) (by omega) rfl ?_
    refine l_nil ?_
    refine q_then ?_
    refine c_false rfl rfl ?_
    refine c_skip ?_
    refine q_then ?_
    refine c_seq ?_
    refine c_region ?_
    refine st (y_move rfl) rfl ?_
    refine mk51 rfl rfl (by omega) (by omega) rfl ?_
    intro q1 w1 hq1 hwd1 hK1 hS1
    have hst := hst.keep hK1 (by simp only [List.mem_cons, List.not_mem_nil, or_false, not_or, not_false_eq_true] <;> omega)
    have hwd := hwd.keep hK1 (by simp only [List.mem_cons, List.not_mem_nil, or_false, not_or, not_false_eq_true] <;> omega)
    refine st (y_assign rfl) rfl ?_
    refine l_nil ?_
    refine q_then ?_
    refine c_seq ?_
    refine c_region ?_
    refine st (y_move rfl) rfl ?_
    refine st (y_move rfl) rfl ?_
    refine st (y_nil rfl) rfl ?_
    refine st (fa53_1 rfl) rfl ?_
    refine st (y_loadb rfl one51 (by assumption) (by rfl)) rfl ?_
    refine st (y_move rfl) rfl ?_
    refine st (y_slice_h rfl rfl Tryd.underlying51 sz55 (by omega)) rfl ?_
    refine st_copy rfl rfl Tryd.underlying51 sz55 hwd1 hwd (by simp) (by simp; omega) ?_ rfl ?_
    · intro v hv; obtain ⟨x, _, rfl⟩ := List.mem_map.1 hv; rfl
    intro w2 hwd2 hK2 hS2
    have hst := hst.keep hK2 (by simp only [List.mem_cons, List.not_mem_nil, or_false, not_or, not_false_eq_true] <;> omega)
    have e : over ((List.replicate (nW (i + 1)) 0).map vU) 0 ((((pack s ++ tl).map vU).drop 0).take (min (nW (i + 1)) (nW (i + 1)))) = ((pack s).take (nW (i + 1)) ++ []).map vU := by
      rw [Nat.min_self, List.drop_zero, over_all (by simp; omega), ← List.map_take, List.take_append_of_le_length hn, List.append_nil]
    rw [e] at hwd2
    refine l_nil ?_
    refine q_then ?_
    refine c_seq ?_
    refine c_region ?_
    refine st (y_move rfl) rfl ?_
    refine st (y_move rfl) rfl ?_
    refine st (y_nil rfl) rfl ?_
    refine st (fa53_1 rfl) rfl ?_
    refine st_store rfl rfl rfl sz51 (by assumption) (by first | simp | (simp; omega)) rfl ?_
    intro w3 hst3 hK3 hS3
    have hwd2 := hwd2.keep hK3 (by simp only [List.mem_cons, List.not_mem_nil, or_false, not_or, not_false_eq_true] <;> omega)
    refine l_nil ?_
    refine q_then ?_
    refine c_seq ?_
    refine c_region ?_
    refine st (y_move rfl) rfl ?_
    refine st (y_move rfl) rfl ?_
    refine st (y_nil rfl) rfl ?_
    refine st (fa53_0 rfl) rfl ?_
    refine st_store rfl rfl rfl sz22 (by assumption) (by first | simp | (simp; omega)) rfl ?_
    intro w4 hst4 hK4 hS4
    have hwd2 := hwd2.keep hK4 (by simp only [List.mem_cons, List.not_mem_nil, or_false, not_or, not_false_eq_true] <;> omega)
    have hK14 : Keep w w4 [p, q] := ((hK1.mono (by simp)).trans hK2 (fun j hj => by simp only [List.mem_singleton] at hj; exact .inr (by omega))).trans (hK3.trans hK4 (fun i hi => .inl hi)) (fun j hj => .inl (by simp only [List.mem_singleton] at hj; subst hj; simp))
    have hwl : ((pack s).take (nW (i + 1))).length = nW (i + 1) := by simp; omega
    have hBW4 : BW w4 p q1 (i + 1) ((pack s).take (nW (i + 1))) [] := by
      refine ⟨?_, hwd2, by omega, fun x hx => pack_lt s x (List.mem_of_mem_take hx), by rw [hwl]; simp; omega⟩
      rw [hwl]
      exact hst4
    clear hst hwd hst3 hst4 hwd1 hwd2
    have htl : (s.take (i + 1)).length = i + 1 := by simp; omega
    have fin : ∀ k, (wbit ((pack s).take (nW (i + 1))) k && decide (k < i + 1)) = (s.take (i + 1)).getD k false := fun k => by
      rw [wbit_take, wbit_pack, take_getD]
      by_cases h : k < i + 1
      · have h2 : k < 64 * nW (i + 1) := by unfold nW; omega
        simp [h, h2]
      · simp [h]
    refine l_nil ?_
    refine q_then ?_
    refine c_seq ?_
    refine c_region ?_
    refine st (y_move rfl) rfl ?_
    refine st (y_rem_u (b := 64) rfl rfl (by omega)) rfl ?_
    refine st (y_assign rfl) rfl ?_
    refine l_nil ?_
    refine q_then ?_
    refine c_seq ?_
    refine c_seq ?_
    refine c_region ?_
    refine st (y_move rfl) rfl ?_
    refine st_if (y_ne_u (b := 0) rfl rfl) rfl (fun hm => ?_) (fun hm => ?_)
    · have hmod : (i + 1) % 64 ≠ 0 := by omega
      have hBWd := hBW4.drew
      have hst := hBWd.st
      have hwd := hBWd.wd
      rw [hwl] at hst
      have hj : nW (i + 1) - 1 < ((pack s).take (nW (i + 1))).length := by omega
      have hg := getD_app (tl := []) hj
      have hx := getD_lt64 hBW4.lt (nW (i + 1) - 1)
      have hmm := and63 ((i + 1) % 64)
      have hmm2 : (i + 1) % 64 % 64 = (i + 1) % 64 := by omega
      refine l_nil ?_
      refine q_then ?_
      refine c_true rfl rfl ?_
      refine c_tail 14 mixed (by kernel_rfl) ?_
      refine ss (y_move rfl) rfl ?_
      refine ss (y_nil rfl) rfl ?_
      refine ss (fa53_1 rfl) rfl ?_
      refine ss (y_loadb rfl one51 (by assumption) (by rfl)) rfl ?_
      refine ss (y_move rfl) rfl ?_
      refine ss (y_sub_i (b := 1) rfl rfl (by omega) (by omega)) rfl ?_
      rw [show ((nW (i + 1) : Int) - 1) = ((nW (i + 1) - 1 : Nat) : Int) by omega]
      first | refine ss (y_index0 rfl rfl Tryd.underlying51 sz55 (by omega)) rfl ?_ | refine ss (y_index rfl rfl Tryd.underlying51 sz55 (by omega)) rfl ?_ | refine ss (y_indexA rfl rfl Tryd.underlying51 sz55 (by omega)) rfl ?_
      first | refine ss (y_loadM (0) rfl one55 (by assumption) (by first | omega | (simp only [List.length_append, List.length_map, List.length_replicate, List.length_set, List.length_take, List.length_drop]; omega) | (simp; done))) rfl ?_ | refine ss (y_load rfl one55 (by assumption)) rfl ?_
      refine ss (y_move rfl) rfl ?_
      rw [hg]
      refine ssc rfl rfl isfn37 (c_wordsIndex _ (by omega) _) rfl ?_
      rw [hmm, hmm2]
      refine ss (y_sub_u (a := 64) rfl rfl (by omega) (by omega)) rfl ?_
      refine ss (y_shr (a := 18446744073709551615) rfl rfl (by first | omega | assumption | (repeat (first | assumption | omega | decide | exact shl_lt64 _ _ | apply and_lt64 | apply or_lt64 | apply xor_lt64 | apply nt_lt | apply shr_lt64 | apply getD_lt64)))) rfl ?_
      refine ss (y_and rfl rfl (by first | omega | assumption | (repeat (first | assumption | omega | decide | exact shl_lt64 _ _ | apply and_lt64 | apply or_lt64 | apply xor_lt64 | apply nt_lt | apply shr_lt64 | apply getD_lt64))) (by first | omega | assumption | (repeat (first | assumption | omega | decide | exact shl_lt64 _ _ | apply and_lt64 | apply or_lt64 | apply xor_lt64 | apply nt_lt | apply shr_lt64 | apply getD_lt64)))) rfl ?_
      first | refine ss (y_index0 rfl rfl Tryd.underlying51 sz55 (by omega)) rfl ?_ | refine ss (y_index rfl rfl Tryd.underlying51 sz55 (by omega)) rfl ?_ | refine ss (y_indexA rfl rfl Tryd.underlying51 sz55 (by omega)) rfl ?_
      refine s_nil ?_
      show wpL _ _ _ _ _ _ _ _
      refine st_storeM vU rfl rfl rfl sz55 (by assumption) (by first | omega | (simp only [List.length_append, List.length_map, List.length_replicate, List.length_set, List.length_take, List.length_drop]; omega)) rfl ?_
      intro w5 hw5 hK5 hS5
      refine l_nil ?_
      refine q_then ?_
      refine c_seq ?_
      refine c_region ?_
      refine st (y_move rfl) rfl ?_
      refine st (y_assign rfl) rfl ?_
      refine l_nil ?_
      refine q_then ?_
      refine c_ret ?_
      refine q_end1 (.inl rfl) rfl rfl ?_
      have hBW5 := hBWd.store hw5 hK5 (and_lt64 _ hx) hj
      refine ⟨_, rfl, rfl, q1, ?_, .inr (by omega), (hK14.trans (Keep.drew w4 []) (by simp)).trans hK5 (fun j hj => by simp only [List.mem_singleton] at hj; exact .inr (by omega))⟩
      have hcl := wbit_clean (ws := (pack s).take (nW (i + 1))) hwl hmod
      rw [hwl] at hcl
      have hBW6 := hBW5.len htl.symm
      refine hBW6.bset (by rw [List.length_set, hwl, htl]) fun k _ => ?_
      rw [hcl, fin]
    ·
      refine l_nil ?_
      refine q_then ?_
      refine c_false rfl rfl ?_
      refine c_skip ?_
      refine q_then ?_
      refine c_seq ?_
      refine c_region ?_
      refine st (y_move rfl) rfl ?_
      refine st (y_assign rfl) rfl ?_
      refine l_nil ?_
      refine q_then ?_
      refine c_ret ?_
      refine q_end1 (.inl rfl) rfl rfl ?_
      refine ⟨_, rfl, rfl, q1, ?_, .inr (by omega), hK14⟩
      have hcl := clean_full (ws := (pack s).take (nW (i + 1))) hwl (by omega)
      have hBW6 := hBW4.len htl.symm
      refine hBW6.bset (by rw [hwl, htl]) fun k _ => ?_
      rw [hcl, fin]

theorem c_ClearAll (p q : Nat) (s : List Bool) (w : World) (hB : BSet w p q s) (hs : s.length ≤ 100001) :
    Cal Tryd.prog 28 [vP p] w fun v w' => v = vP p ∧ BSet w' p q (List.replicate s.length false) ∧ Keep w w' [p, q] := by
  obtain ⟨tl, hBW⟩ := hB
  have hst := hBW.st
  have hlen := pack_length s
  have hnn : (pack s).length ≤ 2000 := by rw [hlen]; unfold nW; omega
  refine go_in' Tryd.func28 rfl Tryd.ntmps28 (Nat.le_of_ble_eq_true rfl) ?_
  refine c_seq ?_
  refine c_region ?_
  refine st (y_assign rfl) rfl ?_
  refine l_nil ?_
  refine q_then ?_
  refine c_seq ?_
  refine c_seq ?_
  refine c_region ?_
  refine st (y_move rfl) rfl ?_
  refine st (y_pnil_ne rfl rfl pte40) rfl ?_
  refine st (y_move rfl) rfl ?_
  refine stg rfl rfl (y_move rfl) rfl ?_
  refine stg rfl rfl (y_nil rfl) rfl ?_
  refine stg rfl rfl (fa53_1 rfl) rfl ?_
  refine stg rfl rfl (y_loadb rfl one51 (by assumption) (by rfl)) rfl ?_
  refine stg rfl rfl (y_snil_ne rfl rfl Tryd.underlying51) rfl ?_
  refine st (y_pickT rfl rfl) rfl ?_
  refine l_nil ?_
  refine q_then ?_
  refine c_true rfl rfl ?_
  refine c_seq ?_
  refine c_region ?_
  refine st (y_move rfl) rfl ?_
  refine st (y_nil rfl) rfl ?_
  refine st (fa53_1 rfl) rfl ?_
  refine st (y_loadb rfl one51 (by assumption) (by rfl)) rfl ?_
  refine st (y_len rfl Tryd.underlying51) rfl ?_
  refine st (y_move (v := vI ((0 : Nat) : Int)) rfl) rfl ?_
  refine l_nil ?_
  refine q_then ?_
  refine c_block ?_
  refine c_loop (fun k : Nat => [(0, vP p), (17, vI ((pack s).length : Nat)), (18, vI (k : Nat))]) (fun k w' => k ≤ (pack s).length ∧ Keep w w' [q] ∧ ∃ ws, BW w' p q s.length ws tl ∧ ws.length = (pack s).length ∧ ∀ i, i < 64 * k → wbit ws i = false) (fun k => (pack s).length - k) 0 ?_ ?_ ?_
  · exact ⟨rfl, rfl, rfl, trivial⟩
  · exact ⟨Nat.zero_le _, Keep.refl _ _, _, hBW, rfl, fun i hi => absurd hi (by omega)⟩
  · rintro k w1 ⟨hk, hK1, ws, hBW1, hl1, hb1⟩
    have hst := hBW1.st
    have hwd := hBW1.wd
    refine c_seq ?_
    refine c_region ?_
    refine st_if (y_lt_i rfl rfl) rfl (fun hlt => ?_) (fun hlt => ?_)
    · have hj : k < ws.length := by omega
      refine l_nil ?_
      refine q_then ?_
      refine c_seq ?_
      refine c_true rfl rfl ?_
      refine c_skip ?_
      refine q_then ?_
      refine c_seq ?_
      refine c_block ?_
      refine c_seq ?_
      refine c_region ?_
      refine st (y_move rfl) rfl ?_
      refine st (y_assign rfl) rfl ?_
      refine l_nil ?_
      refine q_then ?_
      refine c_region ?_
      refine st (y_move rfl) rfl ?_
      refine st (y_nil rfl) rfl ?_
      refine st (fa53_1 rfl) rfl ?_
      refine st (y_loadb rfl one51 (by assumption) (by rfl)) rfl ?_
      refine st (y_move rfl) rfl ?_
      first | refine st (y_index0 rfl rfl Tryd.underlying51 sz55 (by omega)) rfl ?_ | refine st (y_index rfl rfl Tryd.underlying51 sz55 (by omega)) rfl ?_ | refine st (y_indexA rfl rfl Tryd.underlying51 sz55 (by omega)) rfl ?_
      refine st_storeM vU rfl rfl rfl sz55 (by assumption) (by first | omega | (simp only [List.length_append, List.length_map, List.length_replicate, List.length_set, List.length_take, List.length_drop]; omega)) rfl ?_
      intro w2 hw2 hK2 hS2
      refine l_nil ?_
      refine q_block ?_
      refine q_then ?_
      refine c_region ?_
      first | refine st (y_add_in (b := 1) rfl rfl (by omega)) rfl ?_ | refine st (y_add_i (b := 1) rfl rfl (by omega) (by omega)) rfl ?_
      refine st (y_move rfl) rfl ?_
      refine l_nil ?_
      refine q_round (k + 1) ⟨rfl, rfl, rfl, trivial⟩ ⟨by omega, hK1.trans hK2 (fun i hi => .inl hi), _, hBW1.store hw2 hK2 (by decide) hj, by simpa using hl1, fun i hi => ?_⟩ (by omega)
      rw [wbit_set _ _ _ _ hj]
      by_cases h : i / 64 = k
      · rw [if_pos h, Nat.zero_testBit]
      · rw [if_neg h]; exact hb1 i (by omega)
    ·
      have hke : k = (pack s).length := by omega
      refine l_nil ?_
      refine q_then ?_
      refine c_seq ?_
      refine c_false rfl rfl ?_
      refine c_exit ?_
      refine q_then_exit ?_
      refine q_then_exit ?_
      refine q_block_hit ?_
      refine q_then ?_
      refine c_seq ?_
      refine c_region ?_
      refine st (y_move rfl) rfl ?_
      refine st (y_assign rfl) rfl ?_
      refine l_nil ?_
      refine q_then ?_
      refine c_ret ?_
      refine q_end1 (.inl rfl) rfl rfl ?_
      refine ⟨_, rfl, rfl, ?_, hK1.mono (fun i hi => .inl (by simp only [List.mem_singleton] at hi; subst hi; simp))⟩
      have hrl : (List.replicate s.length false).length = s.length := by simp
      rw [← hrl] at hBW1
      refine hBW1.bset (by rw [hl1, hlen, hrl]) fun i hi => ?_
      rw [hb1 i (by omega), replicate_getD]

theorem c_SetAll (p q : Nat) (s : List Bool) (w : World) (hB : BSet w p q s) (hs : s.length ≤ 100001) :
    Cal Tryd.prog 29 [vP p] w fun v w' => v = vP p ∧ BSet w' p q (List.replicate s.length true) ∧ Keep w w' [p, q] := by
  obtain ⟨tl, hBW⟩ := hB
  have hst := hBW.st
  have hlen := pack_length s
  have hnn : (pack s).length ≤ 2000 := by rw [hlen]; unfold nW; omega
  refine go_in' Tryd.func29 rfl Tryd.ntmps29 (Nat.le_of_ble_eq_true rfl) ?_
  refine c_seq ?_
  refine c_region ?_
  refine st (y_assign rfl) rfl ?_
  refine l_nil ?_
  refine q_then ?_
  refine c_seq ?_
  refine c_seq ?_
  refine c_region ?_
  refine st (y_move rfl) rfl ?_
  refine st (y_pnil_ne rfl rfl pte40) rfl ?_
  refine st (y_move rfl) rfl ?_
  refine stg rfl rfl (y_move rfl) rfl ?_
  refine stg rfl rfl (y_nil rfl) rfl ?_
  refine stg rfl rfl (fa53_1 rfl) rfl ?_
  refine stg rfl rfl (y_loadb rfl one51 (by assumption) (by rfl)) rfl ?_
  refine stg rfl rfl (y_snil_ne rfl rfl Tryd.underlying51) rfl ?_
  refine st (y_pickT rfl rfl) rfl ?_
  refine l_nil ?_
  refine q_then ?_
  refine c_true rfl rfl ?_
  refine c_seq ?_
  refine c_seq ?_
  refine c_region ?_
  refine st (y_move rfl) rfl ?_
  refine st (y_nil rfl) rfl ?_
  refine st (fa53_1 rfl) rfl ?_
  refine st (y_loadb rfl one51 (by assumption) (by rfl)) rfl ?_
  refine st (y_len rfl Tryd.underlying51) rfl ?_
  refine st (y_move (v := vI ((0 : Nat) : Int)) rfl) rfl ?_
  refine l_nil ?_
  refine q_then ?_
  refine c_block ?_
  refine c_loop (fun k : Nat => [(0, vP p), (17, vI ((pack s).length : Nat)), (18, vI (k : Nat))]) (fun k w' => k ≤ (pack s).length ∧ Keep w w' [q] ∧ ∃ ws, BW w' p q s.length ws tl ∧ ws.length = (pack s).length ∧ ∀ i, i < 64 * k → wbit ws i = true) (fun k => (pack s).length - k) 0 ?_ ?_ ?_
  · exact ⟨rfl, rfl, rfl, trivial⟩
  · exact ⟨Nat.zero_le _, Keep.refl _ _, _, hBW, rfl, fun i hi => absurd hi (by omega)⟩
  · rintro k w1 ⟨hk, hK1, ws, hBW1, hl1, hb1⟩
    have hst := hBW1.st
    have hwd := hBW1.wd
    refine c_seq ?_
    refine c_region ?_
    refine st_if (y_lt_i rfl rfl) rfl (fun hlt => ?_) (fun hlt => ?_)
    · have hj : k < ws.length := by omega
      refine l_nil ?_
      refine q_then ?_
      refine c_seq ?_
      refine c_true rfl rfl ?_
      refine c_skip ?_
      refine q_then ?_
      refine c_seq ?_
      refine c_block ?_
      refine c_seq ?_
      refine c_region ?_
      refine st (y_move rfl) rfl ?_
      refine st (y_assign rfl) rfl ?_
      refine l_nil ?_
      refine q_then ?_
      refine c_region ?_
      refine st (y_move rfl) rfl ?_
      refine st (y_nil rfl) rfl ?_
      refine st (fa53_1 rfl) rfl ?_
      refine st (y_loadb rfl one51 (by assumption) (by rfl)) rfl ?_
      refine st (y_move rfl) rfl ?_
      first | refine st (y_index0 rfl rfl Tryd.underlying51 sz55 (by omega)) rfl ?_ | refine st (y_index rfl rfl Tryd.underlying51 sz55 (by omega)) rfl ?_ | refine st (y_indexA rfl rfl Tryd.underlying51 sz55 (by omega)) rfl ?_
      refine st_storeM vU rfl rfl rfl sz55 (by assumption) (by first | omega | (simp only [List.length_append, List.length_map, List.length_replicate, List.length_set, List.length_take, List.length_drop]; omega)) rfl ?_
      intro w2 hw2 hK2 hS2
      refine l_nil ?_
      refine q_block ?_
      refine q_then ?_
      refine c_region ?_
      first | refine st (y_add_in (b := 1) rfl rfl (by omega)) rfl ?_ | refine st (y_add_i (b := 1) rfl rfl (by omega) (by omega)) rfl ?_
      refine st (y_move rfl) rfl ?_
      refine l_nil ?_
      refine q_round (k + 1) ⟨rfl, rfl, rfl, trivial⟩ ⟨by omega, hK1.trans hK2 (fun i hi => .inl hi), _, hBW1.store hw2 hK2 (by decide) hj, by simpa using hl1, fun i hi => ?_⟩ (by omega)
      have hb := bit64 i
      rw [wbit_set _ _ _ _ hj]
      by_cases h : i / 64 = k
      · have e : (18446744073709551615 : Nat).testBit (i % 64) = true := by
          rw [show (18446744073709551615 : Nat) = 2 ^ 64 - 1 by decide, Nat.testBit_two_pow_sub_one]; simp [hb]
        rw [if_pos h]; exact e
      · rw [if_neg h]; exact hb1 i (by omega)
    ·
      have hke : k = (pack s).length := by omega
      refine l_nil ?_
      refine q_then ?_
      refine c_seq ?_
      refine c_false rfl rfl ?_
      refine c_exit ?_
      refine q_then_exit ?_
      refine q_then_exit ?_
      refine q_block_hit ?_
      refine q_then ?_
      refine c_region ?_
      refine st (y_move rfl) rfl ?_
      refine sc rfl rfl isfn40 (c_cleanLastWord p q s.length ws tl _ hBW1 (by omega) (by omega)) rfl ?_
      rintro _ w2 ⟨rfl, ⟨ws', hBW2, hl2, hb2⟩, hK2⟩
      refine l_nil ?_
      refine q_then ?_
      refine c_seq ?_
      refine c_region ?_
      refine st (y_move rfl) rfl ?_
      refine st (y_assign rfl) rfl ?_
      refine l_nil ?_
      refine q_then ?_
      refine c_ret ?_
      refine q_end1 (.inl rfl) rfl rfl ?_
      refine ⟨_, rfl, rfl, ?_, (hK1.trans hK2 (fun i hi => .inl hi)).mono (fun i hi => .inl (by simp only [List.mem_singleton] at hi; subst hi; simp))⟩
      have hrl : (List.replicate s.length true).length = s.length := by simp
      rw [← hrl] at hBW2
      refine hBW2.bset (by rw [hl2, hl1, hlen, hrl]) fun i hi => ?_
      rw [hb2, hb1 i (by omega), Bool.true_and]
      by_cases h : i < s.length
      · simp [List.getD_eq_getElem?_getD, h]
      · simp [List.getD_eq_getElem?_getD, h]

end Go.Proofs.YtmlamceblhhhpaaDoor

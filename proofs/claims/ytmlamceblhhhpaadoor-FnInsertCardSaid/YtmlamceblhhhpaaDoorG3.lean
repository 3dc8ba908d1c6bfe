/- InsertAt, by its contract. -/
import Derived.Test.YtmlamceblhhhpaaDoorG2
import Derived.Test.YtmlamceblhhhpaaDoorL15
set_option linter.unusedVariables false
set_option linter.unusedSimpArgs false
set_option maxRecDepth 100000
namespace Go.Proofs.YtmlamceblhhhpaaDoor
open Go Go.RowKit

theorem c_InsertAt (p q : Nat) (s : List Bool) (i : Nat) (w : World) (hB : BSet w p q s) (hi : i < s.length) (hs : s.length ≤ 10000) :
    Cal Tryd.prog 24 [vP p, vU i] w fun v w' => v = vP p ∧ ∃ q', BSet w' p q' (insB s i) ∧ (q' = q ∨ w.heap.size ≤ q') ∧ Keep w w' [p, q] := by
  have hlts := hB.lts
  obtain ⟨tl0, hBW0⟩ := id hB
  have hst := hBW0.st
  have hdiv := shr6 i
  have hmod := and63 i
  have hb := bit64 i
  refine go_in' Tryd.func24 rfl Tryd.ntmps24 (Nat.le_of_ble_eq_true rfl) ?_
  refine c_seq ?_
  refine c_region ?_
  refine st (y_assign rfl) rfl ?_
  refine l_nil ?_
  refine q_then ?_
  refine c_seq ?_
  refine c_seq ?_
  refine c_region ?_
  refine st (y_move rfl) rfl ?_
  refine st (y_move rfl) rfl ?_
  refine st (y_nil rfl) rfl ?_
  refine st (fa53_0 rfl) rfl ?_
  refine st (y_loadb rfl one22 (by assumption) (by rfl)) rfl ?_
  refine st_f (y_ge_u rfl rfl) (by omega) rfl ?_
  refine l_nil ?_
  refine q_then ?_
  refine c_false rfl rfl ?_
  refine c_skip ?_
  refine q_then ?_
  refine c_seq ?_
  refine c_region ?_
  refine st (y_move rfl) rfl ?_
  refine st (y_shr (k := 6) rfl rfl (by first | omega | assumption | (repeat (first | assumption | omega | decide | exact shl_lt64 _ _ | apply and_lt64 | apply or_lt64 | apply xor_lt64 | apply nt_lt | apply shr_lt64 | apply getD_lt64)))) rfl ?_
  refine st (y_assign rfl) rfl ?_
  refine l_nil ?_
  refine q_then ?_
  rw [hdiv]
  refine c_seq ?_
  refine c_region ?_
  refine st (y_move rfl) rfl ?_
  refine st (y_move rfl) rfl ?_
  refine st (y_nil rfl) rfl ?_
  refine st (fa53_0 rfl) rfl ?_
  refine st (y_loadb rfl one22 (by assumption) (by rfl)) rfl ?_
  refine sc rfl rfl isfn36 (c_extendSet p q s.length (pack s) tl0 s.length _ hBW0 (by omega) (by rw [pack_length]; exact nW_le _ _ (by omega))) rfl ?_
  rintro _ w1 ⟨rfl, q1, tl, hBW1, hq1, hK1⟩
  obtain ⟨ws1, hws1⟩ : ∃ ws1, pack s ++ List.replicate (nW (s.length + 1) - (pack s).length) 0 = ws1 := ⟨_, rfl⟩
  rw [hws1] at hBW1
  have hl1 : ws1.length = nW (s.length + 1) := by
    have hpl := pack_length s
    have := nW_le s.length (s.length + 1) (by omega)
    rw [← hws1]; simp; omega
  have hb1 : ∀ x, wbit ws1 x = s.getD x false := fun x => by
    rw [← hws1, wbit_append]
    split
    · rw [wbit_pack]
    · rw [wbit_zeros, getD_ge s false (by have := pack_length s; unfold nW at this; omega)]
  have hnn : nW (s.length + 1) ≤ 2000 := by unfold nW; omega
  have hn0 : i / 64 < nW (s.length + 1) := by unfold nW; omega
  have hlt1 : p < w1.heap.size ∧ q1 < w1.heap.size := ⟨hBW1.st.lt, hBW1.wd.lt⟩
  clear hst
  have hst := hBW1.st
  refine l_nil ?_
  refine q_then ?_
  refine c_seq ?_
  refine c_seq ?_
  refine c_region ?_
  refine st (y_move rfl) rfl ?_
  refine st (y_nil rfl) rfl ?_
  refine st (fa53_1 rfl) rfl ?_
  refine st (y_loadb rfl one51 (by assumption) (by rfl)) rfl ?_
  refine st (y_len rfl Tryd.underlying51) rfl ?_
  refine st (y_sub_i (b := 1) rfl rfl (by omega) (by omega)) rfl ?_
  rw [show ((ws1.length : Int) - 1) = ((ws1.length - 1 : Nat) : Int) by omega]
  refine st (y_conv_iu rfl us3 Tryd.underlying22 rfl (by omega)) rfl ?_
  refine st (y_assign rfl) rfl ?_
  refine l_nil ?_
  refine q_then ?_
  refine c_block ?_
  refine c_loop (fun j : Nat => [(0, vP p), (1, vU i), (5, vU (i / 64)), (6, vU j)]) (fun j w' => i / 64 ≤ j ∧ j < nW (s.length + 1) ∧ Keep w1 w' [q1] ∧ ∃ ws, BW w' p q1 (s.length + 1) ws tl ∧ ws.length = nW (s.length + 1) ∧ ∀ x, x < 64 * nW (s.length + 1) → wbit ws x = if 64 * (j + 1) ≤ x then s.getD (x - 1) false else s.getD x false) (fun j => j) (ws1.length - 1) ?_ ?_ ?_
  · exact ⟨rfl, rfl, rfl, rfl, trivial⟩
  · exact ⟨by omega, by omega, Keep.refl _ _, ws1, hBW1, hl1, fun x hx => by rw [hb1, if_neg (by omega)]⟩
  · rintro j w2 ⟨hj1, hj2, hK2, ws, hBW2, hwl, hwb⟩
    have hst := hBW2.st
    have hwd := hBW2.wd
    refine c_seq ?_
    refine c_seq ?_
    refine c_region ?_
    refine st (y_move rfl) rfl ?_
    refine st (y_move rfl) rfl ?_
    refine st_if (y_gt_u rfl rfl) rfl (fun hgt => ?_) (fun hgt => ?_)
    · have hj : j < ws.length := by omega
      have hg := getD_app (tl := tl) hj
      have hx := getD_lt64 hBW2.lt j
      refine l_nil ?_
      refine q_then ?_
      refine c_true rfl rfl ?_
      refine c_skip ?_
      refine q_then ?_
      refine c_seq ?_
      refine c_block ?_
      refine c_seq ?_
      refine c_region ?_
      refine st (y_move rfl) rfl ?_
      refine st (y_nil rfl) rfl ?_
      refine st (fa53_1 rfl) rfl ?_
      refine st (y_loadb rfl one51 (by assumption) (by rfl)) rfl ?_
      refine st (y_move rfl) rfl ?_
      first | refine st (y_index0 rfl rfl Tryd.underlying51 sz55 (by omega)) rfl ?_ | refine st (y_index rfl rfl Tryd.underlying51 sz55 (by omega)) rfl ?_ | refine st (y_indexA rfl rfl Tryd.underlying51 sz55 (by omega)) rfl ?_
      first | refine st (y_loadM (0) rfl one55 (by assumption) (by first | omega | (simp only [List.length_append, List.length_map, List.length_replicate, List.length_set, List.length_take, List.length_drop]; omega) | (simp; done))) rfl ?_ | refine st (y_load rfl one55 (by assumption)) rfl ?_
      refine st (y_shl (k := 1) rfl rfl) rfl ?_
      first | refine st (y_index0 rfl rfl Tryd.underlying51 sz55 (by omega)) rfl ?_ | refine st (y_index rfl rfl Tryd.underlying51 sz55 (by omega)) rfl ?_ | refine st (y_indexA rfl rfl Tryd.underlying51 sz55 (by omega)) rfl ?_
      rw [hg]
      refine st_storeM vU rfl rfl rfl sz55 (by assumption) (by first | omega | (simp only [List.length_append, List.length_map, List.length_replicate, List.length_set, List.length_take, List.length_drop]; omega)) rfl ?_
      intro w3 hw3 hK3 hS3
      have hBW3 := hBW2.store hw3 hK3 (Nat.mod_lt _ (by decide)) hj
      have hBW3d := hBW3.drew
      have hst3 := hBW3d.st
      have hwd3 := hBW3d.wd
      rw [List.length_set] at hst3
      have hj3 : j < (ws.set j ((ws.getD j 0 <<< 1) % 18446744073709551616)).length := by simpa using hj
      have hg3 := getD_app (tl := tl) hj3
      have hg4 := getD_app (tl := tl) (show j - 1 < (ws.set j ((ws.getD j 0 <<< 1) % 18446744073709551616)).length by simp; omega)
      have e3 : (ws.set j ((ws.getD j 0 <<< 1) % 18446744073709551616)).getD j 0 = (ws.getD j 0 <<< 1) % 18446744073709551616 := by
        rw [List.getD_eq_getElem?_getD, List.getElem?_set_self hj]; rfl
      have e4 : (ws.set j ((ws.getD j 0 <<< 1) % 18446744073709551616)).getD (j - 1) 0 = ws.getD (j - 1) 0 := by
        rw [List.getD_eq_getElem?_getD, List.getElem?_set_ne (by omega), ← List.getD_eq_getElem?_getD]
      rw [e3] at hg3
      rw [e4] at hg4
      have hx4 := getD_lt64 hBW2.lt (j - 1)
      have hm0 : (ws.getD j 0 <<< 1) % 18446744073709551616 < 18446744073709551616 := Nat.mod_lt _ (by decide)
      clear hst hwd
      refine l_nil ?_
      refine q_then ?_
      refine c_tail 19 mixed (by kernel_rfl) ?_
      refine ss (y_move rfl) rfl ?_
      refine ss (y_nil rfl) rfl ?_
      refine ss (fa53_1 rfl) rfl ?_
      refine ss (y_loadb rfl one51 (by assumption) (by rfl)) rfl ?_
      refine ss (y_move rfl) rfl ?_
      first | refine ss (y_index0 rfl rfl Tryd.underlying51 sz55 (by omega)) rfl ?_ | refine ss (y_index rfl rfl Tryd.underlying51 sz55 (by omega)) rfl ?_ | refine ss (y_indexA rfl rfl Tryd.underlying51 sz55 (by omega)) rfl ?_
      first | refine ss (y_loadM (0) rfl one55 (by assumption) (by first | omega | (simp only [List.length_append, List.length_map, List.length_replicate, List.length_set, List.length_take, List.length_drop]; omega) | (simp; done))) rfl ?_ | refine ss (y_load rfl one55 (by assumption)) rfl ?_
      refine ss (y_move rfl) rfl ?_
      refine ss (y_nil rfl) rfl ?_
      refine ss (fa53_1 rfl) rfl ?_
      refine ss (y_loadb rfl one51 (by assumption) (by rfl)) rfl ?_
      refine ss (y_move rfl) rfl ?_
      refine ss (y_sub_u (b := 1) rfl rfl (by omega) (by omega)) rfl ?_
      first | refine ss (y_index0 rfl rfl Tryd.underlying51 sz55 (by omega)) rfl ?_ | refine ss (y_index rfl rfl Tryd.underlying51 sz55 (by omega)) rfl ?_ | refine ss (y_indexA rfl rfl Tryd.underlying51 sz55 (by omega)) rfl ?_
      first | refine ss (y_loadM (0) rfl one55 (by assumption) (by first | omega | (simp only [List.length_append, List.length_map, List.length_replicate, List.length_set, List.length_take, List.length_drop]; omega) | (simp; done))) rfl ?_ | refine ss (y_load rfl one55 (by assumption)) rfl ?_
      rw [hg3, hg4]
      refine ss (y_and (b := 9223372036854775808) rfl rfl (by first | omega | assumption | (repeat (first | assumption | omega | decide | exact shl_lt64 _ _ | apply and_lt64 | apply or_lt64 | apply xor_lt64 | apply nt_lt | apply shr_lt64 | apply getD_lt64))) (by first | omega | assumption | (repeat (first | assumption | omega | decide | exact shl_lt64 _ _ | apply and_lt64 | apply or_lt64 | apply xor_lt64 | apply nt_lt | apply shr_lt64 | apply getD_lt64)))) rfl ?_
      refine ss (y_shr (k := 63) rfl rfl (by first | omega | assumption | (repeat (first | assumption | omega | decide | exact shl_lt64 _ _ | apply and_lt64 | apply or_lt64 | apply xor_lt64 | apply nt_lt | apply shr_lt64 | apply getD_lt64)))) rfl ?_
      refine ss (y_or rfl rfl (by first | omega | assumption | (repeat (first | assumption | omega | decide | exact shl_lt64 _ _ | apply and_lt64 | apply or_lt64 | apply xor_lt64 | apply nt_lt | apply shr_lt64 | apply getD_lt64))) (by first | omega | assumption | (repeat (first | assumption | omega | decide | exact shl_lt64 _ _ | apply and_lt64 | apply or_lt64 | apply xor_lt64 | apply nt_lt | apply shr_lt64 | apply getD_lt64)))) rfl ?_
      first | refine ss (y_index0 rfl rfl Tryd.underlying51 sz55 (by omega)) rfl ?_ | refine ss (y_index rfl rfl Tryd.underlying51 sz55 (by omega)) rfl ?_ | refine ss (y_indexA rfl rfl Tryd.underlying51 sz55 (by omega)) rfl ?_
      refine s_nil ?_
      show wpL _ _ _ _ _ _ _ _
      refine st_storeM vU rfl rfl rfl sz55 (by assumption) (by first | omega | (simp only [List.length_append, List.length_map, List.length_replicate, List.length_set, List.length_take, List.length_drop]; omega)) rfl ?_
      intro w4 hw4 hK4 hS4
      refine l_nil ?_
      refine q_block ?_
      refine q_then ?_
      refine c_region ?_
      refine st (y_move rfl) rfl ?_
      refine st (y_sub_u (b := 1) rfl rfl (by omega) (by omega)) rfl ?_
      refine st (y_assign rfl) rfl ?_
      refine l_nil ?_
      have hm1 : (ws.getD (j - 1) 0 &&& 9223372036854775808) >>> 63 < 18446744073709551616 := by
        rw [Nat.shiftRight_eq_div_pow]; exact Nat.lt_of_le_of_lt (Nat.div_le_self _ _) (and_lt64 _ hx4)
      have hBW4 := hBW3d.store hw4 hK4 (or_lt64 hm0 hm1) hj3
      refine q_round (j - 1) ⟨rfl, rfl, rfl, rfl, trivial⟩ ⟨by omega, by omega, ((hK2.trans hK3 (fun i hi => .inl hi)).trans (Keep.drew w3 []) (by simp)).trans hK4 (fun i hi => .inl hi), _, hBW4, by simpa using hwl, fun x hx => ?_⟩ (by omega)
      rw [up_word hBW2.lt hj (by omega)]
      by_cases h : x / 64 = j
      · rw [if_pos h, hwb _ (by omega), if_neg (by omega), if_pos (by omega)]
      · rw [if_neg h, hwb _ hx]
        by_cases h2 : 64 * (j + 1) ≤ x
        · rw [if_pos h2, if_pos (by omega)]
        · rw [if_neg h2, if_neg (by omega)]
    ·
      have hje : j = i / 64 := by omega
      subst hje
      have hj : i / 64 < ws.length := by omega
      have hg := getD_app (tl := tl) hj
      have hx := getD_lt64 hBW2.lt (i / 64)
      have hp1 := shl1_pos (i % 64) hb
      have hm64 : (1 <<< (i % 64)) % 18446744073709551616 < 18446744073709551616 := Nat.mod_lt _ (by decide)
      refine l_nil ?_
      refine q_then ?_
      refine c_false rfl rfl ?_
      refine c_exit ?_
      refine q_then_exit ?_
      refine q_then_exit ?_
      refine q_block_hit ?_
      refine q_then ?_
      refine c_seq ?_
      refine c_region ?_
      refine st (y_move rfl) rfl ?_
      refine sc rfl rfl isfn37 (c_wordsIndex _ (by omega) _) rfl ?_
      rintro _ _ ⟨rfl, rfl⟩
      rw [hmod]
      refine st (y_shl (a := 1) rfl rfl) rfl ?_
      refine st (y_sub_u (b := 1) rfl rfl (by omega) (by omega)) rfl ?_
      refine st (y_assign rfl) rfl ?_
      refine l_nil ?_
      refine q_then ?_
      refine c_seq ?_
      refine c_region ?_
      refine st (y_move rfl) rfl ?_
      refine st (y_nil rfl) rfl ?_
      refine st (fa53_1 rfl) rfl ?_
      refine st (y_loadb rfl one51 (by assumption) (by rfl)) rfl ?_
      refine st (y_move rfl) rfl ?_
      first | refine st (y_index0 rfl rfl Tryd.underlying51 sz55 (by omega)) rfl ?_ | refine st (y_index rfl rfl Tryd.underlying51 sz55 (by omega)) rfl ?_ | refine st (y_indexA rfl rfl Tryd.underlying51 sz55 (by omega)) rfl ?_
      first | refine st (y_loadM (0) rfl one55 (by assumption) (by first | omega | (simp only [List.length_append, List.length_map, List.length_replicate, List.length_set, List.length_take, List.length_drop]; omega) | (simp; done))) rfl ?_ | refine st (y_load rfl one55 (by assumption)) rfl ?_
      refine st (y_move rfl) rfl ?_
      refine st (y_compl rfl (by first | omega | assumption | (repeat (first | assumption | omega | decide | exact shl_lt64 _ _ | apply and_lt64 | apply or_lt64 | apply xor_lt64 | apply nt_lt | apply shr_lt64 | apply getD_lt64)))) rfl ?_
      refine st (y_and rfl rfl (by first | omega | assumption | (repeat (first | assumption | omega | decide | exact shl_lt64 _ _ | apply and_lt64 | apply or_lt64 | apply xor_lt64 | apply nt_lt | apply shr_lt64 | apply getD_lt64))) (by first | omega | assumption | (repeat (first | assumption | omega | decide | exact shl_lt64 _ _ | apply and_lt64 | apply or_lt64 | apply xor_lt64 | apply nt_lt | apply shr_lt64 | apply getD_lt64)))) rfl ?_
      refine st (y_assign rfl) rfl ?_
      refine l_nil ?_
      refine q_then ?_
      refine c_seq ?_
      refine c_region ?_
      refine st (y_move rfl) rfl ?_
      refine st (y_nil rfl) rfl ?_
      refine st (fa53_1 rfl) rfl ?_
      refine st (y_loadb rfl one51 (by assumption) (by rfl)) rfl ?_
      refine st (y_move rfl) rfl ?_
      first | refine st (y_index0 rfl rfl Tryd.underlying51 sz55 (by omega)) rfl ?_ | refine st (y_index rfl rfl Tryd.underlying51 sz55 (by omega)) rfl ?_ | refine st (y_indexA rfl rfl Tryd.underlying51 sz55 (by omega)) rfl ?_
      first | refine st (y_loadM (0) rfl one55 (by assumption) (by first | omega | (simp only [List.length_append, List.length_map, List.length_replicate, List.length_set, List.length_take, List.length_drop]; omega) | (simp; done))) rfl ?_ | refine st (y_load rfl one55 (by assumption)) rfl ?_
      refine st (y_move rfl) rfl ?_
      refine st (y_and rfl rfl (by first | omega | assumption | (repeat (first | assumption | omega | decide | exact shl_lt64 _ _ | apply and_lt64 | apply or_lt64 | apply xor_lt64 | apply nt_lt | apply shr_lt64 | apply getD_lt64))) (by first | omega | assumption | (repeat (first | assumption | omega | decide | exact shl_lt64 _ _ | apply and_lt64 | apply or_lt64 | apply xor_lt64 | apply nt_lt | apply shr_lt64 | apply getD_lt64)))) rfl ?_
      first | refine st (y_index0 rfl rfl Tryd.underlying51 sz55 (by omega)) rfl ?_ | refine st (y_index rfl rfl Tryd.underlying51 sz55 (by omega)) rfl ?_ | refine st (y_indexA rfl rfl Tryd.underlying51 sz55 (by omega)) rfl ?_
      obtain ⟨M, hM⟩ : ∃ M, (1 <<< (i % 64)) % 18446744073709551616 - 1 = M := ⟨_, rfl⟩
      have hMl : M < 18446744073709551616 := by omega
      rw [hM]
      rw [show nt M = nt' M from rfl]
      rw [hg]
      refine st_storeM vU rfl rfl rfl sz55 (by assumption) (by first | omega | (simp only [List.length_append, List.length_map, List.length_replicate, List.length_set, List.length_take, List.length_drop]; omega)) rfl ?_
      intro w3 hw3 hK3 hS3
      have hBW3 := hBW2.store hw3 hK3 (and_lt64 M hx) hj
      have hst3 := hBW3.st
      have hwd3 := hBW3.wd
      rw [List.length_set] at hst3
      have hj3 : i / 64 < (ws.set (i / 64) (ws.getD (i / 64) 0 &&& M)).length := by simpa using hj
      have hg3 := getD_app (tl := tl) hj3
      have e3 : (ws.set (i / 64) (ws.getD (i / 64) 0 &&& M)).getD (i / 64) 0 = ws.getD (i / 64) 0 &&& M := by
        rw [List.getD_eq_getElem?_getD, List.getElem?_set_self hj]; rfl
      rw [e3] at hg3
      clear hst hwd
      refine l_nil ?_
      refine q_then ?_
      refine c_seq ?_
      refine c_region ?_
      refine st (y_move rfl) rfl ?_
      refine st (y_nil rfl) rfl ?_
      refine st (fa53_1 rfl) rfl ?_
      refine st (y_loadb rfl one51 (by assumption) (by rfl)) rfl ?_
      refine st (y_move rfl) rfl ?_
      first | refine st (y_index0 rfl rfl Tryd.underlying51 sz55 (by omega)) rfl ?_ | refine st (y_index rfl rfl Tryd.underlying51 sz55 (by omega)) rfl ?_ | refine st (y_indexA rfl rfl Tryd.underlying51 sz55 (by omega)) rfl ?_
      first | refine st (y_loadM (0) rfl one55 (by assumption) (by first | omega | (simp only [List.length_append, List.length_map, List.length_replicate, List.length_set, List.length_take, List.length_drop]; omega) | (simp; done))) rfl ?_ | refine st (y_load rfl one55 (by assumption)) rfl ?_
      refine st (y_move rfl) rfl ?_
      refine st (y_shl (k := 1) rfl rfl) rfl ?_
      rw [hg3]
      refine st (y_or rfl rfl (by first | omega | assumption | (repeat (first | assumption | omega | decide | exact shl_lt64 _ _ | apply and_lt64 | apply or_lt64 | apply xor_lt64 | apply nt_lt | apply shr_lt64 | apply getD_lt64))) (by first | omega | assumption | (repeat (first | assumption | omega | decide | exact shl_lt64 _ _ | apply and_lt64 | apply or_lt64 | apply xor_lt64 | apply nt_lt | apply shr_lt64 | apply getD_lt64)))) rfl ?_
      first | refine st (y_index0 rfl rfl Tryd.underlying51 sz55 (by omega)) rfl ?_ | refine st (y_index rfl rfl Tryd.underlying51 sz55 (by omega)) rfl ?_ | refine st (y_indexA rfl rfl Tryd.underlying51 sz55 (by omega)) rfl ?_
      refine st_storeM vU rfl rfl rfl sz55 (by assumption) (by first | omega | (simp only [List.length_append, List.length_map, List.length_replicate, List.length_set, List.length_take, List.length_drop]; omega)) rfl ?_
      intro w4 hw4 hK4 hS4
      refine l_nil ?_
      refine q_then ?_
      refine c_seq ?_
      refine c_region ?_
      refine st (y_move rfl) rfl ?_
      refine st (y_assign rfl) rfl ?_
      refine l_nil ?_
      refine q_then ?_
      refine c_ret ?_
      refine q_end1 (.inl rfl) rfl rfl ?_
      have hBW4 := hBW3.store hw4 hK4 (or_lt64 (and_lt64 M hx) (Nat.mod_lt _ (by decide))) hj3
      have hil := insB_length (s := s) (i := i) (by omega)
      have hBW5 := hBW4.len hil.symm
      refine ⟨_, rfl, rfl, q1, hBW5.bset (by simp [hil]; omega) fun x hx => ?_, hq1, ((hK1.trans hK2 (fun j hj => by simp only [List.mem_singleton] at hj; subst hj; rcases hq1 with h | h <;> simp [h])).trans hK3 (fun j hj => by simp only [List.mem_singleton] at hj; subst hj; rcases hq1 with h | h <;> simp [h])).trans hK4 (fun j hj => by simp only [List.mem_singleton] at hj; subst hj; rcases hq1 with h | h <;> simp [h])⟩
      have hxl : x < 64 * nW (s.length + 1) := by simpa [hwl] using hx
      rw [List.set_set, ← hM, ins_word hBW2.lt hj, insB_getD (by omega)]
      by_cases h : x / 64 = i / 64
      · rw [if_pos h]
        by_cases h1 : x < i
        · rw [if_pos h1, if_pos h1, hwb _ hxl, if_neg (by omega)]
        · rw [if_neg h1, if_neg h1]
          by_cases h2 : x = i
          · rw [if_pos h2, if_pos h2]
          · rw [if_neg h2, if_neg h2, hwb _ (by omega), if_neg (by omega)]
      · rw [if_neg h, hwb _ hxl]
        by_cases h1 : x < i
        · rw [if_pos h1, if_neg (by omega)]
        · rw [if_pos (show 64 * (i / 64 + 1) ≤ x by omega), if_neg h1, if_neg (show ¬ x = i by omega)]

end Go.Proofs.YtmlamceblhhhpaaDoor

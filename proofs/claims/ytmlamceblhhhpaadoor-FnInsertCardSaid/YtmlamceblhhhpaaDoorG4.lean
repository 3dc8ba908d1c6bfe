/- DeleteAt, by its contract. -/
import Derived.Test.YtmlamceblhhhpaaDoorG2
import Derived.Test.YtmlamceblhhhpaaDoorL16
set_option linter.unusedVariables false
set_option linter.unusedSimpArgs false
set_option maxRecDepth 100000
namespace Go.Proofs.YtmlamceblhhhpaaDoor
open Go Go.RowKit

theorem c_wNU (i : Nat) (hi : i < 4611686018427387904) (w : World) : Cal Tryd.prog 45 [vU i] w fun v w' => v = vI ((nW i : Nat) : Int) ∧ w = w' := by
  refine go_in' Tryd.func45 rfl Tryd.ntmps45 (Nat.le_of_ble_eq_true rfl) ?_
  refine c_seq ?_
  refine c_region ?_
  refine st (y_assign (v := vI ((0 : Nat) : Int)) rfl) rfl ?_
  refine l_nil ?_
  refine q_then ?_
  refine c_seq ?_
  refine c_region ?_
  refine st (y_move rfl) rfl ?_
  refine st (y_conv_ui rfl us22 Tryd.underlying3 (by omega)) rfl ?_
  first | refine st (y_add_in (b := 63) rfl rfl (by omega)) rfl ?_ | refine st (y_add_i (b := 63) rfl rfl (by omega) (by omega)) rfl ?_
  refine st (y_shr_i (k := 6) rfl rfl (by omega)) rfl ?_
  refine st (y_assign rfl) rfl ?_
  refine l_nil ?_
  refine q_then ?_
  refine c_ret ?_
  refine q_end1 (.inl rfl) rfl rfl ?_
  refine ⟨_, rfl, ?_, rfl⟩
  simp [nW, Nat.shiftRight_eq_div_pow]

theorem c_wCount (p q L : Nat) (ws tl : List Nat) (w : World) (hB : BW w p q L ws tl) (hs : L ≤ 100001) :
    Cal Tryd.prog 38 [vP p] w fun v w' => v = vI ((nW L : Nat) : Int) ∧ w = w' := by
  have hst := hB.st
  refine go_in' Tryd.func38 rfl Tryd.ntmps38 (Nat.le_of_ble_eq_true rfl) ?_
  refine c_seq ?_
  refine c_region ?_
  refine st (y_assign (v := vI ((0 : Nat) : Int)) rfl) rfl ?_
  refine l_nil ?_
  refine q_then ?_
  refine c_seq ?_
  refine c_region ?_
  refine st (y_move rfl) rfl ?_
  refine st (y_nil rfl) rfl ?_
  refine st (fa53_0 rfl) rfl ?_
  refine st (y_loadb rfl one22 (by assumption) (by rfl)) rfl ?_
  refine sc rfl rfl isfn45 (c_wNU _ (by omega) _) rfl ?_
  rintro _ _ ⟨rfl, rfl⟩
  refine st (y_assign rfl) rfl ?_
  refine l_nil ?_
  refine q_then ?_
  refine c_ret ?_
  refine q_end1 (.inl rfl) rfl rfl ?_
  exact ⟨_, rfl, rfl, rfl⟩

theorem BW.cut {w : World} {p q L : Nat} {ws tl : List Nat} {n : Nat} (hst : Blk w p 53 [vU L, vS q n (ws.length + tl.length)]) (hwd : Blk w q 55 ((ws ++ tl).map vU)) (hne : p ≠ q) (hlt : ∀ x ∈ ws, x < 18446744073709551616) (hcap : ws.length + tl.length ≤ 1000000) (hn : n ≤ ws.length) :
    BW w p q L (ws.take n) (ws.drop n ++ tl) := by
  have e1 : (ws.take n).length = n := by simp; omega
  have e2 : n + (ws.drop n ++ tl).length = ws.length + tl.length := by simp; omega
  refine ⟨?_, ?_, hne, fun x hx => hlt x (List.mem_of_mem_take hx), by rw [e1, e2]; exact hcap⟩
  · rw [e1, e2]; exact hst
  · rw [← List.append_assoc, List.take_append_drop]; exact hwd

theorem c_DeleteAt (p q : Nat) (s : List Bool) (i : Nat) (w : World) (hB : BSet w p q s) (hi : i < s.length) (hs : s.length ≤ 10000) :
    Cal Tryd.prog 25 [vP p, vU i] w fun v w' => v = vP p ∧ BSet w' p q (delB s i) ∧ Keep w w' [p, q] := by
  have hlts := hB.lts
  obtain ⟨tl, hBW0⟩ := id hB
  have hst := hBW0.st
  have hwd := hBW0.wd
  have hcap := hBW0.cap
  have hdiv := shr6 i
  have hmod := and63 i
  have hb := bit64 i
  have hlen := pack_length s
  have hnn : nW s.length ≤ 2000 := by unfold nW; omega
  have hj : i / 64 < (pack s).length := by rw [hlen]; unfold nW; omega
  have hg := getD_app (tl := tl) hj
  have hx := getD_lt64 hBW0.lt (i / 64)
  have hp1 := shl1_pos (i % 64) hb
  have hm64 : (1 <<< (i % 64)) % 18446744073709551616 < 18446744073709551616 := Nat.mod_lt _ (by decide)
  refine go_in' Tryd.func25 rfl Tryd.ntmps25 (Nat.le_of_ble_eq_true rfl) ?_
  refine c_seq ?_
  refine c_region ?_
  refine st (y_assign rfl) rfl ?_
  refine l_nil ?_
  refine q_then ?_
  refine c_seq ?_
  refine c_seq ?_
  refine c_region ?_
  refine st (y_move rfl) rfl ?_
  refine st (y_move rfl) rfl ?_
  refine st (y_nil rfl) rfl ?_
  refine st (fa53_0 rfl) rfl ?_
  refine st (y_loadb rfl one22 (by assumption) (by rfl)) rfl ?_
  refine st_f (y_ge_u rfl rfl) (by omega) rfl ?_
  refine l_nil ?_
  refine q_then ?_
  refine c_false rfl rfl ?_
  refine c_skip ?_
  refine q_then ?_
  refine c_seq ?_
  refine c_region ?_
  refine st (y_move rfl) rfl ?_
  refine st (y_shr (k := 6) rfl rfl (by first | omega | assumption | (repeat (first | assumption | omega | decide | exact shl_lt64 _ _ | apply and_lt64 | apply or_lt64 | apply xor_lt64 | apply nt_lt | apply shr_lt64 | apply getD_lt64)))) rfl ?_
  refine st (y_assign rfl) rfl ?_
  refine l_nil ?_
  refine q_then ?_
  rw [hdiv]
  refine c_seq ?_
  refine c_region ?_
  refine st (y_move rfl) rfl ?_
  refine sc rfl rfl isfn37 (c_wordsIndex _ (by omega) _) rfl ?_
  rintro _ _ ⟨rfl, rfl⟩
  rw [hmod]
  refine st (y_shl (a := 1) rfl rfl) rfl ?_
  refine st (y_sub_u (b := 1) rfl rfl (by omega) (by omega)) rfl ?_
  obtain ⟨M, hM⟩ : ∃ M, (1 <<< (i % 64)) % 18446744073709551616 - 1 = M := ⟨_, rfl⟩
  have hMl : M < 18446744073709551616 := by omega
  rw [hM]
  refine st (y_compl rfl (by first | omega | assumption | (repeat (first | assumption | omega | decide | exact shl_lt64 _ _ | apply and_lt64 | apply or_lt64 | apply xor_lt64 | apply nt_lt | apply shr_lt64 | apply getD_lt64)))) rfl ?_
  refine st (y_assign rfl) rfl ?_
  refine l_nil ?_
  refine q_then ?_
  rw [show nt M = nt' M from rfl]
  have hNl : nt' M < 18446744073709551616 := nt_lt64 hMl
  have hNNl : nt' (nt' M) < 18446744073709551616 := nt_lt64 hNl
  refine c_seq ?_
  refine c_region ?_
  refine st (y_move rfl) rfl ?_
  refine st (y_nil rfl) rfl ?_
  refine st (fa53_1 rfl) rfl ?_
  refine st (y_loadb rfl one51 (by assumption) (by rfl)) rfl ?_
  refine st (y_move rfl) rfl ?_
  first | refine st (y_index0 rfl rfl Tryd.underlying51 sz55 (by omega)) rfl ?_ | refine st (y_index rfl rfl Tryd.underlying51 sz55 (by omega)) rfl ?_ | refine st (y_indexA rfl rfl Tryd.underlying51 sz55 (by omega)) rfl ?_
  first | refine st (y_loadM (0) rfl one55 (by assumption) (by first | omega | (simp only [List.length_append, List.length_map, List.length_replicate, List.length_set, List.length_take, List.length_drop]; omega) | (simp; done))) rfl ?_ | refine st (y_load rfl one55 (by assumption)) rfl ?_
  rw [hg]
  refine st (y_move rfl) rfl ?_
  refine st (y_and rfl rfl (by first | omega | assumption | (repeat (first | assumption | omega | decide | exact shl_lt64 _ _ | apply and_lt64 | apply or_lt64 | apply xor_lt64 | apply nt_lt | apply shr_lt64 | apply getD_lt64))) (by first | omega | assumption | (repeat (first | assumption | omega | decide | exact shl_lt64 _ _ | apply and_lt64 | apply or_lt64 | apply xor_lt64 | apply nt_lt | apply shr_lt64 | apply getD_lt64)))) rfl ?_
  refine st (y_assign rfl) rfl ?_
  refine l_nil ?_
  refine q_then ?_
  refine c_seq ?_
  refine c_region ?_
  refine st (y_move rfl) rfl ?_
  refine st (y_nil rfl) rfl ?_
  refine st (fa53_1 rfl) rfl ?_
  refine st (y_loadb rfl one51 (by assumption) (by rfl)) rfl ?_
  refine st (y_move rfl) rfl ?_
  first | refine st (y_index0 rfl rfl Tryd.underlying51 sz55 (by omega)) rfl ?_ | refine st (y_index rfl rfl Tryd.underlying51 sz55 (by omega)) rfl ?_ | refine st (y_indexA rfl rfl Tryd.underlying51 sz55 (by omega)) rfl ?_
  first | refine st (y_loadM (0) rfl one55 (by assumption) (by first | omega | (simp only [List.length_append, List.length_map, List.length_replicate, List.length_set, List.length_take, List.length_drop]; omega) | (simp; done))) rfl ?_ | refine st (y_load rfl one55 (by assumption)) rfl ?_
  rw [hg]
  refine st (y_move rfl) rfl ?_
  refine st (y_compl rfl (by first | omega | assumption | (repeat (first | assumption | omega | decide | exact shl_lt64 _ _ | apply and_lt64 | apply or_lt64 | apply xor_lt64 | apply nt_lt | apply shr_lt64 | apply getD_lt64)))) rfl ?_
  rw [show nt (nt' M) = nt' (nt' M) from rfl]
  refine st (y_and rfl rfl (by first | omega | assumption | (repeat (first | assumption | omega | decide | exact shl_lt64 _ _ | apply and_lt64 | apply or_lt64 | apply xor_lt64 | apply nt_lt | apply shr_lt64 | apply getD_lt64))) (by first | omega | assumption | (repeat (first | assumption | omega | decide | exact shl_lt64 _ _ | apply and_lt64 | apply or_lt64 | apply xor_lt64 | apply nt_lt | apply shr_lt64 | apply getD_lt64)))) rfl ?_
  first | refine st (y_index0 rfl rfl Tryd.underlying51 sz55 (by omega)) rfl ?_ | refine st (y_index rfl rfl Tryd.underlying51 sz55 (by omega)) rfl ?_ | refine st (y_indexA rfl rfl Tryd.underlying51 sz55 (by omega)) rfl ?_
  refine st_storeM vU rfl rfl rfl sz55 (by assumption) (by first | omega | (simp only [List.length_append, List.length_map, List.length_replicate, List.length_set, List.length_take, List.length_drop]; omega)) rfl ?_
  intro w1 hw1 hK1 hS1
  have hBW1 := hBW0.store hw1 hK1 (and_lt64 _ hx) hj
  have hst1 := hBW1.st
  have hwd1 := hBW1.wd
  rw [List.length_set] at hst1
  have hj1 : i / 64 < ((pack s).set (i / 64) ((pack s).getD (i / 64) 0 &&& nt' (nt' M))).length := by simpa using hj
  have hg1 := getD_app (tl := tl) hj1
  have e1 : ((pack s).set (i / 64) ((pack s).getD (i / 64) 0 &&& nt' (nt' M))).getD (i / 64) 0 = (pack s).getD (i / 64) 0 &&& nt' (nt' M) := by
    rw [List.getD_eq_getElem?_getD, List.getElem?_set_self hj]; rfl
  rw [e1] at hg1
  clear hst hwd
  have hxs : ((pack s).getD (i / 64) 0 &&& nt' M) >>> 1 < 18446744073709551616 := shr_lt64 _ (and_lt64 _ hx)
  refine l_nil ?_
  refine q_then ?_
  refine c_seq ?_
  refine c_region ?_
  refine st (y_move rfl) rfl ?_
  refine st (y_nil rfl) rfl ?_
  refine st (fa53_1 rfl) rfl ?_
  refine st (y_loadb rfl one51 (by assumption) (by rfl)) rfl ?_
  refine st (y_move rfl) rfl ?_
  first | refine st (y_index0 rfl rfl Tryd.underlying51 sz55 (by omega)) rfl ?_ | refine st (y_index rfl rfl Tryd.underlying51 sz55 (by omega)) rfl ?_ | refine st (y_indexA rfl rfl Tryd.underlying51 sz55 (by omega)) rfl ?_
  first | refine st (y_loadM (0) rfl one55 (by assumption) (by first | omega | (simp only [List.length_append, List.length_map, List.length_replicate, List.length_set, List.length_take, List.length_drop]; omega) | (simp; done))) rfl ?_ | refine st (y_load rfl one55 (by assumption)) rfl ?_
  rw [hg1]
  refine st (y_move rfl) rfl ?_
  refine st (y_shr (k := 1) rfl rfl (by first | omega | assumption | (repeat (first | assumption | omega | decide | exact shl_lt64 _ _ | apply and_lt64 | apply or_lt64 | apply xor_lt64 | apply nt_lt | apply shr_lt64 | apply getD_lt64)))) rfl ?_
  refine st (y_move rfl) rfl ?_
  refine st (y_and rfl rfl (by first | omega | assumption | (repeat (first | assumption | omega | decide | exact shl_lt64 _ _ | apply and_lt64 | apply or_lt64 | apply xor_lt64 | apply nt_lt | apply shr_lt64 | apply getD_lt64))) (by first | omega | assumption | (repeat (first | assumption | omega | decide | exact shl_lt64 _ _ | apply and_lt64 | apply or_lt64 | apply xor_lt64 | apply nt_lt | apply shr_lt64 | apply getD_lt64)))) rfl ?_
  refine st (y_or rfl rfl (by first | omega | assumption | (repeat (first | assumption | omega | decide | exact shl_lt64 _ _ | apply and_lt64 | apply or_lt64 | apply xor_lt64 | apply nt_lt | apply shr_lt64 | apply getD_lt64))) (by first | omega | assumption | (repeat (first | assumption | omega | decide | exact shl_lt64 _ _ | apply and_lt64 | apply or_lt64 | apply xor_lt64 | apply nt_lt | apply shr_lt64 | apply getD_lt64)))) rfl ?_
  first | refine st (y_index0 rfl rfl Tryd.underlying51 sz55 (by omega)) rfl ?_ | refine st (y_index rfl rfl Tryd.underlying51 sz55 (by omega)) rfl ?_ | refine st (y_indexA rfl rfl Tryd.underlying51 sz55 (by omega)) rfl ?_
  refine st_storeM vU rfl rfl rfl sz55 (by assumption) (by first | omega | (simp only [List.length_append, List.length_map, List.length_replicate, List.length_set, List.length_take, List.length_drop]; omega)) rfl ?_
  intro w2 hw2 hK2 hS2
  have hBW2 := hBW1.store hw2 hK2 (or_lt64 (and_lt64 _ hx) (and_lt64 _ hxs)) hj1
  rw [List.set_set] at hBW2
  have hwb2 := fun x => del_word hBW0.lt hj x
  rw [hM] at hwb2
  obtain ⟨ws2, hws2⟩ : ∃ ws, (pack s).set (i / 64) ((pack s).getD (i / 64) 0 &&& nt' (nt' M) ||| ((pack s).getD (i / 64) 0 &&& nt' M) >>> 1 &&& nt' M) = ws := ⟨_, rfl⟩
  have hl2 : ws2.length = nW s.length := by rw [← hws2, List.length_set, hlen]
  rw [hws2] at hBW2 hwb2
  simp only [wbit_pack] at hwb2
  have hK12 := hK1.trans hK2 (fun i hi => .inl hi)
  clear hw1 hw2 hst1 hwd1 hBW1
  refine l_nil ?_
  refine q_then ?_
  refine c_cut (fun _ : Unit => [(0, vP p)]) (fun _ w' => Keep w w' [q] ∧ ∃ ws, BW w' p q s.length ws tl ∧ ws.length = nW s.length ∧ ∀ x, x < 64 * nW s.length → wbit ws x = (delB s i).getD x false) ?_ ?_
  · refine c_seq ?_
    refine c_region ?_
    refine st (y_move rfl) rfl ?_
    refine st (y_conv_ui rfl us22 Tryd.underlying3 (by omega)) rfl ?_
    first | refine st (y_add_in (b := 1) rfl rfl (by omega)) rfl ?_ | refine st (y_add_i (b := 1) rfl rfl (by omega) (by omega)) rfl ?_
    refine st (y_assign rfl) rfl ?_
    refine l_nil ?_
    refine q_then ?_
    refine c_block ?_
    refine c_loop (fun j : Nat => [(0, vP p), (8, vI (j : Nat))]) (fun j w' => i / 64 < j ∧ j ≤ nW s.length ∧ Keep w w' [q] ∧ ∃ ws, BW w' p q s.length ws tl ∧ ws.length = nW s.length ∧ ∀ x, x < 64 * nW s.length → wbit ws x = if x < i then s.getD x false else if x + 1 < 64 * j then s.getD (x + 1) false else if x + 1 = 64 * j then false else s.getD x false) (fun j => nW s.length - j) (i / 64 + 1) ?_ ?_ ?_
    · exact ⟨rfl, rfl, trivial⟩
    · refine ⟨by omega, by omega, hK12, ws2, hBW2, hl2, fun x hx => ?_⟩
      rw [hwb2]
      by_cases h : x / 64 = i / 64
      · rw [if_pos h]
        by_cases h1 : x < i
        · rw [if_pos h1, if_pos h1]
        · rw [if_neg h1, if_neg h1]
          by_cases h2 : x % 64 = 63
          · rw [if_pos h2, if_neg (by omega), if_pos (by omega)]
          · rw [if_neg h2, if_pos (by omega)]
      · rw [if_neg h]
        by_cases h1 : x < i
        · rw [if_pos h1]
        · rw [if_neg h1, if_neg (by omega), if_neg (by omega)]
    · rintro j w3 ⟨hj1, hj2, hK3, ws, hBW3, hwl, hwb⟩
      have hst := hBW3.st
      refine c_seq ?_
      refine c_seq ?_
      refine c_region ?_
      refine st (y_move rfl) rfl ?_
      refine st (y_move rfl) rfl ?_
      refine st (y_nil rfl) rfl ?_
      refine st (fa53_1 rfl) rfl ?_
      refine st (y_loadb rfl one51 (by assumption) (by rfl)) rfl ?_
      refine st (y_len rfl Tryd.underlying51) rfl ?_
      refine st_if (y_lt_i rfl rfl) rfl (fun hlt => ?_) (fun hlt => ?_)
      · have hjw : j < ws.length := by omega
        have hBW3d := hBW3.drew
        have hst := hBW3d.st
        have hwd := hBW3d.wd
        have hgj := getD_app (tl := tl) hjw
        have hgj1 := getD_app (tl := tl) (show j - 1 < ws.length by omega)
        have hxj := getD_lt64 hBW3.lt j
        have hxj1 := getD_lt64 hBW3.lt (j - 1)
        refine l_nil ?_
        refine q_then ?_
        refine c_true rfl rfl ?_
        refine c_skip ?_
        refine q_then ?_
        refine c_seq ?_
        refine c_block ?_
        refine c_seq ?_
        refine c_tail 19 mixed (by kernel_rfl) ?_
        refine ss (y_move rfl) rfl ?_
        refine ss (y_nil rfl) rfl ?_
        refine ss (fa53_1 rfl) rfl ?_
        refine ss (y_loadb rfl one51 (by assumption) (by rfl)) rfl ?_
        refine ss (y_move rfl) rfl ?_
        refine ss (y_sub_i (b := 1) rfl rfl (by omega) (by omega)) rfl ?_
        rw [show ((j : Int) - 1) = ((j - 1 : Nat) : Int) by omega]
        first | refine ss (y_index0 rfl rfl Tryd.underlying51 sz55 (by omega)) rfl ?_ | refine ss (y_index rfl rfl Tryd.underlying51 sz55 (by omega)) rfl ?_ | refine ss (y_indexA rfl rfl Tryd.underlying51 sz55 (by omega)) rfl ?_
        first | refine ss (y_loadM (0) rfl one55 (by assumption) (by first | omega | (simp only [List.length_append, List.length_map, List.length_replicate, List.length_set, List.length_take, List.length_drop]; omega) | (simp; done))) rfl ?_ | refine ss (y_load rfl one55 (by assumption)) rfl ?_
        rw [hgj1]
        refine ss (y_move rfl) rfl ?_
        refine ss (y_nil rfl) rfl ?_
        refine ss (fa53_1 rfl) rfl ?_
        refine ss (y_loadb rfl one51 (by assumption) (by rfl)) rfl ?_
        refine ss (y_move rfl) rfl ?_
        first | refine ss (y_index0 rfl rfl Tryd.underlying51 sz55 (by omega)) rfl ?_ | refine ss (y_index rfl rfl Tryd.underlying51 sz55 (by omega)) rfl ?_ | refine ss (y_indexA rfl rfl Tryd.underlying51 sz55 (by omega)) rfl ?_
        first | refine ss (y_loadM (0) rfl one55 (by assumption) (by first | omega | (simp only [List.length_append, List.length_map, List.length_replicate, List.length_set, List.length_take, List.length_drop]; omega) | (simp; done))) rfl ?_ | refine ss (y_load rfl one55 (by assumption)) rfl ?_
        rw [hgj]
        refine ss (y_and (b := 1) rfl rfl (by first | omega | assumption | (repeat (first | assumption | omega | decide | exact shl_lt64 _ _ | apply and_lt64 | apply or_lt64 | apply xor_lt64 | apply nt_lt | apply shr_lt64 | apply getD_lt64))) (by first | omega | assumption | (repeat (first | assumption | omega | decide | exact shl_lt64 _ _ | apply and_lt64 | apply or_lt64 | apply xor_lt64 | apply nt_lt | apply shr_lt64 | apply getD_lt64)))) rfl ?_
        refine ss (y_shl (k := 63) rfl rfl) rfl ?_
        refine ss (y_or rfl rfl (by first | omega | assumption | (repeat (first | assumption | omega | decide | exact shl_lt64 _ _ | apply and_lt64 | apply or_lt64 | apply xor_lt64 | apply nt_lt | apply shr_lt64 | apply getD_lt64))) (by first | omega | assumption | (repeat (first | assumption | omega | decide | exact shl_lt64 _ _ | apply and_lt64 | apply or_lt64 | apply xor_lt64 | apply nt_lt | apply shr_lt64 | apply getD_lt64)))) rfl ?_
        first | refine ss (y_index0 rfl rfl Tryd.underlying51 sz55 (by omega)) rfl ?_ | refine ss (y_index rfl rfl Tryd.underlying51 sz55 (by omega)) rfl ?_ | refine ss (y_indexA rfl rfl Tryd.underlying51 sz55 (by omega)) rfl ?_
        refine s_nil ?_
        show wpL _ _ _ _ _ _ _ _
        refine st_storeM vU rfl rfl rfl sz55 (by assumption) (by first | omega | (simp only [List.length_append, List.length_map, List.length_replicate, List.length_set, List.length_take, List.length_drop]; omega)) rfl ?_
        intro w4 hw4 hK4 hS4
        have hm1 : ((ws.getD j 0 &&& 1) <<< 63) % 18446744073709551616 < 18446744073709551616 := Nat.mod_lt _ (by decide)
        have hBW4 := hBW3d.store hw4 hK4 (or_lt64 hxj1 hm1) (by omega)
        have hst4 := hBW4.st
        have hwd4 := hBW4.wd
        rw [List.length_set] at hst4
        have hjw4 : j < (ws.set (j - 1) (ws.getD (j - 1) 0 ||| ((ws.getD j 0 &&& 1) <<< 63) % 18446744073709551616)).length := by simpa using hjw
        have hgj4 := getD_app (tl := tl) hjw4
        have e4 : (ws.set (j - 1) (ws.getD (j - 1) 0 ||| ((ws.getD j 0 &&& 1) <<< 63) % 18446744073709551616)).getD j 0 = ws.getD j 0 := by
          rw [List.getD_eq_getElem?_getD, List.getElem?_set_ne (by omega), ← List.getD_eq_getElem?_getD]
        rw [e4] at hgj4
        clear hst hwd
        refine l_nil ?_
        refine q_then ?_
        refine c_region ?_
        refine st (y_move rfl) rfl ?_
        refine st (y_nil rfl) rfl ?_
        refine st (fa53_1 rfl) rfl ?_
        refine st (y_loadb rfl one51 (by assumption) (by rfl)) rfl ?_
        refine st (y_move rfl) rfl ?_
        first | refine st (y_index0 rfl rfl Tryd.underlying51 sz55 (by omega)) rfl ?_ | refine st (y_index rfl rfl Tryd.underlying51 sz55 (by omega)) rfl ?_ | refine st (y_indexA rfl rfl Tryd.underlying51 sz55 (by omega)) rfl ?_
        first | refine st (y_loadM (0) rfl one55 (by assumption) (by first | omega | (simp only [List.length_append, List.length_map, List.length_replicate, List.length_set, List.length_take, List.length_drop]; omega) | (simp; done))) rfl ?_ | refine st (y_load rfl one55 (by assumption)) rfl ?_
        rw [hgj4]
        refine st (y_shr (k := 1) rfl rfl (by first | omega | assumption | (repeat (first | assumption | omega | decide | exact shl_lt64 _ _ | apply and_lt64 | apply or_lt64 | apply xor_lt64 | apply nt_lt | apply shr_lt64 | apply getD_lt64)))) rfl ?_
        first | refine st (y_index0 rfl rfl Tryd.underlying51 sz55 (by omega)) rfl ?_ | refine st (y_index rfl rfl Tryd.underlying51 sz55 (by omega)) rfl ?_ | refine st (y_indexA rfl rfl Tryd.underlying51 sz55 (by omega)) rfl ?_
        refine st_storeM vU rfl rfl rfl sz55 (by assumption) (by first | omega | (simp only [List.length_append, List.length_map, List.length_replicate, List.length_set, List.length_take, List.length_drop]; omega)) rfl ?_
        intro w5 hw5 hK5 hS5
        refine l_nil ?_
        refine q_block ?_
        refine q_then ?_
        refine c_region ?_
        refine st (y_move rfl) rfl ?_
        first | refine st (y_add_in (b := 1) rfl rfl (by omega)) rfl ?_ | refine st (y_add_i (b := 1) rfl rfl (by omega) (by omega)) rfl ?_
        refine st (y_assign rfl) rfl ?_
        refine l_nil ?_
        have hBW5 := hBW4.store hw5 hK5 (shr_lt64 _ hxj) hjw4
        refine q_round (j + 1) ⟨rfl, rfl, trivial⟩ ⟨by omega, by omega, ((hK3.trans (Keep.drew w3 []) (by simp)).trans hK4 (fun i hi => .inl hi)).trans hK5 (fun i hi => .inl hi), _, hBW5, by simpa using hwl, fun x hx => ?_⟩ (by omega)
        rw [down_word hBW3.lt hjw (by omega)]
        by_cases h : x / 64 = j
        · rw [if_pos h, if_neg (show ¬ x < i by omega)]
          by_cases h2 : x % 64 = 63
          · rw [if_pos h2, if_neg (by omega), if_pos (by omega)]
          · rw [if_neg h2, if_pos (by omega), hwb _ (by omega), if_neg (by omega), if_neg (by omega), if_neg (by omega)]
        · rw [if_neg h]
          by_cases h3 : x = 64 * j - 1
          · have h4 : wbit ws (64 * j) = s.getD (64 * j) false := by
              rw [hwb _ (by omega), if_neg (by omega), if_neg (by omega), if_neg (by omega)]
            rw [if_pos h3, h4, hwb _ hx, if_neg (show ¬ x < i by omega), if_neg (by omega), if_pos (by omega), Bool.false_or, if_neg (show ¬ x < i by omega), if_pos (by omega)]
            congr 1; omega
          · rw [if_neg h3, hwb _ hx]
            by_cases h1 : x < i
            · rw [if_pos h1, if_pos h1]
            · rw [if_neg h1, if_neg h1]
              by_cases h5 : x + 1 < 64 * j
              · rw [if_pos h5, if_pos (by omega)]
              · rw [if_neg h5, if_neg (by omega), if_neg (by omega), if_neg (by omega)]
      ·
        have hje : j = nW s.length := by omega
        refine l_nil ?_
        refine q_then ?_
        refine c_false rfl rfl ?_
        refine c_exit ?_
        refine q_then_exit ?_
        refine q_then_exit ?_
        refine q_block_hit ?_
        refine q_meet () ⟨rfl, trivial⟩ ⟨hK3, ws, hBW3, hwl, fun x hx => ?_⟩
        rw [hwb x hx, delB_getD hi]
        by_cases h1 : x < i
        · rw [if_pos h1, if_pos h1]
        · rw [if_neg h1, if_neg h1]
          by_cases h5 : x + 1 < 64 * j
          · rw [if_pos h5]
          · rw [if_neg h5, if_pos (by omega), getD_ge s false (by unfold nW at hje; omega)]
  ·
    rintro _ w3 ⟨hK3, ws, hBW3, hwl, hwb⟩
    have hst := hBW3.st
    have hwd := hBW3.wd
    have hdl := delB_length hi
    refine c_seq ?_
    refine c_region ?_
    refine st (y_move rfl) rfl ?_
    refine st (y_move rfl) rfl ?_
    refine st (y_nil rfl) rfl ?_
    refine st (fa53_0 rfl) rfl ?_
    refine st (y_loadb rfl one22 (by assumption) (by rfl)) rfl ?_
    refine st (y_sub_u (b := 1) rfl rfl (by omega) (by omega)) rfl ?_
    refine st (y_nil rfl) rfl ?_
    refine st (fa53_0 rfl) rfl ?_
    refine st_store rfl rfl rfl sz22 (by assumption) (by first | simp | (simp; omega)) rfl ?_
    intro w4 hst4 hK4 hS4
    have hwd := hwd.keep hK4 (by simp only [List.mem_cons, List.not_mem_nil, or_false, not_or, not_false_eq_true] <;> omega)
    have hBW4 : BW w4 p q (delB s i).length ws tl := ⟨by rw [hdl]; exact hst4, hwd, hBW3.ne, hBW3.lt, hBW3.cap⟩
    clear hst
    have hst := hBW4.st
    have hcap4 := hBW4.cap
    refine l_nil ?_
    refine q_then ?_
    refine c_seq ?_
    refine c_seq ?_
    refine c_region ?_
    refine st (y_move rfl) rfl ?_
    refine sc rfl rfl isfn38 (c_wCount p q _ _ _ _ hBW4 (by omega)) rfl ?_
    rintro _ _ ⟨rfl, rfl⟩
    have hK14 : Keep w w4 [p, q] := (hK3.mono (fun j hj => by simp only [List.mem_singleton] at hj; subst hj; simp)).trans hK4 (fun j hj => by simp only [List.mem_singleton] at hj; subst hj; simp)
    have hnle : nW (delB s i).length ≤ ws.length := by rw [hwl, hdl]; exact nW_le _ _ (by omega)
    refine st (y_assign rfl) rfl ?_
    refine l_nil ?_
    refine q_then ?_
    refine c_seq ?_
    refine c_region ?_
    refine st (y_move rfl) rfl ?_
    refine st (y_move rfl) rfl ?_
    refine st (y_nil rfl) rfl ?_
    refine st (fa53_1 rfl) rfl ?_
    refine st (y_loadb rfl one51 (by assumption) (by rfl)) rfl ?_
    refine st (y_len rfl Tryd.underlying51) rfl ?_
    refine st_if (y_lt_i rfl rfl) rfl (fun hlt => ?_) (fun hlt => ?_)
    · refine l_nil ?_
      refine q_then ?_
      refine c_true rfl rfl ?_
      refine c_region ?_
      refine st (y_move rfl) rfl ?_
      refine st (y_move rfl) rfl ?_
      refine st (y_nil rfl) rfl ?_
      refine st (fa53_1 rfl) rfl ?_
      refine st (y_loadb rfl one51 (by assumption) (by rfl)) rfl ?_
      refine st (y_move rfl) rfl ?_
      refine st (y_slice_h rfl rfl Tryd.underlying51 sz55 (by omega)) rfl ?_
      refine st (y_nil rfl) rfl ?_
      refine st (fa53_1 rfl) rfl ?_
      refine st_store rfl rfl rfl sz51 (by assumption) (by first | simp | (simp; omega)) rfl ?_
      intro w5 hst5 hK5 hS5
      have hwd := hwd.keep hK5 (by simp only [List.mem_cons, List.not_mem_nil, or_false, not_or, not_false_eq_true] <;> omega)
      refine l_nil ?_
      refine q_then ?_
      refine c_seq ?_
      refine c_region ?_
      refine st (y_move rfl) rfl ?_
      refine st (y_assign rfl) rfl ?_
      refine l_nil ?_
      refine q_then ?_
      refine c_ret ?_
      refine q_end1 (.inl rfl) rfl rfl ?_
      have hBW5 : BW w5 p q (delB s i).length (ws.take (nW (delB s i).length)) (ws.drop (nW (delB s i).length) ++ tl) := BW.cut hst5 hwd hBW3.ne hBW3.lt hBW3.cap hnle
      refine ⟨_, rfl, rfl, hBW5.bset (by simp; omega) fun x hx => ?_, hK14.trans hK5 (fun j hj => by simp only [List.mem_singleton] at hj; subst hj; simp)⟩
      have hx2 : x < 64 * nW (delB s i).length := by simpa [Nat.min_eq_left hnle] using hx
      rw [wbit_take, hwb x (by omega)]
      simp [hx2]
    ·
      refine l_nil ?_
      refine q_then ?_
      refine c_false rfl rfl ?_
      refine c_skip ?_
      refine q_then ?_
      refine c_seq ?_
      refine c_region ?_
      refine st (y_move rfl) rfl ?_
      refine st (y_assign rfl) rfl ?_
      refine l_nil ?_
      refine q_then ?_
      refine c_ret ?_
      refine q_end1 (.inl rfl) rfl rfl ?_
      exact ⟨_, rfl, rfl, hBW4.bset (by omega) fun x hx => hwb x (by omega), hK14⟩

end Go.Proofs.YtmlamceblhhhpaaDoor

/- ShiftRight, and the thin package's Shift, each by its contract. -/
import Derived.Test.YtbahhdeblppooaaDoorM3
import Derived.Test.YtbahhdeblppooaaDoorT2
set_option linter.unusedVariables false
set_option linter.unusedSimpArgs false
set_option maxRecDepth 100000
set_option maxHeartbeats 2000000
namespace Go.Proofs.YtbahhdeblppooaaDoor
open Go Go.RowKit

theorem over_part2 (xs ys : List Nat) (o m : Nat) (h1 : o + m ≤ xs.length) (h2 : m ≤ ys.length) : over (ys.map vU) 0 (((xs.map vU).drop o).take m) = ((xs.drop o).take m ++ ys.drop m).map vU := by
  unfold over
  rw [List.take_zero, List.nil_append, List.length_take, List.length_drop, List.length_map, Nat.min_eq_left (by omega), Nat.zero_add, ← List.map_drop, ← List.map_take, ← List.map_drop, ← List.map_append]
theorem part2_getD (xs ys : List Nat) (o m j : Nat) (h1 : o + m ≤ xs.length) : ((xs.drop o).take m ++ ys.drop m).getD j 0 = if j < m then xs.getD (o + j) 0 else ys.getD j 0 := by
  simp only [List.getD_eq_getElem?_getD]
  by_cases h : j < m
  · rw [if_pos h, List.getElem?_append_left (by simp; omega), List.getElem?_take_of_lt h, List.getElem?_drop]
  · rw [if_neg h, List.getElem?_append_right (by simp; omega), List.getElem?_drop]
    simp only [List.length_take, List.length_drop]
    rw [Nat.min_eq_left (by omega), show m + (j - m) = j by omega]
theorem or_zero_shl (y k : Nat) : y ||| (0 <<< k) % 18446744073709551616 = y := by simp

theorem c_ShiftRight (p q : Nat) (s : List Bool) (n : Nat) (w : World) (hB : BSet w p q s) (hs : s.length ≤ 10000) (hn : n ≤ 6000) :
    Cal Tryd.prog 36 [vP p, vU n] w fun v w' => v = vT [] ∧ ∃ t, BSet w' p q t ∧ nums t = nums (shrS s n) ∧ t.length = s.length ∧ Keep w w' [p, q] := by
  have hlts := hB.lts
  have hlen := pack_length s
  have hnn : nW s.length ≤ 200 := by unfold nW; omega
  refine go_in' Tryd.func36 rfl Tryd.ntmps36 (Nat.le_of_ble_eq_true rfl) ?_
  refine c_seq ?_
  refine c_region ?_
  refine st (y_move rfl) rfl ?_
  refine sc rfl rfl isfn45 (c_panicIfNull p _) rfl ?_
  rintro _ _ ⟨rfl, rfl⟩
  refine l_nil ?_
  refine q_then ?_
  refine c_seq ?_
  refine c_seq ?_
  refine c_region ?_
  refine st (y_move rfl) rfl ?_
  refine st_if (y_eq_u (b := 0) rfl rfl) rfl (fun hn0 => ?_) (fun hn0 => ?_)
  · refine l_nil ?_
    refine q_then ?_
    refine c_true rfl rfl ?_
    refine c_ret ?_
    refine q_then_ret ?_
    refine q_end0 (.inl rfl) rfl ?_
    exact ⟨_, rfl, rfl, s, hB, by rw [hn0]; exact nums_congr fun i => by rw [shrS_getD, Nat.add_zero], rfl, Keep.refl _ _⟩
  ·
    refine l_nil ?_
    refine q_then ?_
    refine c_false rfl rfl ?_
    refine c_skip ?_
    refine q_then ?_
    refine c_seq ?_
    refine c_region ?_
    refine st (y_move rfl) rfl ?_
    refine sc rfl rfl isfn46 (c_top p q s _ hB (by omega)) rfl ?_
    rintro v1 w1 ⟨rfl, ⟨x, rfl, hx⟩ | ⟨rfl, hno⟩⟩
    · have hxl := hx.lt
      have hul := shrS_length s n
      have hub := fun y => shrS_getD s n y
      refine st (y_move rfl) rfl ?_
      refine st (y_extract rfl rfl) rfl ?_
      refine st (y_extract rfl rfl) rfl ?_
      refine st (y_assign rfl) rfl ?_
      refine st (y_assign rfl) rfl ?_
      refine l_nil ?_
      refine q_then ?_
      refine c_seq ?_
      refine c_seq ?_
      refine c_region ?_
      refine st (y_move rfl) rfl ?_
      refine st (y_not rfl) rfl ?_
      refine l_nil ?_
      refine q_then ?_
      refine c_false rfl rfl ?_
      refine c_skip ?_
      refine q_then ?_
      refine c_seq ?_
      refine c_seq ?_
      refine c_region ?_
      refine st (y_move rfl) rfl ?_
      refine st (y_move rfl) rfl ?_
      refine st_if (y_gt_u rfl rfl) rfl (fun hgt => ?_) (fun hgt => ?_)
      · refine l_nil ?_
        refine q_then ?_
        refine c_true rfl rfl ?_
        refine c_seq ?_
        refine c_region ?_
        refine st (y_move rfl) rfl ?_
        refine sc rfl rfl isfn48 (c_ClearAll p q s _ hB (by omega)) rfl ?_
        rintro _ w2 ⟨rfl, hB2, hK2⟩
        refine l_nil ?_
        refine q_then ?_
        refine c_ret ?_
        refine q_then_ret ?_
        refine q_end0 (.inl rfl) rfl ?_
        exact ⟨_, rfl, rfl, _, hB2, nums_congr fun i => by rw [replicate_getD, hub, hx.2 _ (by omega)], by simp, hK2⟩
      ·
        obtain ⟨tl, hBW⟩ := hB
        have hcap := hBW.cap
        have hxi : x / 64 < (pack s).length := by rw [hlen]; unfold nW; omega
        have hdx := shr6 x
        have hdn := shr6 n
        have hb1 := bit64 x
        have hb2 := bit64 n
        have hpi : n / 64 ≤ x / 64 := by omega
        have hw0 : ∀ j, x / 64 < j → wordAt s j = 0 := fun j hj => word_none fun y hy => hx.2 y (by omega)
        have hu0 : ∀ j, x < 64 * j + n → wordAt (shrS s n) j = 0 := fun j hj => word_none fun y hy => by rw [hub, hx.2 _ (by omega)]
        refine l_nil ?_
        refine q_then ?_
        refine c_false rfl rfl ?_
        refine c_skip ?_
        refine q_then ?_
        refine c_seq ?_
        refine c_region ?_
        refine st (y_move rfl) rfl ?_
        refine st (y_rem_u (b := 64) rfl rfl (by omega)) rfl ?_
        refine st (y_move rfl) rfl ?_
        refine st (y_shr (k := 6) rfl rfl (by first | omega | assumption | (repeat (first | assumption | omega | decide | exact shl_lt64 _ _ | apply and_lt64 | apply or_lt64 | apply xor_lt64 | apply nt_lt | apply shr_lt64 | apply getD_lt64)))) rfl ?_
        refine st (y_assign rfl) rfl ?_
        refine st (y_assign rfl) rfl ?_
        refine l_nil ?_
        refine q_then ?_
        rw [hdx]
        refine c_seq ?_
        refine c_region ?_
        refine st (y_move rfl) rfl ?_
        refine st (y_rem_u (b := 64) rfl rfl (by omega)) rfl ?_
        refine st (y_move rfl) rfl ?_
        refine st (y_shr (k := 6) rfl rfl (by first | omega | assumption | (repeat (first | assumption | omega | decide | exact shl_lt64 _ _ | apply and_lt64 | apply or_lt64 | apply xor_lt64 | apply nt_lt | apply shr_lt64 | apply getD_lt64)))) rfl ?_
        refine st (y_assign rfl) rfl ?_
        refine st (y_assign rfl) rfl ?_
        refine l_nil ?_
        refine q_then ?_
        rw [hdn]
        refine c_cut (fun _ : Unit => [(0, vP p), (7, vU (x / 64)), (9, vU (n / 64))]) (fun _ w' => ∃ W, BW w' p q s.length W tl ∧ W.length = (pack s).length ∧ (∀ j, j < x / 64 - n / 64 + 1 → W.getD j 0 = wordAt (shrS s n) j) ∧ Keep w w' [q]) ?_ ?_
        · refine c_seq ?_
          refine c_region ?_
          refine st (y_move rfl) rfl ?_
          refine st (y_rem_u (b := 64) rfl rfl (by omega)) rfl ?_
          refine st_if (y_eq_u (b := 0) rfl rfl) rfl (fun hm0 => ?_) (fun hm0 => ?_)
          · have hst := hBW.st.drew
            have hwd := hBW.wd.drew
            refine l_nil ?_
            refine q_then ?_
            refine c_true rfl rfl ?_
            refine c_tail 12 mixed (by kernel_rfl) ?_
            refine ss (y_move rfl) rfl ?_
            refine ss (y_nil rfl) rfl ?_
            refine ss (fa66_1 rfl) rfl ?_
            refine ss (y_loadb rfl one64 (by assumption) (by rfl)) rfl ?_
            refine ss (y_move rfl) rfl ?_
            refine ss (y_nil rfl) rfl ?_
            refine ss (fa66_1 rfl) rfl ?_
            refine ss (y_loadb rfl one64 (by assumption) (by rfl)) rfl ?_
            refine ss (y_move rfl) rfl ?_
            refine ss (y_move rfl) rfl ?_
            refine ss (y_add_u (b := 1) rfl rfl (by omega)) rfl ?_
            refine ss (y_slice_lhn rfl rfl rfl Tryd.underlying64 sz67 (by omega) (by omega) (by omega)) rfl ?_
            refine s_nil ?_
            show wpL _ _ _ _ _ _ _ _
            refine st_copy rfl rfl Tryd.underlying64 sz67 hwd hwd (by simp; omega) (by simp; omega) (fun v hv => by obtain ⟨y, _, rfl⟩ := List.mem_map.1 hv; rfl) rfl ?_
            intro w5 hwd5 hK5 hS5
            refine l_nil ?_
            have hmin : min (x / 64 + 1 - n / 64) (pack s).length = x / 64 - n / 64 + 1 := by omega
            rw [hmin, Nat.zero_add, over_part2 (pack s ++ tl) (pack s ++ tl) (n / 64) (x / 64 - n / 64 + 1) (by simp; omega) (by simp; omega)] at hwd5
            have hWg := fun j => part2_getD (pack s ++ tl) (pack s) (n / 64) (x / 64 - n / 64 + 1) j (by simp; omega)
            have e5 : ((pack s ++ tl).drop (n / 64)).take (x / 64 - n / 64 + 1) ++ (pack s ++ tl).drop (x / 64 - n / 64 + 1) = (((pack s ++ tl).drop (n / 64)).take (x / 64 - n / 64 + 1) ++ (pack s).drop (x / 64 - n / 64 + 1)) ++ tl := by
              rw [List.drop_append_of_le_length (show x / 64 - n / 64 + 1 ≤ (pack s).length by omega), List.append_assoc]
            rw [e5] at hwd5
            obtain ⟨W, hW⟩ : ∃ W, ((pack s ++ tl).drop (n / 64)).take (x / 64 - n / 64 + 1) ++ (pack s).drop (x / 64 - n / 64 + 1) = W := ⟨_, rfl⟩
            rw [hW] at hwd5 hWg
            have hWl : W.length = (pack s).length := by rw [← hW]; simp; omega
            have hWj : ∀ j, j < x / 64 - n / 64 + 1 → W.getD j 0 = wordAt (shrS s n) j := fun j hj => by
              rw [hWg, if_pos hj, getD_app (by omega), pack_getD, shr_wordp s n j hm0, Nat.add_comm]
            have hWlt : ∀ y ∈ W, y < 18446744073709551616 := by
              intro y hy
              obtain ⟨j, hj, rfl⟩ := List.mem_iff_getElem.1 hy
              have e : W[j] = W.getD j 0 := by simp [List.getD_eq_getElem?_getD, hj]
              rw [e, hWg]
              split
              · rw [getD_app (by omega)]; exact pack_getD_lt s _
              · exact pack_getD_lt s _
            refine q_meet () ⟨rfl, rfl, rfl, trivial⟩ ⟨W, ⟨?_, hwd5, hBW.ne, hWlt, by rw [hWl]; exact hcap⟩, hWl, hWj, (Keep.drew w [q]).trans hK5 (fun i hi => .inl hi)⟩
            rw [hWl]
            exact hst.keep hK5 (by simpa using hBW.ne)
          ·
            refine l_nil ?_
            refine q_then ?_
            refine c_false rfl rfl ?_
            refine c_cut (fun _ : Unit => [(0, vP p), (6, vU (x % 64)), (7, vU (x / 64)), (8, vU (n % 64)), (9, vU (n / 64))]) (fun _ w' => ∃ W, BW w' p q s.length W tl ∧ W.length = (pack s).length ∧ (∀ j, j < x / 64 - n / 64 + 1 → W.getD j 0 = wordAt (shrS s n) j) ∧ Keep w w' [q]) ?_ ?_
            · refine c_seq ?_
              refine c_region ?_
              refine st (y_assign (v := vI ((0 : Nat) : Int)) rfl) rfl ?_
              refine l_nil ?_
              refine q_then ?_
              refine c_block ?_
              refine c_loop (fun a : Nat × List Nat => [(0, vP p), (6, vU (x % 64)), (7, vU (x / 64)), (8, vU (n % 64)), (9, vU (n / 64)), (10, vI (a.1 : Nat))]) (fun a w' => a.1 ≤ x / 64 - n / 64 + 1 ∧ BW w' p q s.length a.2 tl ∧ a.2.length = (pack s).length ∧ (∀ j, a.2.getD j 0 = if j < a.1 then wordAt (shrS s n) j else wordAt s j) ∧ Keep w w' [q]) (fun a => x / 64 - n / 64 + 1 - a.1) (0, pack s) ?_ ?_ ?_
              · exact ⟨rfl, rfl, rfl, rfl, rfl, rfl, trivial⟩
              · exact ⟨Nat.zero_le _, hBW, rfl, fun j => by rw [pack_getD]; rfl, Keep.refl _ _⟩
              · rintro ⟨k, W⟩ w3 ⟨hk, hBW3, hWl, hWj, hK3⟩
                simp only at hk hBW3 hWl hWj hK3 ⊢
                have fin : ∀ x8 : Nat, k < W.length → x8 = wordAt (shrS s n) k → ∀ j, (W.set k x8).getD j 0 = if j < k + 1 then wordAt (shrS s n) j else wordAt s j := by
                  intro x8 hkl e j
                  rw [set_getD_nat _ _ _ _ hkl, hWj]
                  by_cases h1 : j = k
                  · rw [if_pos h1, if_pos (by omega), e, h1]
                  · rw [if_neg h1]
                    by_cases h2 : j < k
                    · rw [if_pos h2, if_pos (by omega)]
                    · rw [if_neg h2, if_neg (by omega)]
                refine c_seq ?_
                refine c_seq ?_
                refine c_region ?_
                refine st (y_move rfl) rfl ?_
                refine st (y_move rfl) rfl ?_
                refine st (y_move rfl) rfl ?_
                refine st (y_sub_u rfl rfl (by omega) (by omega)) rfl ?_
                refine st (y_conv_ui rfl us22 Tryd.underlying3 (by omega)) rfl ?_
                refine st_if (y_le_i rfl rfl) rfl (fun hle => ?_) (fun hle => ?_)
                · have hsw := wordAt_lt s (k + n / 64)
                  have hsw1 := wordAt_lt s (k + n / 64 + 1)
                  have htw := shr_word s n k hm0
                  have hBWd := hBW3.drew
                  have hKd := hK3.trans (Keep.drew w3 []) (by simp)
                  refine l_nil ?_
                  refine q_then ?_
                  refine c_true rfl rfl ?_
                  refine c_skip ?_
                  refine q_then ?_
                  refine c_seq ?_
                  refine c_block ?_
                  refine c_seq ?_
                  refine c_region ?_
                  refine st (y_move rfl) rfl ?_
                  refine st (y_move rfl) rfl ?_
                  refine st (y_move rfl) rfl ?_
                  refine st (y_sub_u rfl rfl (by omega) (by omega)) rfl ?_
                  refine st (y_conv_ui rfl us22 Tryd.underlying3 (by omega)) rfl ?_
                  refine st_if (y_lt_i rfl rfl) rfl (fun hlt => ?_) (fun hlt => ?_)
                  · have hg1 : (W ++ tl).getD (k + n / 64) 0 = wordAt s (k + n / 64) := by rw [getD_app (by omega), hWj, if_neg (by omega)]
                    have hg2 : (W ++ tl).getD (k + n / 64 + 1) 0 = wordAt s (k + n / 64 + 1) := by rw [getD_app (by omega), hWj, if_neg (by omega)]
                    have hst := hBWd.st
                    have hwd := hBWd.wd
                    refine l_nil ?_
                    refine q_then ?_
                    refine c_true rfl rfl ?_
                    refine c_tail 33 mixed (by kernel_rfl) ?_
                    refine ss (y_move rfl) rfl ?_
                    refine ss (y_nil rfl) rfl ?_
                    refine ss (fa66_1 rfl) rfl ?_
                    refine ss (y_loadb rfl one64 (by assumption) (by rfl)) rfl ?_
                    refine ss (y_move rfl) rfl ?_
                    refine ss (y_move rfl) rfl ?_
                    refine ss (y_nil rfl) rfl ?_
                    refine ss (fa66_1 rfl) rfl ?_
                    refine ss (y_loadb rfl one64 (by assumption) (by rfl)) rfl ?_
                    refine ss (y_move rfl) rfl ?_
                    refine ss (y_move rfl) rfl ?_
                    refine ss (y_conv_ui rfl us22 Tryd.underlying3 (by omega)) rfl ?_
                    first | refine ss (y_add_in rfl rfl (by omega)) rfl ?_ | refine ss (y_add_i rfl rfl (by omega) (by omega)) rfl ?_
                    first | refine ss (y_index0 rfl rfl Tryd.underlying64 sz67 (by omega)) rfl ?_ | refine ss (y_index rfl rfl Tryd.underlying64 sz67 (by omega)) rfl ?_ | refine ss (y_indexA rfl rfl Tryd.underlying64 sz67 (by omega)) rfl ?_
                    first | refine ss (y_loadM (0) rfl one67 (by assumption) (by first | omega | (simp only [List.length_append, List.length_map, List.length_replicate, List.length_set, List.length_take, List.length_drop]; omega) | (simp; done))) rfl ?_ | refine ss (y_load rfl one67 (by assumption)) rfl ?_
                    rw [hg1]
                    refine ss (y_move rfl) rfl ?_
                    refine ss (y_shr rfl rfl (by first | omega | assumption | (repeat (first | assumption | omega | decide | exact shl_lt64 _ _ | apply and_lt64 | apply or_lt64 | apply xor_lt64 | apply nt_lt | apply shr_lt64 | apply getD_lt64)))) rfl ?_
                    refine ss (y_move rfl) rfl ?_
                    refine ss (y_nil rfl) rfl ?_
                    refine ss (fa66_1 rfl) rfl ?_
                    refine ss (y_loadb rfl one64 (by assumption) (by rfl)) rfl ?_
                    refine ss (y_move rfl) rfl ?_
                    refine ss (y_move rfl) rfl ?_
                    refine ss (y_conv_ui rfl us22 Tryd.underlying3 (by omega)) rfl ?_
                    first | refine ss (y_add_in rfl rfl (by omega)) rfl ?_ | refine ss (y_add_i rfl rfl (by omega) (by omega)) rfl ?_
                    first | refine ss (y_add_in (b := 1) rfl rfl (by omega)) rfl ?_ | refine ss (y_add_i (b := 1) rfl rfl (by omega) (by omega)) rfl ?_
                    first | refine ss (y_index0 rfl rfl Tryd.underlying64 sz67 (by omega)) rfl ?_ | refine ss (y_index rfl rfl Tryd.underlying64 sz67 (by omega)) rfl ?_ | refine ss (y_indexA rfl rfl Tryd.underlying64 sz67 (by omega)) rfl ?_
                    first | refine ss (y_loadM (0) rfl one67 (by assumption) (by first | omega | (simp only [List.length_append, List.length_map, List.length_replicate, List.length_set, List.length_take, List.length_drop]; omega) | (simp; done))) rfl ?_ | refine ss (y_load rfl one67 (by assumption)) rfl ?_
                    rw [hg2]
                    refine ss (y_move rfl) rfl ?_
                    refine ss (y_sub_u (a := 64) rfl rfl (by omega) (by omega)) rfl ?_
                    refine ss (y_shl rfl rfl) rfl ?_
                    refine ss (y_or rfl rfl (by first | omega | assumption | (repeat (first | assumption | omega | decide | exact shl_lt64 _ _ | apply and_lt64 | apply or_lt64 | apply xor_lt64 | apply nt_lt | apply shr_lt64 | apply getD_lt64))) (by first | omega | assumption | (repeat (first | assumption | omega | decide | exact shl_lt64 _ _ | apply and_lt64 | apply or_lt64 | apply xor_lt64 | apply nt_lt | apply shr_lt64 | apply getD_lt64)))) rfl ?_
                    first | refine ss (y_index0 rfl rfl Tryd.underlying64 sz67 (by omega)) rfl ?_ | refine ss (y_index rfl rfl Tryd.underlying64 sz67 (by omega)) rfl ?_ | refine ss (y_indexA rfl rfl Tryd.underlying64 sz67 (by omega)) rfl ?_
                    refine s_nil ?_
                    show wpL _ _ _ _ _ _ _ _
                    refine st_storeM vU rfl rfl rfl sz67 (by assumption) (by first | omega | (simp only [List.length_append, List.length_map, List.length_replicate, List.length_set, List.length_take, List.length_drop]; omega)) rfl ?_
                    intro w4 hw4 hK4 hS4
                    refine l_nil ?_
                    refine q_block ?_
                    refine q_then ?_
                    refine c_region ?_
                    refine st (y_move rfl) rfl ?_
                    first | refine st (y_add_in (b := 1) rfl rfl (by omega)) rfl ?_ | refine st (y_add_i (b := 1) rfl rfl (by omega) (by omega)) rfl ?_
                    refine st (y_assign rfl) rfl ?_
                    refine l_nil ?_
                    have hBW4 := hBWd.store hw4 hK4 (or_lt64 (shr_lt64 _ hsw) (Nat.mod_lt _ (by decide))) (by omega)
                    exact q_round (k + 1, _) ⟨rfl, rfl, rfl, rfl, rfl, rfl, trivial⟩ ⟨by simp only; omega, hBW4, by simpa using hWl, fin _ (by omega) htw.symm, hKd.trans hK4 (fun i hi => .inl hi)⟩ (by simp only; omega)
                  ·
                    have hkx : k + n / 64 = x / 64 := by omega
                    have hg1 : (W ++ tl).getD (k + n / 64) 0 = wordAt s (k + n / 64) := by rw [getD_app (by omega), hWj, if_neg (by omega)]
                    rw [hw0 (k + n / 64 + 1) (by omega), or_zero_shl] at htw
                    have hst := hBWd.st
                    have hwd := hBWd.wd
                    refine l_nil ?_
                    refine q_then ?_
                    refine c_false rfl rfl ?_
                    refine c_tail 18 mixed (by kernel_rfl) ?_
                    refine ss (y_move rfl) rfl ?_
                    refine ss (y_nil rfl) rfl ?_
                    refine ss (fa66_1 rfl) rfl ?_
                    refine ss (y_loadb rfl one64 (by assumption) (by rfl)) rfl ?_
                    refine ss (y_move rfl) rfl ?_
                    refine ss (y_move rfl) rfl ?_
                    refine ss (y_nil rfl) rfl ?_
                    refine ss (fa66_1 rfl) rfl ?_
                    refine ss (y_loadb rfl one64 (by assumption) (by rfl)) rfl ?_
                    refine ss (y_move rfl) rfl ?_
                    refine ss (y_move rfl) rfl ?_
                    refine ss (y_conv_ui rfl us22 Tryd.underlying3 (by omega)) rfl ?_
                    first | refine ss (y_add_in rfl rfl (by omega)) rfl ?_ | refine ss (y_add_i rfl rfl (by omega) (by omega)) rfl ?_
                    first | refine ss (y_index0 rfl rfl Tryd.underlying64 sz67 (by omega)) rfl ?_ | refine ss (y_index rfl rfl Tryd.underlying64 sz67 (by omega)) rfl ?_ | refine ss (y_indexA rfl rfl Tryd.underlying64 sz67 (by omega)) rfl ?_
                    first | refine ss (y_loadM (0) rfl one67 (by assumption) (by first | omega | (simp only [List.length_append, List.length_map, List.length_replicate, List.length_set, List.length_take, List.length_drop]; omega) | (simp; done))) rfl ?_ | refine ss (y_load rfl one67 (by assumption)) rfl ?_
                    rw [hg1]
                    refine ss (y_move rfl) rfl ?_
                    refine ss (y_shr rfl rfl (by first | omega | assumption | (repeat (first | assumption | omega | decide | exact shl_lt64 _ _ | apply and_lt64 | apply or_lt64 | apply xor_lt64 | apply nt_lt | apply shr_lt64 | apply getD_lt64)))) rfl ?_
                    first | refine ss (y_index0 rfl rfl Tryd.underlying64 sz67 (by omega)) rfl ?_ | refine ss (y_index rfl rfl Tryd.underlying64 sz67 (by omega)) rfl ?_ | refine ss (y_indexA rfl rfl Tryd.underlying64 sz67 (by omega)) rfl ?_
                    refine s_nil ?_
                    show wpL _ _ _ _ _ _ _ _
                    refine st_storeM vU rfl rfl rfl sz67 (by assumption) (by first | omega | (simp only [List.length_append, List.length_map, List.length_replicate, List.length_set, List.length_take, List.length_drop]; omega)) rfl ?_
                    intro w4 hw4 hK4 hS4
                    refine l_nil ?_
                    refine q_block ?_
                    refine q_then ?_
                    refine c_region ?_
                    refine st (y_move rfl) rfl ?_
                    first | refine st (y_add_in (b := 1) rfl rfl (by omega)) rfl ?_ | refine st (y_add_i (b := 1) rfl rfl (by omega) (by omega)) rfl ?_
                    refine st (y_assign rfl) rfl ?_
                    refine l_nil ?_
                    have hBW4 := hBWd.store hw4 hK4 (shr_lt64 _ hsw) (by omega)
                    exact q_round (k + 1, _) ⟨rfl, rfl, rfl, rfl, rfl, rfl, trivial⟩ ⟨by simp only; omega, hBW4, by simpa using hWl, fin _ (by omega) htw.symm, hKd.trans hK4 (fun i hi => .inl hi)⟩ (by simp only; omega)
                ·
                  refine l_nil ?_
                  refine q_then ?_
                  refine c_false rfl rfl ?_
                  refine c_exit ?_
                  refine q_then_exit ?_
                  refine q_then_exit ?_
                  refine q_block_hit ?_
                  exact q_meet () ⟨rfl, rfl, rfl, rfl, rfl, trivial⟩ ⟨W, hBW3, hWl, fun j hj => by rw [hWj, if_pos (by omega)], hK3⟩
            ·
              rintro _ w3 ⟨W, hBW3, hWl, hWj, hK3⟩
              have hst := hBW3.st
              have hwd := hBW3.wd
              refine c_seq ?_
              refine c_region ?_
              refine st (y_move rfl) rfl ?_
              refine st (y_move rfl) rfl ?_
              refine st_if (y_lt_u rfl rfl) rfl (fun hps => ?_) (fun hps => ?_)
              · refine l_nil ?_
                refine q_then ?_
                refine c_true rfl rfl ?_
                refine c_region ?_
                refine st (y_move rfl) rfl ?_
                refine st (y_nil rfl) rfl ?_
                refine st (fa66_1 rfl) rfl ?_
                refine st (y_loadb rfl one64 (by assumption) (by rfl)) rfl ?_
                refine st (y_move rfl) rfl ?_
                refine st (y_move rfl) rfl ?_
                refine st (y_sub_u rfl rfl (by omega) (by omega)) rfl ?_
                refine st (y_conv_ui rfl us22 Tryd.underlying3 (by omega)) rfl ?_
                first | refine st (y_index0 rfl rfl Tryd.underlying64 sz67 (by omega)) rfl ?_ | refine st (y_index rfl rfl Tryd.underlying64 sz67 (by omega)) rfl ?_ | refine st (y_indexA rfl rfl Tryd.underlying64 sz67 (by omega)) rfl ?_
                refine st_storeM vU rfl rfl rfl sz67 (by assumption) (by first | omega | (simp only [List.length_append, List.length_map, List.length_replicate, List.length_set, List.length_take, List.length_drop]; omega)) rfl ?_
                intro w4 hw4 hK4 hS4
                refine l_nil ?_
                have hBW4 := hBW3.store hw4 hK4 (by decide) (by omega)
                refine q_meet () ⟨rfl, rfl, rfl, trivial⟩ ⟨_, hBW4, by simpa using hWl, fun j hj => ?_, hK3.trans hK4 (fun i hi => .inl hi)⟩
                rw [set_getD_nat _ _ _ _ (by omega)]
                by_cases h1 : j = x / 64 - n / 64
                · rw [if_pos h1, hu0 j (by omega)]
                · rw [if_neg h1]; exact hWj j hj
              ·
                refine l_nil ?_
                refine q_then ?_
                refine c_false rfl rfl ?_
                refine c_skip ?_
                exact q_meet () ⟨rfl, rfl, rfl, trivial⟩ ⟨W, hBW3, hWl, hWj, hK3⟩
        ·
          rintro _ w3 ⟨W3, hBW3, hW3l, hW3, hK3⟩
          refine c_seq ?_
          refine c_region ?_
          refine st (y_move rfl) rfl ?_
          refine st (y_move rfl) rfl ?_
          refine st (y_sub_u rfl rfl (by omega) (by omega)) rfl ?_
          refine st (y_conv_ui rfl us22 Tryd.underlying3 (by omega)) rfl ?_
          first | refine st (y_add_in (b := 1) rfl rfl (by omega)) rfl ?_ | refine st (y_add_i (b := 1) rfl rfl (by omega) (by omega)) rfl ?_
          refine st (y_assign rfl) rfl ?_
          refine l_nil ?_
          refine q_then ?_
          refine c_block ?_
          refine c_loop (fun a : Nat × List Nat => [(0, vP p), (11, vI (a.1 : Nat))]) (fun a w' => x / 64 - n / 64 + 1 ≤ a.1 ∧ a.1 ≤ (pack s).length ∧ BW w' p q s.length a.2 tl ∧ a.2.length = (pack s).length ∧ (∀ j, j < a.1 → a.2.getD j 0 = wordAt (shrS s n) j) ∧ Keep w w' [q]) (fun a => (pack s).length - a.1) (x / 64 - n / 64 + 1, W3) ?_ ?_ ?_
          · exact ⟨rfl, rfl, trivial⟩
          · exact ⟨Nat.le_refl _, by simp only; omega, hBW3, hW3l, hW3, hK3⟩
          · rintro ⟨k, W⟩ w4 ⟨hk1, hk2, hBW4, hWl, hWj, hK4⟩
            simp only at hk1 hk2 hBW4 hWl hWj hK4 ⊢
            have hst := hBW4.st
            have hwd := hBW4.wd
            refine c_seq ?_
            refine c_seq ?_
            refine c_region ?_
            refine st (y_move rfl) rfl ?_
            refine st (y_move rfl) rfl ?_
            refine st (y_nil rfl) rfl ?_
            refine st (fa66_1 rfl) rfl ?_
            refine st (y_loadb rfl one64 (by assumption) (by rfl)) rfl ?_
            refine st (y_len rfl Tryd.underlying64) rfl ?_
            refine st_if (y_lt_i rfl rfl) rfl (fun hlt => ?_) (fun hlt => ?_)
            · refine l_nil ?_
              refine q_then ?_
              refine c_true rfl rfl ?_
              refine c_skip ?_
              refine q_then ?_
              refine c_seq ?_
              refine c_block ?_
              refine c_region ?_
              refine st (y_move rfl) rfl ?_
              refine st (y_nil rfl) rfl ?_
              refine st (fa66_1 rfl) rfl ?_
              refine st (y_loadb rfl one64 (by assumption) (by rfl)) rfl ?_
              refine st (y_move rfl) rfl ?_
              first | refine st (y_index0 rfl rfl Tryd.underlying64 sz67 (by omega)) rfl ?_ | refine st (y_index rfl rfl Tryd.underlying64 sz67 (by omega)) rfl ?_ | refine st (y_indexA rfl rfl Tryd.underlying64 sz67 (by omega)) rfl ?_
              refine st_storeM vU rfl rfl rfl sz67 (by assumption) (by first | omega | (simp only [List.length_append, List.length_map, List.length_replicate, List.length_set, List.length_take, List.length_drop]; omega)) rfl ?_
              intro w5 hw5 hK5 hS5
              refine l_nil ?_
              refine q_block ?_
              refine q_then ?_
              refine c_region ?_
              refine st (y_move rfl) rfl ?_
              first | refine st (y_add_in (b := 1) rfl rfl (by omega)) rfl ?_ | refine st (y_add_i (b := 1) rfl rfl (by omega) (by omega)) rfl ?_
              refine st (y_assign rfl) rfl ?_
              refine l_nil ?_
              have hBW5 := hBW4.store hw5 hK5 (by decide) (by omega)
              refine q_round (k + 1, _) ⟨rfl, rfl, trivial⟩ ⟨by simp only; omega, by simp only; omega, hBW5, by simpa using hWl, fun j hj => ?_, hK4.trans hK5 (fun i hi => .inl hi)⟩ (by simp only; omega)
              rw [set_getD_nat _ _ _ _ (by omega)]
              by_cases h1 : j = k
              · rw [if_pos h1, hu0 j (by omega)]
              · rw [if_neg h1]; exact hWj j (by simp only at hj; omega)
            ·
              refine l_nil ?_
              refine q_then ?_
              refine c_false rfl rfl ?_
              refine c_exit ?_
              refine q_then_exit ?_
              refine q_then_exit ?_
              refine q_block_hit ?_
              refine q_end0 (.inr rfl) rfl ?_
              have hWt : W = pack (shrS s n) := pack_words (by rw [hul]; omega) fun j hj => hWj j (by omega)
              refine ⟨_, rfl, rfl, shrS s n, ⟨tl, ?_⟩, rfl, hul, hK4.mono (fun i hi => .inl (by simp only [List.mem_singleton] at hi; subst hi; simp))⟩
              rw [hul, ← hWt]
              exact hBW4
    ·
      refine st (y_move rfl) rfl ?_
      refine st (y_extract rfl rfl) rfl ?_
      refine st (y_extract rfl rfl) rfl ?_
      refine st (y_assign rfl) rfl ?_
      refine st (y_assign rfl) rfl ?_
      refine l_nil ?_
      refine q_then ?_
      refine c_seq ?_
      refine c_seq ?_
      refine c_region ?_
      refine st (y_move rfl) rfl ?_
      refine st (y_not rfl) rfl ?_
      refine l_nil ?_
      refine q_then ?_
      refine c_true rfl rfl ?_
      refine c_ret ?_
      refine q_then_ret ?_
      refine q_end0 (.inl rfl) rfl ?_
      exact ⟨_, rfl, rfl, s, hB, nums_congr fun i => by rw [shrS_getD, hno, hno], rfl, Keep.refl _ _⟩

theorem c_implShift (y : Bool) (L : Nat) (A : Option Addr) (n c : Nat) (xs : List Nat) (k : Nat) (w : World) (hT : Tb w) (hR : Rd w A n xs) (hL : L ≤ 6000) (hx : ∀ x ∈ xs, x ≤ 6000) (hk : k ≤ 2000) :
    Cal Tryd.prog 19 [vB y, aB L A n c, vU k] w fun v w' => ∃ t A' c', v = aB t.length A' (nums t).length c' ∧ nums t = (if y then (nums (mkS L xs)).map (· + k) else nums (shrS (mkS L xs) k)) ∧ t.length ≤ (mkS L xs).length + k ∧ Ow w' w.heap.size 22 (.slice A' (nums t).length c') ((nums t).map vU) ∧ Keep w w' [] := by
  have hlen : (mkS L xs).length ≤ 6001 := mkS_length_le L 6001 xs (by omega) fun x h => by have := hx x h; omega
  have hT0 := hT.1
  refine go_in' Tryd.func19 rfl Tryd.ntmps19 (Nat.le_of_ble_eq_true rfl) ?_
  refine c_seq ?_
  refine c_region ?_
  refine st_box _ rfl rfl rfl ?_
  intro b1 w1 hb1 hB1 hK1 hS1
  refine st_alloc [.int .u64 0, .slice none 0 0] zv25 rfl rfl ?_
  intro b2 w2 hb2 hB2 hK2 hS2
  have hB1 := hB1.keep hK2 (by simp only [List.mem_cons, List.not_mem_nil, or_false, not_or, not_false_eq_true] <;> omega)
  have hK12 := hK1.trans hK2 (by simp)
  refine l_nil ?_
  refine q_then ?_
  refine c_seq ?_
  refine c_region ?_
  refine st (y_loadagg rfl agg25 us25 sz25 (by assumption) (by simp) (by rfl)) rfl ?_
  refine sc rfl rfl isfn22 (c_made L A n c xs _ (hR.keep hK12 (by simp)) hL hx) rfl ?_
  rintro _ w3 ⟨p, q, rfl, hp, hq, hS, hK3⟩
  have hB2 := hB2.keep hK3 (by simp only [List.mem_cons, List.not_mem_nil, or_false, not_or, not_false_eq_true] <;> omega)
  have hK13 := hK12.trans hK3 (by simp)
  have hlt3 := hS.lts
  obtain ⟨s, hs⟩ : ∃ s, mkS L xs = s := ⟨_, rfl⟩
  rw [hs] at hS hlen ⊢
  refine st (y_move rfl) rfl ?_
  refine st (y_extract rfl rfl) rfl ?_
  refine st (y_extract rfl rfl) rfl ?_
  refine st (y_assign rfl) rfl ?_
  refine st (y_assign rfl) rfl ?_
  refine l_nil ?_
  refine q_then ?_
  refine c_seq ?_
  refine c_seq ?_
  refine c_region ?_
  refine st (y_move rfl) rfl ?_
  refine st (y_not rfl) rfl ?_
  refine st (y_move rfl) rfl ?_
  refine stg rfl rfl (y_move rfl) rfl ?_
  refine stg_f rfl rfl (y_gt_u (b := 6000) rfl rfl) (by omega) rfl ?_
  refine st (y_pickF rfl rfl) rfl ?_
  refine l_nil ?_
  refine q_then ?_
  refine c_false rfl rfl ?_
  refine c_skip ?_
  refine q_then ?_
  refine c_cut (fun _ : List Bool => [(6, vP b2), (7, vP p)]) (fun t w4 => ∃ q4, (nums t = (if y then (nums s).map (· + k) else nums (shrS s k))) ∧ t.length ≤ s.length + k ∧ BSet w4 p q4 t ∧ (q4 = q ∨ w3.heap.size ≤ q4) ∧ Keep w3 w4 [p, q]) ?_ ?_
  · refine c_seq ?_
    refine c_region ?_
    refine st (y_move rfl) rfl ?_
    refine l_nil ?_
    refine q_then ?_
    refine c_ifb rfl (fun hy => ?_) (fun hy => ?_)
    · refine c_region ?_
      refine st (y_move rfl) rfl ?_
      refine st (y_move rfl) rfl ?_
      refine sc rfl rfl isfn35 (c_ShiftLeft p q s k _ hS (by omega) (by omega)) rfl ?_
      rintro _ w4 ⟨rfl, q4, t, hS4, hnt, htl, hq4, hK4⟩
      refine l_nil ?_
      exact q_meet t ⟨rfl, rfl, trivial⟩ ⟨q4, by rw [hy]; exact hnt, htl, hS4, hq4, hK4⟩
    ·
      refine c_region ?_
      refine st (y_move rfl) rfl ?_
      refine st (y_move rfl) rfl ?_
      refine sc rfl rfl isfn36 (c_ShiftRight p q s k _ hS (by omega) (by omega)) rfl ?_
      rintro _ w4 ⟨rfl, t, hS4, hnt, htl, hK4⟩
      refine l_nil ?_
      exact q_meet t ⟨rfl, rfl, trivial⟩ ⟨q, by rw [hy]; exact hnt, by omega, hS4, .inl rfl, hK4⟩
  ·
    rintro t w4 ⟨q4, hres, htl, hS4, hq4, hK4⟩
    have hsz3 := hK3.size
    have hB24 := hB2.keep hK4 (by simp only [List.mem_cons, List.not_mem_nil, or_false]; omega)
    have hK14 := hK13.trans hK4 (fun i hi => by simp only [List.mem_cons, List.not_mem_nil, or_false] at hi; exact .inr (by have := hK12.size; omega))
    refine c_seq ?_
    refine c_region ?_
    refine st (y_move rfl) rfl ?_
    refine sc rfl rfl isfn37 (c_told p q4 _ _ (hT.keep hK14 (by simp)) hS4 (by omega)) rfl ?_
    rintro _ w5 ⟨A5, c5, rfl, hO5, hK5⟩
    have hB24 := hB24.keep hK5 (by simp only [List.mem_cons, List.not_mem_nil, or_false, not_or, not_false_eq_true] <;> omega)
    have hK15 := hK14.trans hK5 (by simp)
    refine st_storeagg rfl rfl (by simp [Value.oneCell']) sz25 rfl (by assumption) (by simp) rfl ?_
    intro w6 hB6 hK6 hS6
    refine l_nil ?_
    refine q_then ?_
    refine c_ret ?_
    refine q_endc (.inl rfl) rfl rfl agg25 us25 sz25 (by assumption) (by rfl) ?_
    have hsz4 := hK4.size
    exact ⟨_, rfl, t, A5, c5, rfl, hres, htl, (hO5.keep hK6 (fun i hi => by simp only [List.mem_singleton] at hi; left; omega)).base (by omega), hK15.trans hK6 (fun i hi => by simp only [List.mem_singleton] at hi; exact .inr (by omega))⟩

end Go.Proofs.YtbahhdeblppooaaDoor

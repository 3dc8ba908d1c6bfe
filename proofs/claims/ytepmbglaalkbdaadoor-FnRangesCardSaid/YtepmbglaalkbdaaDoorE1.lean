/- FlipRange and SetRange, each by its contract. -/
import Derived.Test.YtepmbglaalkbdaaDoorB2
import Derived.Test.YtepmbglaalkbdaaDoorL12
set_option linter.unusedVariables false
set_option linter.unusedSimpArgs false
set_option maxRecDepth 100000
namespace Go.Proofs.YtepmbglaalkbdaaDoor
open Go Go.RowKit

theorem BW.extended {w : World} {p q : Nat} {s : List Bool} {b : Nat} {tl : List Nat} (h0 : 0 < b) (hs : s.length ≤ b) (h : BW w p q (b - 1 + 1) (pack s ++ List.replicate (nW (b - 1 + 1) - (pack s).length) 0) tl) : BSet w p q (ext s b) := by
  rw [show b - 1 + 1 = b by omega, pack_length] at h
  refine ⟨tl, ?_⟩
  rw [ext_length, Nat.max_eq_right hs, pack_ext s _ hs]
  exact h

theorem c_FlipRange (p q : Nat) (s : List Bool) (a b : Nat) (w : World) (hB : BSet w p q s) (ha : a ≤ 6000) (hb : b ≤ 6000) (hs : s.length ≤ 100000) :
    Cal Tryd.prog 38 [vP p, vU a, vU b] w fun v w' => v = vP p ∧ ∃ q', BSet w' p q' (flipR s a b) ∧ (q' = q ∨ w.heap.size ≤ q') ∧ Keep w w' [p, q] := by
  have hlts := hB.lts
  refine go_in' Tryd.func38 rfl Tryd.ntmps38 (Nat.le_of_ble_eq_true rfl) ?_
  refine c_seq ?_
  refine c_region ?_
  refine st (y_assign rfl) rfl ?_
  refine l_nil ?_
  refine q_then ?_
  refine c_seq ?_
  refine c_seq ?_
  refine c_region ?_
  refine st (y_move rfl) rfl ?_
  refine st (y_move rfl) rfl ?_
  refine st_if (y_ge_u rfl rfl) rfl (fun hge => ?_) (fun hge => ?_)
  · refine l_nil ?_
    refine q_then ?_
    refine c_true rfl rfl ?_
    refine c_seq ?_
    refine c_region ?_
    refine st (y_move rfl) rfl ?_
    refine st (y_assign rfl) rfl ?_
    refine l_nil ?_
    refine q_then ?_
    refine c_ret ?_
    refine q_then_ret ?_
    refine q_end1 (.inl rfl) rfl rfl ?_
    exact ⟨_, rfl, rfl, q, by unfold flipR; rw [if_neg (by omega)]; exact hB, .inl rfl, Keep.refl _ _⟩
  ·
    have hab : a < b := by omega
    obtain ⟨tl0, hB0⟩ := id hB
    have hst0 := hB0.st
    refine l_nil ?_
    refine q_then ?_
    refine c_false rfl rfl ?_
    refine c_skip ?_
    refine q_then ?_
    refine c_cut (fun _ : Nat => [(0, vP p), (1, vU a), (2, vU b)]) (fun q1 w1 => BSet w1 p q1 (ext s b) ∧ (q1 = q ∨ w.heap.size ≤ q1) ∧ Keep w w1 [p, q]) ?_ ?_
    · refine c_seq ?_
      refine c_region ?_
      refine st (y_move rfl) rfl ?_
      refine st (y_sub_u (b := 1) rfl rfl (by omega) (by omega)) rfl ?_
      refine st (y_move rfl) rfl ?_
      refine st (y_nil rfl) rfl ?_
      refine st (fa70_0 rfl) rfl ?_
      refine st (y_loadb rfl one22 (by assumption) (by rfl)) rfl ?_
      refine st_if (y_ge_u rfl rfl) rfl (fun hlt => ?_) (fun hlt => ?_)
      · obtain ⟨tl, hB'⟩ := id hB
        refine l_nil ?_
        refine q_then ?_
        refine c_true rfl rfl ?_
        refine c_region ?_
        refine st (y_move rfl) rfl ?_
        refine st (y_move rfl) rfl ?_
        refine st (y_sub_u (b := 1) rfl rfl (by omega) (by omega)) rfl ?_
        refine sc rfl rfl isfn47 (c_extendSet p q s.length (pack s) tl (b - 1) _ hB' (by omega) (by rw [pack_length]; exact nW_le _ _ (by omega))) rfl ?_
        rintro _ w1 ⟨rfl, q1, tl1, hB1, hq1, hK1⟩
        refine l_nil ?_
        exact q_meet q1 ⟨rfl, rfl, rfl, trivial⟩ ⟨hB1.extended (by omega) (by omega), hq1, hK1⟩
      ·
        refine l_nil ?_
        refine q_then ?_
        refine c_false rfl rfl ?_
        refine c_skip ?_
        exact q_meet q ⟨rfl, rfl, rfl, trivial⟩ ⟨by rw [ext_of_le (by omega)]; exact hB, .inl rfl, Keep.refl _ _⟩
    ·
      clear hst0 hB0
      intro q1 w1 ⟨hB1, hq1, hK1⟩
      obtain ⟨t, ht⟩ : ∃ t, ext s b = t := ⟨_, rfl⟩
      have htl : t.length = max s.length b := by rw [← ht, ext_length]
      have htg : ∀ i, t.getD i false = s.getD i false := fun i => by rw [← ht, ext_getD]
      rw [ht] at hB1
      have hlt1 := hB1.lts
      obtain ⟨tl, hBW⟩ := hB1
      have hlen := pack_length t
      have hsw : a / 64 < (pack t).length := by rw [pack_length, htl]; unfold nW; omega
      have hew : b / 64 ≤ (pack t).length := by rw [pack_length, htl]; unfold nW; omega
      have hnn : (pack t).length ≤ 2000 := by rw [pack_length, htl]; unfold nW; omega
      have hdiv := shr6 a
      have hdivb := shr6 b
      have hmod := and63 a
      have hma := bit64 a
      refine c_seq ?_
      refine c_region ?_
      refine st (y_move rfl) rfl ?_
      refine st (y_shr (k := 6) rfl rfl (by first | omega | assumption | (repeat (first | assumption | omega | decide | exact shl_lt64 _ _ | apply and_lt64 | apply or_lt64 | apply xor_lt64 | apply nt_lt | apply shr_lt64 | apply getD_lt64)))) rfl ?_
      rw [hdiv]
      refine st (y_conv_ui rfl us22 Tryd.underlying3 (by omega)) rfl ?_
      refine st (y_assign rfl) rfl ?_
      refine l_nil ?_
      refine q_then ?_
      refine c_seq ?_
      refine c_region ?_
      refine st (y_move rfl) rfl ?_
      refine st (y_shr (k := 6) rfl rfl (by first | omega | assumption | (repeat (first | assumption | omega | decide | exact shl_lt64 _ _ | apply and_lt64 | apply or_lt64 | apply xor_lt64 | apply nt_lt | apply shr_lt64 | apply getD_lt64)))) rfl ?_
      rw [hdivb]
      refine st (y_conv_ui rfl us22 Tryd.underlying3 (by omega)) rfl ?_
      refine st (y_assign rfl) rfl ?_
      refine l_nil ?_
      refine q_then ?_
      refine c_seq ?_
      have hBWd := hBW.drew
      have hst := hBWd.st
      have hwd := hBWd.wd
      have hg := getD_app (tl := tl) hsw
      have hx := pack_getD_lt t (a / 64)
      refine c_tail 13 mixed (by kernel_rfl) ?_
      refine ss (y_move rfl) rfl ?_
      refine ss (y_nil rfl) rfl ?_
      refine ss (fa70_1 rfl) rfl ?_
      refine ss (y_loadb rfl one34 (by assumption) (by rfl)) rfl ?_
      refine ss (y_move rfl) rfl ?_
      first | refine ss (y_index0 rfl rfl Tryd.underlying34 sz38 (by omega)) rfl ?_ | refine ss (y_index rfl rfl Tryd.underlying34 sz38 (by omega)) rfl ?_ | refine ss (y_indexA rfl rfl Tryd.underlying34 sz38 (by omega)) rfl ?_
      first | refine ss (y_loadM (0) rfl one38 (by assumption) (by first | omega | (simp only [List.length_append, List.length_map, List.length_replicate, List.length_set, List.length_take, List.length_drop]; omega) | (simp; done))) rfl ?_ | refine ss (y_load rfl one38 (by assumption)) rfl ?_
      refine ss (y_move rfl) rfl ?_
      rw [hg]
      refine ssc rfl rfl isfn48 (c_wordsIndex _ (by omega) _) rfl ?_
      rw [hmod]
      refine ss (y_shl (a := 18446744073709551615) rfl rfl) rfl ?_
      refine ss (y_compl rfl (by first | omega | assumption | (repeat (first | assumption | omega | decide | exact shl_lt64 _ _ | apply and_lt64 | apply or_lt64 | apply xor_lt64 | apply nt_lt | apply shr_lt64 | apply getD_lt64)))) rfl ?_
      refine ss (y_xor rfl rfl (by first | omega | assumption | (repeat (first | assumption | omega | decide | exact shl_lt64 _ _ | apply and_lt64 | apply or_lt64 | apply xor_lt64 | apply nt_lt | apply shr_lt64 | apply getD_lt64))) (by first | omega | assumption | (repeat (first | assumption | omega | decide | exact shl_lt64 _ _ | apply and_lt64 | apply or_lt64 | apply xor_lt64 | apply nt_lt | apply shr_lt64 | apply getD_lt64)))) rfl ?_
      first | refine ss (y_index0 rfl rfl Tryd.underlying34 sz38 (by omega)) rfl ?_ | refine ss (y_index rfl rfl Tryd.underlying34 sz38 (by omega)) rfl ?_ | refine ss (y_indexA rfl rfl Tryd.underlying34 sz38 (by omega)) rfl ?_
      refine s_nil ?_
      show wpL _ _ _ _ _ _ _ _
      rw [show nt ((18446744073709551615 <<< (a % 64)) % 18446744073709551616) = nt' ((18446744073709551615 <<< (a % 64)) % 18446744073709551616) from rfl]
      refine st_storeM vU rfl rfl rfl sz38 (by assumption) (by first | omega | (simp only [List.length_append, List.length_map, List.length_replicate, List.length_set, List.length_take, List.length_drop]; omega)) rfl ?_
      intro w2 hw2 hK2 hS2
      have hN : nt' ((18446744073709551615 <<< (a % 64)) % 18446744073709551616) < 18446744073709551616 := nt_lt64 (Nat.mod_lt _ (by decide))
      have hBW2 := hBWd.store hw2 hK2 (xor_lt64 hx hN) hsw
      have hK12 : Keep w1 w2 [q1] := (Keep.drew w1 [q1]).trans hK2 (fun i hi => .inl hi)
      have hbit2 := flip_low (r := a % 64) hsw
      obtain ⟨ws2, hws2⟩ : ∃ ws2, (pack t).set (a / 64) ((pack t).getD (a / 64) 0 ^^^ nt' ((18446744073709551615 <<< (a % 64)) % 18446744073709551616)) = ws2 := ⟨_, rfl⟩
      have hl2 : ws2.length = (pack t).length := by rw [← hws2]; simp
      rw [hws2] at hBW2 hbit2
      clear hst hwd hBWd hBW hw2
      have hst := hBW2.st
      rw [hl2] at hst
      refine l_nil ?_
      refine q_then ?_
      refine c_seq ?_
      refine c_seq ?_
      refine c_region ?_
      refine st (y_move rfl) rfl ?_
      refine st (y_nil rfl) rfl ?_
      refine st (fa70_1 rfl) rfl ?_
      refine st (y_loadb rfl one34 (by assumption) (by rfl)) rfl ?_
      refine st (y_move rfl) rfl ?_
      refine st (y_move rfl) rfl ?_
      refine st (y_slice_lhn rfl rfl rfl Tryd.underlying34 sz38 (by omega) (by omega) (by omega)) rfl ?_
      refine st (y_len rfl Tryd.underlying34) rfl ?_
      refine st (y_move (v := vI ((0 : Nat) : Int)) rfl) rfl ?_
      refine l_nil ?_
      refine q_then ?_
      refine c_block ?_
      refine c_loop (fun k : Nat => [(0, vP p), (2, vU b), (7, vI ((a / 64 : Nat) : Int)), (8, vI ((b / 64 : Nat) : Int)), (52, vI ((b / 64 - a / 64 : Nat) : Int)), (53, vI (k : Nat))]) (fun k w' => k ≤ b / 64 - a / 64 ∧ Keep w1 w' [q1] ∧ ∃ ws, BW w' p q1 t.length ws tl ∧ ws.length = (pack t).length ∧ ∀ i, wbit ws i = (wbit ws2 i ^^ (decide (64 * (a / 64) ≤ i) && decide (i < 64 * (a / 64 + k))))) (fun k => b / 64 - a / 64 - k) 0 ?_ ?_ ?_
      · exact ⟨rfl, rfl, rfl, rfl, rfl, rfl, trivial⟩
      · refine ⟨Nat.zero_le _, hK12, ws2, hBW2, hl2, fun i => ?_⟩
        have : (decide (64 * (a / 64) ≤ i) && decide (i < 64 * (a / 64 + 0))) = false := by
          rw [← Bool.decide_and]; exact decide_eq_false (by omega)
        rw [this, Bool.xor_false]
      · rintro k w3 ⟨hk, hK3, ws, hBW3, hl3, hb3⟩
        refine c_seq ?_
        refine c_region ?_
        refine st_if (y_lt_i rfl rfl) rfl (fun hlt => ?_) (fun hlt => ?_)
        · have hj : a / 64 + k < ws.length := by omega
          have hBWd := hBW3.drew
          have hst := hBWd.st
          have hwd := hBWd.wd
          have hg := getD_app (tl := tl) hj
          have hx := getD_lt64 hBW3.lt (a / 64 + k)
          refine l_nil ?_
          refine q_then ?_
          refine c_seq ?_
          refine c_true rfl rfl ?_
          refine c_skip ?_
          refine q_then ?_
          refine c_seq ?_
          refine c_block ?_
          refine c_seq ?_
          refine c_region ?_
          refine st (y_move rfl) rfl ?_
          refine st (y_assign rfl) rfl ?_
          refine l_nil ?_
          refine q_then ?_
          refine c_tail 18 mixed (by kernel_rfl) ?_
          refine ss (y_move rfl) rfl ?_
          refine ss (y_nil rfl) rfl ?_
          refine ss (fa70_1 rfl) rfl ?_
          refine ss (y_loadb rfl one34 (by assumption) (by rfl)) rfl ?_
          refine ss (y_move rfl) rfl ?_
          refine ss (y_move rfl) rfl ?_
          first | refine ss (y_add_in rfl rfl (by omega)) rfl ?_ | refine ss (y_add_i rfl rfl (by omega) (by omega)) rfl ?_
          refine ss (y_move rfl) rfl ?_
          refine ss (y_nil rfl) rfl ?_
          refine ss (fa70_1 rfl) rfl ?_
          refine ss (y_loadb rfl one34 (by assumption) (by rfl)) rfl ?_
          refine ss (y_move rfl) rfl ?_
          refine ss (y_move rfl) rfl ?_
          first | refine ss (y_add_in rfl rfl (by omega)) rfl ?_ | refine ss (y_add_i rfl rfl (by omega) (by omega)) rfl ?_
          first | refine ss (y_index0 rfl rfl Tryd.underlying34 sz38 (by omega)) rfl ?_ | refine ss (y_index rfl rfl Tryd.underlying34 sz38 (by omega)) rfl ?_ | refine ss (y_indexA rfl rfl Tryd.underlying34 sz38 (by omega)) rfl ?_
          first | refine ss (y_loadM (0) rfl one38 (by assumption) (by first | omega | (simp only [List.length_append, List.length_map, List.length_replicate, List.length_set, List.length_take, List.length_drop]; omega) | (simp; done))) rfl ?_ | refine ss (y_load rfl one38 (by assumption)) rfl ?_
          refine ss (y_compl rfl (by first | omega | assumption | (repeat (first | assumption | omega | decide | exact shl_lt64 _ _ | apply and_lt64 | apply or_lt64 | apply xor_lt64 | apply nt_lt | apply shr_lt64 | apply getD_lt64)))) rfl ?_
          first | refine ss (y_index0 rfl rfl Tryd.underlying34 sz38 (by omega)) rfl ?_ | refine ss (y_index rfl rfl Tryd.underlying34 sz38 (by omega)) rfl ?_ | refine ss (y_indexA rfl rfl Tryd.underlying34 sz38 (by omega)) rfl ?_
          refine s_nil ?_
          show wpL _ _ _ _ _ _ _ _
          rw [hg, show nt (ws.getD (a / 64 + k) 0) = nt' (ws.getD (a / 64 + k) 0) from rfl]
          refine st_storeM vU rfl rfl rfl sz38 (by assumption) (by first | omega | (simp only [List.length_append, List.length_map, List.length_replicate, List.length_set, List.length_take, List.length_drop]; omega)) rfl ?_
          intro w4 hw4 hK4 hS4
          refine l_nil ?_
          refine q_block ?_
          refine q_then ?_
          refine c_region ?_
          first | refine st (y_add_in (b := 1) rfl rfl (by omega)) rfl ?_ | refine st (y_add_i (b := 1) rfl rfl (by omega) (by omega)) rfl ?_
          refine st (y_move rfl) rfl ?_
          refine l_nil ?_
          refine q_round (k + 1) ⟨rfl, rfl, rfl, rfl, rfl, rfl, trivial⟩ ⟨by omega, (hK3.trans (Keep.drew w3 []) (by simp)).trans hK4 (fun i hi => .inl hi), _, hBWd.store hw4 hK4 (nt_lt64 hx) hj, by simpa using hl3, fun i => ?_⟩ (by omega)
          rw [flip_all hj, hb3, Bool.xor_assoc]
          congr 1
          by_cases h1 : 64 * (a / 64) ≤ i
          · by_cases h2 : i < 64 * (a / 64 + k)
            · have h3 : i < 64 * (a / 64 + (k + 1)) := by omega
              have h4 : ¬ i / 64 = a / 64 + k := by omega
              simp [h1, h2, h3, h4]
            · by_cases h4 : i / 64 = a / 64 + k
              · have h3 : i < 64 * (a / 64 + (k + 1)) := by omega
                simp [h1, h2, h3, h4]
              · have h3 : ¬ i < 64 * (a / 64 + (k + 1)) := by omega
                simp [h2, h3, h4]
          · have h4 : ¬ i / 64 = a / 64 + k := by omega
            simp [h1, h4]
        ·
          have hke : k = b / 64 - a / 64 := by omega
          have hb3' : ∀ i, wbit ws i = ((t.getD i false ^^ (decide (i / 64 = a / 64) && decide (i % 64 < a % 64))) ^^ (decide (64 * (a / 64) ≤ i) && decide (i < 64 * (b / 64)))) := fun i => by
            have e : 64 * (a / 64 + k) = 64 * (b / 64) := by omega
            rw [hb3, hbit2, wbit_pack, e]
          have hfl := flipR_length (s := s) hab
          have hnm := neg_mod (b := b) (by omega)
          have hm2 := and63 ((18446744073709551616 - b) % 18446744073709551616)
          refine l_nil ?_
          refine q_then ?_
          refine c_seq ?_
          refine c_false rfl rfl ?_
          refine c_exit ?_
          refine q_then_exit ?_
          refine q_then_exit ?_
          refine q_block_hit ?_
          refine q_then ?_
          refine c_seq ?_
          refine c_seq ?_
          refine c_region ?_
          refine st (y_move rfl) rfl ?_
          refine st (y_neg_u rfl (by omega)) rfl ?_
          refine sc rfl rfl isfn48 (c_wordsIndex _ (Nat.mod_lt _ (by decide)) _) rfl ?_
          rintro _ _ ⟨rfl, rfl⟩
          rw [hm2, hnm]
          refine st (y_assign rfl) rfl ?_
          refine l_nil ?_
          refine q_then ?_
          refine c_seq ?_
          refine c_region ?_
          refine st (y_move rfl) rfl ?_
          obtain ⟨k2, hk2⟩ : ∃ k2, (64 - b % 64) % 64 = k2 := ⟨_, rfl⟩
          rw [hk2]
          refine st_if (y_ne_u (b := 0) rfl rfl) rfl (fun h0 => ?_) (fun h0 => ?_)
          · have hj : b / 64 < ws.length := by rw [hl3, hlen, htl]; unfold nW; omega
            have hBWd := hBW3.drew
            have hst := hBWd.st
            have hwd := hBWd.wd
            have hg := getD_app (tl := tl) hj
            have hx := getD_lt64 hBW3.lt (b / 64)
            have hm3 := and63 k2
            have hk3 : k2 % 64 = k2 := by omega
            refine l_nil ?_
            refine q_then ?_
            refine c_true rfl rfl ?_
            refine c_tail 12 mixed (by kernel_rfl) ?_
            refine ss (y_move rfl) rfl ?_
            refine ss (y_nil rfl) rfl ?_
            refine ss (fa70_1 rfl) rfl ?_
            refine ss (y_loadb rfl one34 (by assumption) (by rfl)) rfl ?_
            refine ss (y_move rfl) rfl ?_
            first | refine ss (y_index0 rfl rfl Tryd.underlying34 sz38 (by omega)) rfl ?_ | refine ss (y_index rfl rfl Tryd.underlying34 sz38 (by omega)) rfl ?_ | refine ss (y_indexA rfl rfl Tryd.underlying34 sz38 (by omega)) rfl ?_
            first | refine ss (y_loadM (0) rfl one38 (by assumption) (by first | omega | (simp only [List.length_append, List.length_map, List.length_replicate, List.length_set, List.length_take, List.length_drop]; omega) | (simp; done))) rfl ?_ | refine ss (y_load rfl one38 (by assumption)) rfl ?_
            refine ss (y_move rfl) rfl ?_
            rw [hg]
            refine ssc rfl rfl isfn48 (c_wordsIndex _ (by omega) _) rfl ?_
            rw [hm3, hk3]
            refine ss (y_shr (a := 18446744073709551615) rfl rfl (by first | omega | assumption | (repeat (first | assumption | omega | decide | exact shl_lt64 _ _ | apply and_lt64 | apply or_lt64 | apply xor_lt64 | apply nt_lt | apply shr_lt64 | apply getD_lt64)))) rfl ?_
            refine ss (y_xor rfl rfl (by first | omega | assumption | (repeat (first | assumption | omega | decide | exact shl_lt64 _ _ | apply and_lt64 | apply or_lt64 | apply xor_lt64 | apply nt_lt | apply shr_lt64 | apply getD_lt64))) (by first | omega | assumption | (repeat (first | assumption | omega | decide | exact shl_lt64 _ _ | apply and_lt64 | apply or_lt64 | apply xor_lt64 | apply nt_lt | apply shr_lt64 | apply getD_lt64)))) rfl ?_
            first | refine ss (y_index0 rfl rfl Tryd.underlying34 sz38 (by omega)) rfl ?_ | refine ss (y_index rfl rfl Tryd.underlying34 sz38 (by omega)) rfl ?_ | refine ss (y_indexA rfl rfl Tryd.underlying34 sz38 (by omega)) rfl ?_
            refine s_nil ?_
            show wpL _ _ _ _ _ _ _ _
            refine st_storeM vU rfl rfl rfl sz38 (by assumption) (by first | omega | (simp only [List.length_append, List.length_map, List.length_replicate, List.length_set, List.length_take, List.length_drop]; omega)) rfl ?_
            intro w4 hw4 hK4 hS4
            refine l_nil ?_
            refine q_then ?_
            refine c_seq ?_
            refine c_region ?_
            refine st (y_move rfl) rfl ?_
            refine st (y_assign rfl) rfl ?_
            refine l_nil ?_
            refine q_then ?_
            refine c_ret ?_
            refine q_end1 (.inl rfl) rfl rfl ?_
            have hBW4 := hBWd.store hw4 hK4 (xor_lt64 hx (ones_shr_lt _)) hj
            have hK14 := (hK3.trans (Keep.drew w3 []) (by simp)).trans hK4 (fun i hi => .inl hi)
            refine ⟨_, rfl, rfl, q1, ?_, hq1, hK1.trans hK14 (fun i hi => by simp only [List.mem_singleton] at hi; subst hi; rcases hq1 with h | h <;> simp [h])⟩
            rw [show t.length = (flipR s a b).length by omega] at hBW4
            refine hBW4.bset (by rw [List.length_set, hl3, hlen]; congr 1; omega) fun i _ => ?_
            rw [flip_high hj (by omega), hb3', flipR_getD hab, ← rangeF hab, htg, show 64 - k2 = b % 64 by omega]
            simp only [Bool.xor_assoc]
          ·
            refine l_nil ?_
            refine q_then ?_
            refine c_false rfl rfl ?_
            refine c_skip ?_
            refine q_then ?_
            refine c_seq ?_
            refine c_region ?_
            refine st (y_move rfl) rfl ?_
            refine st (y_assign rfl) rfl ?_
            refine l_nil ?_
            refine q_then ?_
            refine c_ret ?_
            refine q_end1 (.inl rfl) rfl rfl ?_
            refine ⟨_, rfl, rfl, q1, ?_, hq1, hK1.trans hK3 (fun i hi => by simp only [List.mem_singleton] at hi; subst hi; rcases hq1 with h | h <;> simp [h])⟩
            rw [show t.length = (flipR s a b).length by omega] at hBW3
            refine hBW3.bset (by rw [hl3, hlen]; congr 1; omega) fun i _ => ?_
            have h00 : b % 64 = 0 := by omega
            rw [hb3', flipR_getD hab, ← rangeF hab, htg, h00]
            simp

theorem c_SetRange (p q : Nat) (s : List Bool) (a b : Nat) (w : World) (hB : BSet w p q s) (ha : a ≤ 6000) (hb : b ≤ 6000) (hs : s.length ≤ 100000) :
    Cal Tryd.prog 39 [vP p, vU a, vU b] w fun v w' => v = vP p ∧ ∃ q', BSet w' p q' (setR s a b) ∧ (q' = q ∨ w.heap.size ≤ q') ∧ Keep w w' [p, q] := by
  have hlts := hB.lts
  refine go_in' Tryd.func39 rfl Tryd.ntmps39 (Nat.le_of_ble_eq_true rfl) ?_
  refine c_seq ?_
  refine c_region ?_
  refine st (y_assign rfl) rfl ?_
  refine l_nil ?_
  refine q_then ?_
  refine c_seq ?_
  refine c_seq ?_
  refine c_region ?_
  refine st (y_move rfl) rfl ?_
  refine st (y_move rfl) rfl ?_
  refine st_if (y_ge_u rfl rfl) rfl (fun hge => ?_) (fun hge => ?_)
  · refine l_nil ?_
    refine q_then ?_
    refine c_true rfl rfl ?_
    refine c_seq ?_
    refine c_region ?_
    refine st (y_move rfl) rfl ?_
    refine st (y_assign rfl) rfl ?_
    refine l_nil ?_
    refine q_then ?_
    refine c_ret ?_
    refine q_then_ret ?_
    refine q_end1 (.inl rfl) rfl rfl ?_
    exact ⟨_, rfl, rfl, q, by unfold setR; rw [if_neg (by omega)]; exact hB, .inl rfl, Keep.refl _ _⟩
  ·
    have hab : a < b := by omega
    obtain ⟨tl0, hB0⟩ := id hB
    have hst0 := hB0.st
    refine l_nil ?_
    refine q_then ?_
    refine c_false rfl rfl ?_
    refine c_skip ?_
    refine q_then ?_
    refine c_cut (fun _ : Nat => [(0, vP p), (1, vU a), (2, vU b)]) (fun q1 w1 => BSet w1 p q1 (ext s b) ∧ (q1 = q ∨ w.heap.size ≤ q1) ∧ Keep w w1 [p, q]) ?_ ?_
    · refine c_seq ?_
      refine c_region ?_
      refine st (y_move rfl) rfl ?_
      refine st (y_sub_u (b := 1) rfl rfl (by omega) (by omega)) rfl ?_
      refine st (y_move rfl) rfl ?_
      refine st (y_nil rfl) rfl ?_
      refine st (fa70_0 rfl) rfl ?_
      refine st (y_loadb rfl one22 (by assumption) (by rfl)) rfl ?_
      refine st_if (y_ge_u rfl rfl) rfl (fun hlt => ?_) (fun hlt => ?_)
      · obtain ⟨tl, hB'⟩ := id hB
        refine l_nil ?_
        refine q_then ?_
        refine c_true rfl rfl ?_
        refine c_region ?_
        refine st (y_move rfl) rfl ?_
        refine st (y_move rfl) rfl ?_
        refine st (y_sub_u (b := 1) rfl rfl (by omega) (by omega)) rfl ?_
        refine sc rfl rfl isfn47 (c_extendSet p q s.length (pack s) tl (b - 1) _ hB' (by omega) (by rw [pack_length]; exact nW_le _ _ (by omega))) rfl ?_
        rintro _ w1 ⟨rfl, q1, tl1, hB1, hq1, hK1⟩
        refine l_nil ?_
        exact q_meet q1 ⟨rfl, rfl, rfl, trivial⟩ ⟨hB1.extended (by omega) (by omega), hq1, hK1⟩
      ·
        refine l_nil ?_
        refine q_then ?_
        refine c_false rfl rfl ?_
        refine c_skip ?_
        exact q_meet q ⟨rfl, rfl, rfl, trivial⟩ ⟨by rw [ext_of_le (by omega)]; exact hB, .inl rfl, Keep.refl _ _⟩
    ·
      clear hst0 hB0
      intro q1 w1 ⟨hB1, hq1, hK1⟩
      obtain ⟨t, ht⟩ : ∃ t, ext s b = t := ⟨_, rfl⟩
      have htl : t.length = max s.length b := by rw [← ht, ext_length]
      have htg : ∀ i, t.getD i false = s.getD i false := fun i => by rw [← ht, ext_getD]
      rw [ht] at hB1
      have hlt1 := hB1.lts
      obtain ⟨tl, hBW⟩ := hB1
      have hlen := pack_length t
      have hsw : a / 64 < (pack t).length := by rw [pack_length, htl]; unfold nW; omega
      have hew : (b - 1) / 64 < (pack t).length := by rw [pack_length, htl]; unfold nW; omega
      have hnn : (pack t).length ≤ 2000 := by rw [pack_length, htl]; unfold nW; omega
      have hdiv := shr6 a
      have hdivb := shr6 (b - 1)
      have hmod := and63 a
      have hma := bit64 a
      have hst := hBW.st
      have hwd := hBW.wd
      have hg := getD_app (tl := tl) hsw
      have hx := pack_getD_lt t (a / 64)
      have hsl := setR_length (s := s) hab
      have hnm := neg_mod (b := b) (by omega)
      have hm2 := and63 ((18446744073709551616 - b) % 18446744073709551616)
      obtain ⟨k2, hk2⟩ : ∃ k2, (64 - b % 64) % 64 = k2 := ⟨_, rfl⟩
      have hF64 : (18446744073709551615 <<< (a % 64)) % 18446744073709551616 < 18446744073709551616 := Nat.mod_lt _ (by decide)
      have hL64 := ones_shr_lt k2
      refine c_seq ?_
      refine c_region ?_
      refine st (y_move rfl) rfl ?_
      refine st (y_shr (k := 6) rfl rfl (by first | omega | assumption | (repeat (first | assumption | omega | decide | exact shl_lt64 _ _ | apply and_lt64 | apply or_lt64 | apply xor_lt64 | apply nt_lt | apply shr_lt64 | apply getD_lt64)))) rfl ?_
      refine st (y_assign rfl) rfl ?_
      refine l_nil ?_
      refine q_then ?_
      rw [hdiv]
      refine c_seq ?_
      refine c_region ?_
      refine st (y_move rfl) rfl ?_
      refine st (y_sub_u (b := 1) rfl rfl (by omega) (by omega)) rfl ?_
      refine st (y_shr (k := 6) rfl rfl (by first | omega | assumption | (repeat (first | assumption | omega | decide | exact shl_lt64 _ _ | apply and_lt64 | apply or_lt64 | apply xor_lt64 | apply nt_lt | apply shr_lt64 | apply getD_lt64)))) rfl ?_
      refine st (y_assign rfl) rfl ?_
      refine l_nil ?_
      refine q_then ?_
      rw [hdivb]
      refine c_seq ?_
      refine c_region ?_
      refine st (y_move rfl) rfl ?_
      refine sc rfl rfl isfn48 (c_wordsIndex _ (by omega) _) rfl ?_
      rintro _ _ ⟨rfl, rfl⟩
      rw [hmod]
      refine st (y_shl (a := 18446744073709551615) rfl rfl) rfl ?_
      refine st (y_assign rfl) rfl ?_
      refine l_nil ?_
      refine q_then ?_
      refine c_seq ?_
      refine c_region ?_
      refine st (y_move rfl) rfl ?_
      refine st (y_neg_u rfl (by omega)) rfl ?_
      refine sc rfl rfl isfn48 (c_wordsIndex _ (Nat.mod_lt _ (by decide)) _) rfl ?_
      rintro _ _ ⟨rfl, rfl⟩
      rw [hm2, hnm, hk2]
      refine st (y_shr (a := 18446744073709551615) rfl rfl (by first | omega | assumption | (repeat (first | assumption | omega | decide | exact shl_lt64 _ _ | apply and_lt64 | apply or_lt64 | apply xor_lt64 | apply nt_lt | apply shr_lt64 | apply getD_lt64)))) rfl ?_
      refine st (y_assign rfl) rfl ?_
      refine l_nil ?_
      refine q_then ?_
      refine c_seq ?_
      refine c_seq ?_
      refine c_region ?_
      refine st (y_move rfl) rfl ?_
      refine st (y_move rfl) rfl ?_
      obtain ⟨X, hX⟩ : ∃ X, (18446744073709551615 <<< (a % 64)) % 18446744073709551616 = X := ⟨_, rfl⟩
      obtain ⟨Y, hY⟩ : ∃ Y, 18446744073709551615 >>> k2 = Y := ⟨_, rfl⟩
      have hXb : ∀ i, X.testBit i = (decide (i < 64) && decide (a % 64 ≤ i)) := fun i => by rw [← hX, ones_shl]
      have hYb : ∀ i, Y.testBit i = decide (i < 64 - k2) := fun i => by rw [← hY, ones_shr _ _ (by omega)]
      rw [hX] at hF64
      rw [hY] at hL64
      rw [hX, hY]
      refine st_if (y_eq_u rfl rfl) rfl (fun heq => ?_) (fun heq => ?_)
      · refine l_nil ?_
        refine q_then ?_
        refine c_true rfl rfl ?_
        refine c_seq ?_
        refine c_region ?_
        refine st (y_move rfl) rfl ?_
        refine st (y_nil rfl) rfl ?_
        refine st (fa70_1 rfl) rfl ?_
        refine st (y_loadb rfl one34 (by assumption) (by rfl)) rfl ?_
        refine st (y_move rfl) rfl ?_
        first | refine st (y_index0 rfl rfl Tryd.underlying34 sz38 (by omega)) rfl ?_ | refine st (y_index rfl rfl Tryd.underlying34 sz38 (by omega)) rfl ?_ | refine st (y_indexA rfl rfl Tryd.underlying34 sz38 (by omega)) rfl ?_
        first | refine st (y_loadM (0) rfl one38 (by assumption) (by first | omega | (simp only [List.length_append, List.length_map, List.length_replicate, List.length_set, List.length_take, List.length_drop]; omega) | (simp; done))) rfl ?_ | refine st (y_load rfl one38 (by assumption)) rfl ?_
        refine st (y_move rfl) rfl ?_
        refine st (y_move rfl) rfl ?_
        refine st (y_and rfl rfl (by first | omega | assumption | (repeat (first | assumption | omega | decide | exact shl_lt64 _ _ | apply and_lt64 | apply or_lt64 | apply xor_lt64 | apply nt_lt | apply shr_lt64 | apply getD_lt64))) (by first | omega | assumption | (repeat (first | assumption | omega | decide | exact shl_lt64 _ _ | apply and_lt64 | apply or_lt64 | apply xor_lt64 | apply nt_lt | apply shr_lt64 | apply getD_lt64)))) rfl ?_
        refine st (y_or rfl rfl (by first | omega | assumption | (repeat (first | assumption | omega | decide | exact shl_lt64 _ _ | apply and_lt64 | apply or_lt64 | apply xor_lt64 | apply nt_lt | apply shr_lt64 | apply getD_lt64))) (by first | omega | assumption | (repeat (first | assumption | omega | decide | exact shl_lt64 _ _ | apply and_lt64 | apply or_lt64 | apply xor_lt64 | apply nt_lt | apply shr_lt64 | apply getD_lt64)))) rfl ?_
        first | refine st (y_index0 rfl rfl Tryd.underlying34 sz38 (by omega)) rfl ?_ | refine st (y_index rfl rfl Tryd.underlying34 sz38 (by omega)) rfl ?_ | refine st (y_indexA rfl rfl Tryd.underlying34 sz38 (by omega)) rfl ?_
        rw [hg]
        refine st_storeM vU rfl rfl rfl sz38 (by assumption) (by first | omega | (simp only [List.length_append, List.length_map, List.length_replicate, List.length_set, List.length_take, List.length_drop]; omega)) rfl ?_
        intro w2 hw2 hK2 hS2
        refine l_nil ?_
        refine q_then ?_
        refine c_seq ?_
        refine c_region ?_
        refine st (y_move rfl) rfl ?_
        refine st (y_assign rfl) rfl ?_
        refine l_nil ?_
        refine q_then ?_
        refine c_ret ?_
        refine q_then_ret ?_
        refine q_end1 (.inl rfl) rfl rfl ?_
        have hBW2 := hBW.store hw2 hK2 (or_lt64 hx (and_lt64 Y hF64)) hsw
        refine ⟨_, rfl, rfl, q1, ?_, hq1, hK1.trans hK2 (fun i hi => by simp only [List.mem_singleton] at hi; subst hi; rcases hq1 with h | h <;> simp [h])⟩
        rw [show t.length = (setR s a b).length by omega] at hBW2
        refine hBW2.bset (by rw [List.length_set, hlen]; congr 1; omega) fun i _ => ?_
        rw [or_word hsw, wbit_pack, Nat.testBit_and, hXb, hYb, setR_getD hab, htg, range1 hab hk2.symm heq]
      ·
        have hlt : a / 64 < (b - 1) / 64 := by omega
        refine l_nil ?_
        refine q_then ?_
        refine c_false rfl rfl ?_
        refine c_skip ?_
        refine q_then ?_
        refine c_seq ?_
        refine c_region ?_
        refine st (y_move rfl) rfl ?_
        refine st (y_nil rfl) rfl ?_
        refine st (fa70_1 rfl) rfl ?_
        refine st (y_loadb rfl one34 (by assumption) (by rfl)) rfl ?_
        refine st (y_move rfl) rfl ?_
        first | refine st (y_index0 rfl rfl Tryd.underlying34 sz38 (by omega)) rfl ?_ | refine st (y_index rfl rfl Tryd.underlying34 sz38 (by omega)) rfl ?_ | refine st (y_indexA rfl rfl Tryd.underlying34 sz38 (by omega)) rfl ?_
        first | refine st (y_loadM (0) rfl one38 (by assumption) (by first | omega | (simp only [List.length_append, List.length_map, List.length_replicate, List.length_set, List.length_take, List.length_drop]; omega) | (simp; done))) rfl ?_ | refine st (y_load rfl one38 (by assumption)) rfl ?_
        refine st (y_move rfl) rfl ?_
        refine st (y_or rfl rfl (by first | omega | assumption | (repeat (first | assumption | omega | decide | exact shl_lt64 _ _ | apply and_lt64 | apply or_lt64 | apply xor_lt64 | apply nt_lt | apply shr_lt64 | apply getD_lt64))) (by first | omega | assumption | (repeat (first | assumption | omega | decide | exact shl_lt64 _ _ | apply and_lt64 | apply or_lt64 | apply xor_lt64 | apply nt_lt | apply shr_lt64 | apply getD_lt64)))) rfl ?_
        first | refine st (y_index0 rfl rfl Tryd.underlying34 sz38 (by omega)) rfl ?_ | refine st (y_index rfl rfl Tryd.underlying34 sz38 (by omega)) rfl ?_ | refine st (y_indexA rfl rfl Tryd.underlying34 sz38 (by omega)) rfl ?_
        rw [hg]
        refine st_storeM vU rfl rfl rfl sz38 (by assumption) (by first | omega | (simp only [List.length_append, List.length_map, List.length_replicate, List.length_set, List.length_take, List.length_drop]; omega)) rfl ?_
        intro w2 hw2 hK2 hS2
        have hBW2 := hBW.store hw2 hK2 (or_lt64 hx hF64) hsw
        have hbit2 := or_word (x := X) hsw
        obtain ⟨ws2, hws2⟩ : ∃ ws2, (pack t).set (a / 64) ((pack t).getD (a / 64) 0 ||| X) = ws2 := ⟨_, rfl⟩
        have hl2 : ws2.length = (pack t).length := by rw [← hws2]; simp
        rw [hws2] at hBW2 hbit2
        clear hst hwd hw2
        refine l_nil ?_
        refine q_then ?_
        refine c_seq ?_
        refine c_seq ?_
        refine c_region ?_
        refine st (y_move rfl) rfl ?_
        refine st (y_add_u (b := 1) rfl rfl (by omega)) rfl ?_
        refine st (y_assign rfl) rfl ?_
        refine l_nil ?_
        refine q_then ?_
        refine c_block ?_
        refine c_loop (fun k : Nat => [(0, vP p), (8, vU ((b - 1) / 64)), (10, vU Y), (11, vU (a / 64 + 1 + k))]) (fun k w' => a / 64 + 1 + k ≤ (b - 1) / 64 ∧ Keep w1 w' [q1] ∧ ∃ ws, BW w' p q1 t.length ws tl ∧ ws.length = (pack t).length ∧ ∀ i, wbit ws i = (wbit ws2 i || (decide (64 * (a / 64 + 1) ≤ i) && decide (i < 64 * (a / 64 + 1 + k))))) (fun k => (b - 1) / 64 - k) 0 ?_ ?_ ?_
        · exact ⟨rfl, rfl, rfl, rfl, trivial⟩
        · refine ⟨by omega, hK2, ws2, hBW2, hl2, fun i => ?_⟩
          have : (decide (64 * (a / 64 + 1) ≤ i) && decide (i < 64 * (a / 64 + 1 + 0))) = false := by
            rw [← Bool.decide_and]; exact decide_eq_false (by omega)
          rw [this, Bool.or_false]
        · rintro k w3 ⟨hk, hK3, ws, hBW3, hl3, hb3⟩
          have hst := hBW3.st
          have hwd := hBW3.wd
          refine c_seq ?_
          refine c_seq ?_
          refine c_region ?_
          refine st (y_move rfl) rfl ?_
          refine st (y_move rfl) rfl ?_
          refine st_if (y_lt_u rfl rfl) rfl (fun hlt2 => ?_) (fun hlt2 => ?_)
          · have hj : a / 64 + 1 + k < ws.length := by omega
            refine l_nil ?_
            refine q_then ?_
            refine c_true rfl rfl ?_
            refine c_skip ?_
            refine q_then ?_
            refine c_seq ?_
            refine c_block ?_
            refine c_region ?_
            refine st (y_move rfl) rfl ?_
            refine st (y_nil rfl) rfl ?_
            refine st (fa70_1 rfl) rfl ?_
            refine st (y_loadb rfl one34 (by assumption) (by rfl)) rfl ?_
            refine st (y_move rfl) rfl ?_
            first | refine st (y_index0 rfl rfl Tryd.underlying34 sz38 (by omega)) rfl ?_ | refine st (y_index rfl rfl Tryd.underlying34 sz38 (by omega)) rfl ?_ | refine st (y_indexA rfl rfl Tryd.underlying34 sz38 (by omega)) rfl ?_
            refine st_storeM vU rfl rfl rfl sz38 (by assumption) (by first | omega | (simp only [List.length_append, List.length_map, List.length_replicate, List.length_set, List.length_take, List.length_drop]; omega)) rfl ?_
            intro w4 hw4 hK4 hS4
            refine l_nil ?_
            refine q_block ?_
            refine q_then ?_
            refine c_region ?_
            refine st (y_move rfl) rfl ?_
            refine st (y_add_u (b := 1) rfl rfl (by omega)) rfl ?_
            refine st (y_assign rfl) rfl ?_
            refine l_nil ?_
            refine q_round (k + 1) ⟨rfl, rfl, rfl, rfl, trivial⟩ ⟨by omega, hK3.trans hK4 (fun i hi => .inl hi), _, hBW3.store hw4 hK4 (by decide) hj, by simpa using hl3, fun i => ?_⟩ (by omega)
            rw [all_word hj, hb3, Bool.or_assoc]
            congr 1
            simp only [← Bool.decide_and, ← Bool.decide_or]
            exact decide_eq_decide.2 (by omega)
          ·
            have hke : a / 64 + 1 + k = (b - 1) / 64 := by omega
            have hj : (b - 1) / 64 < ws.length := by omega
            have hg := getD_app (tl := tl) hj
            have hx := getD_lt64 hBW3.lt ((b - 1) / 64)
            refine l_nil ?_
            refine q_then ?_
            refine c_false rfl rfl ?_
            refine c_exit ?_
            refine q_then_exit ?_
            refine q_then_exit ?_
            refine q_block_hit ?_
            refine q_then ?_
            refine c_seq ?_
            refine c_region ?_
            refine st (y_move rfl) rfl ?_
            refine st (y_nil rfl) rfl ?_
            refine st (fa70_1 rfl) rfl ?_
            refine st (y_loadb rfl one34 (by assumption) (by rfl)) rfl ?_
            refine st (y_move rfl) rfl ?_
            first | refine st (y_index0 rfl rfl Tryd.underlying34 sz38 (by omega)) rfl ?_ | refine st (y_index rfl rfl Tryd.underlying34 sz38 (by omega)) rfl ?_ | refine st (y_indexA rfl rfl Tryd.underlying34 sz38 (by omega)) rfl ?_
            first | refine st (y_loadM (0) rfl one38 (by assumption) (by first | omega | (simp only [List.length_append, List.length_map, List.length_replicate, List.length_set, List.length_take, List.length_drop]; omega) | (simp; done))) rfl ?_ | refine st (y_load rfl one38 (by assumption)) rfl ?_
            refine st (y_move rfl) rfl ?_
            refine st (y_or rfl rfl (by first | omega | assumption | (repeat (first | assumption | omega | decide | exact shl_lt64 _ _ | apply and_lt64 | apply or_lt64 | apply xor_lt64 | apply nt_lt | apply shr_lt64 | apply getD_lt64))) (by first | omega | assumption | (repeat (first | assumption | omega | decide | exact shl_lt64 _ _ | apply and_lt64 | apply or_lt64 | apply xor_lt64 | apply nt_lt | apply shr_lt64 | apply getD_lt64)))) rfl ?_
            first | refine st (y_index0 rfl rfl Tryd.underlying34 sz38 (by omega)) rfl ?_ | refine st (y_index rfl rfl Tryd.underlying34 sz38 (by omega)) rfl ?_ | refine st (y_indexA rfl rfl Tryd.underlying34 sz38 (by omega)) rfl ?_
            rw [hg]
            refine st_storeM vU rfl rfl rfl sz38 (by assumption) (by first | omega | (simp only [List.length_append, List.length_map, List.length_replicate, List.length_set, List.length_take, List.length_drop]; omega)) rfl ?_
            intro w4 hw4 hK4 hS4
            refine l_nil ?_
            refine q_then ?_
            refine c_seq ?_
            refine c_region ?_
            refine st (y_move rfl) rfl ?_
            refine st (y_assign rfl) rfl ?_
            refine l_nil ?_
            refine q_then ?_
            refine c_ret ?_
            refine q_end1 (.inl rfl) rfl rfl ?_
            have hBW4 := hBW3.store hw4 hK4 (or_lt64 hx hL64) hj
            refine ⟨_, rfl, rfl, q1, ?_, hq1, (hK1.trans hK3 (fun i hi => by simp only [List.mem_singleton] at hi; subst hi; rcases hq1 with h | h <;> simp [h])).trans hK4 (fun i hi => by simp only [List.mem_singleton] at hi; subst hi; rcases hq1 with h | h <;> simp [h])⟩
            rw [show t.length = (setR s a b).length by omega] at hBW4
            refine hBW4.bset (by rw [List.length_set, hl3, hlen]; congr 1; omega) fun i _ => ?_
            rw [or_word hj, hb3, hbit2, wbit_pack, hXb, hYb, setR_getD hab, htg, ← range3 hab hk2.symm hlt, hke]
            simp only [Bool.or_assoc]

end Go.Proofs.YtepmbglaalkbdaaDoor

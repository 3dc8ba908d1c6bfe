/- Two sets joined, beside and in place: impl.Pair and the statement's own walk. -/
import Derived.Test.YtefhjchhfpjciaaDoorP2
import Derived.Test.YtefhjchhfpjciaaDoorP3
import Derived.Test.YtefhjchhfpjciaaDoorP4
import Derived.Test.YtefhjchhfpjciaaDoorT2
import Derived.Test.YtefhjchhfpjciaaDoorD1
set_option linter.unusedVariables false
set_option linter.unusedSimpArgs false
set_option maxRecDepth 100000
set_option maxHeartbeats 2000000
namespace Go.Proofs.YtefhjchhfpjciaaDoor
open Go Go.RowKit

theorem c_InPlaceIntersection (p q p2 q2 : Nat) (s t : List Bool) (w : World) (hB : BSet w p q s) (hB2 : BSet w p2 q2 t) (hpq : p ≠ p2 ∧ p ≠ q2 ∧ q ≠ p2 ∧ q ≠ q2) (hs : s.length ≤ 10000) (ht : t.length ≤ 10000) :
    Cal Tryd.prog 16 [vP p, vP p2] w fun v w' => v = vT [] ∧ ∃ q3 u, BSet w' p q3 u ∧ nums u = nums (joined gAnd s t) ∧ u.length ≤ max s.length t.length ∧ (q3 = q ∨ w.heap.size ≤ q3) ∧ Keep w w' [p, q] := by
  have hlts := hB.lts
  have hns := pack_length s
  have hnt := pack_length t
  have hns2 : nW s.length ≤ 200 := by unfold nW; omega
  have hnt2 : nW t.length ≤ 200 := by unfold nW; omega
  obtain ⟨tls, hWs⟩ := hB
  obtain ⟨tlt, hWt⟩ := hB2
  have hul := firstS_length gAnd s t
  have hub := firstS_getD gAnd_f s t
  have huw := fun k => joined_word bw_and hub k
  refine go_in' Tryd.func16 rfl Tryd.ntmps16 (Nat.le_of_ble_eq_true rfl) ?_
  refine c_seq ?_
  refine c_region ?_
  refine st (y_move rfl) rfl ?_
  refine sc rfl rfl isfn29 (c_pNull p _) rfl ?_
  rintro _ _ ⟨rfl, rfl⟩
  refine l_nil ?_
  refine q_then ?_
  refine c_seq ?_
  refine c_region ?_
  refine st (y_move rfl) rfl ?_
  refine sc rfl rfl isfn29 (c_pNull p2 _) rfl ?_
  rintro _ _ ⟨rfl, rfl⟩
  refine l_nil ?_
  refine q_then ?_
  refine c_seq ?_
  refine c_region ?_
  refine st (y_move rfl) rfl ?_
  refine sc rfl rfl isfn30 (c_wCount p2 q2 t.length _ _ _ hWt (by omega)) rfl ?_
  rintro _ _ ⟨rfl, rfl⟩
  refine st (y_assign rfl) rfl ?_
  refine l_nil ?_
  refine q_then ?_
  refine c_cut (fun _ : Unit => [(0, vP p), (1, vP p2), (4, vI ((min (nW s.length) (nW t.length) : Nat) : Int))]) (fun _ w' => w' = w) ?_ ?_
  · refine c_seq ?_
    refine c_region ?_
    refine st (y_move rfl) rfl ?_
    refine st (y_move rfl) rfl ?_
    refine sc rfl rfl isfn30 (c_wCount p q s.length _ _ _ hWs (by omega)) rfl ?_
    rintro _ _ ⟨rfl, rfl⟩
    refine st_if (y_gt_i rfl rfl) rfl (fun hg => ?_) (fun hg => ?_)
    · refine l_nil ?_
      refine q_then ?_
      refine c_true rfl rfl ?_
      refine c_region ?_
      refine st (y_move rfl) rfl ?_
      refine sc rfl rfl isfn30 (c_wCount p q s.length _ _ _ hWs (by omega)) rfl ?_
      rintro _ _ ⟨rfl, rfl⟩
      refine st (y_assign rfl) rfl ?_
      refine l_nil ?_
      exact q_meet () ⟨rfl, rfl, by rw [Nat.min_eq_left (show nW s.length ≤ nW t.length by omega)]; rfl, trivial⟩ rfl
    ·
      refine l_nil ?_
      refine q_then ?_
      refine c_false rfl rfl ?_
      refine c_skip ?_
      exact q_meet () ⟨rfl, rfl, by rw [Nat.min_eq_right (show nW t.length ≤ nW s.length by omega)]; rfl, trivial⟩ rfl
  ·
    rintro _ w0 hw0
    subst hw0
    obtain ⟨l, hl⟩ : ∃ l, min (nW s.length) (nW t.length) = l := ⟨_, rfl⟩
    rw [hl]
    refine c_cut (fun _ : List Nat => [(0, vP p), (1, vP p2), (4, vI (l : Nat))]) (fun W w' => BW w' p q s.length W tls ∧ W.length = nW s.length ∧ (∀ j, j < l → W.getD j 0 = wordAt (firstS gAnd s t) j) ∧ Keep w0 w' [q]) ?_ ?_
    · refine c_seq ?_
      refine c_region ?_
      refine st (y_move rfl) rfl ?_
      refine st_if (y_gt_i (b := 0) rfl rfl) rfl (fun h0 => ?_) (fun h0 => ?_)
      · have hWsd := hWs.drew
        have hWtd := hWt.drew
        have hKd := Keep.drew w0 [q]
        have hst1 := hWsd.st
        have hst2 := hWtd.st
        have hwd1 := hWsd.wd
        have hwd2 := hWtd.wd
        refine l_nil ?_
        refine q_then ?_
        refine c_true rfl rfl ?_
        refine c_seq ?_
        refine c_still mixed (by kernel_rfl) ?_
        refine ss (y_move rfl) rfl ?_
        refine ss (y_nil rfl) rfl ?_
        refine ss (fa58_1 rfl) rfl ?_
        refine ss (y_loadb rfl one56 (by assumption) (by rfl)) rfl ?_
        refine ss (y_move rfl) rfl ?_
        refine ss (y_nil rfl) rfl ?_
        refine ss (fa58_1 rfl) rfl ?_
        refine ss (y_loadb rfl one56 (by assumption) (by rfl)) rfl ?_
        refine ss (y_assign rfl) rfl ?_
        refine ss (y_assign rfl) rfl ?_
        refine s_nil ?_
        refine q_then ?_
        refine c_seq ?_
        refine c_region ?_
        refine st (y_move rfl) rfl ?_
        refine st (y_move rfl) rfl ?_
        refine st (y_sub_i (b := 1) rfl rfl (by omega) (by omega)) rfl ?_
        rw [show ((l : Int) - 1) = ((l - 1 : Nat) : Int) by omega]
        first | refine st (y_index0 rfl rfl Tryd.underlying56 sz60 (by omega)) rfl ?_ | refine st (y_index rfl rfl Tryd.underlying56 sz60 (by omega)) rfl ?_ | refine st (y_indexA rfl rfl Tryd.underlying56 sz60 (by omega)) rfl ?_
        first | refine st (y_loadM (0) rfl one60 (by assumption) (by first | omega | (simp only [List.length_append, List.length_map, List.length_replicate, List.length_set, List.length_take, List.length_drop]; omega) | (simp; done))) rfl ?_ | refine st (y_load rfl one60 (by assumption)) rfl ?_
        refine l_nil ?_
        refine q_then ?_
        refine c_seq ?_
        refine c_region ?_
        refine st (y_move rfl) rfl ?_
        refine st (y_move rfl) rfl ?_
        refine st (y_sub_i (b := 1) rfl rfl (by omega) (by omega)) rfl ?_
        rw [show ((l : Int) - 1) = ((l - 1 : Nat) : Int) by omega]
        first | refine st (y_index0 rfl rfl Tryd.underlying56 sz60 (by omega)) rfl ?_ | refine st (y_index rfl rfl Tryd.underlying56 sz60 (by omega)) rfl ?_ | refine st (y_indexA rfl rfl Tryd.underlying56 sz60 (by omega)) rfl ?_
        first | refine st (y_loadM (0) rfl one60 (by assumption) (by first | omega | (simp only [List.length_append, List.length_map, List.length_replicate, List.length_set, List.length_take, List.length_drop]; omega) | (simp; done))) rfl ?_ | refine st (y_load rfl one60 (by assumption)) rfl ?_
        refine l_nil ?_
        refine q_then ?_
        refine c_seq ?_
        refine c_region ?_
        refine st (y_assign (v := vI ((0 : Nat) : Int)) rfl) rfl ?_
        refine l_nil ?_
        refine q_then ?_
        refine c_block ?_
        refine c_loop (fun x : Nat × List Nat => [(0, vP p), (1, vP p2), (4, vI (l : Nat)), (5, vS q (pack s).length ((pack s).length + tls.length)), (6, vS q2 (pack t).length ((pack t).length + tlt.length)), (7, vI (x.1 : Nat))]) (fun x w' => x.1 ≤ l ∧ BW w' p q s.length x.2 tls ∧ x.2.length = nW s.length ∧ (∀ j, x.2.getD j 0 = if j < x.1 then wordAt (firstS gAnd s t) j else wordAt s j) ∧ Keep w0 w' [q]) (fun x => l - x.1) (0, pack s) ?_ ?_ ?_
        · exact ⟨rfl, rfl, rfl, rfl, rfl, rfl, trivial⟩
        · exact ⟨Nat.zero_le _, hWsd, hns, fun j => by simp only; rw [pack_getD, if_neg (by omega)], hKd⟩
        · rintro ⟨k, W⟩ w3 ⟨hk, hW3, hWl, hWj, hK3⟩
          simp only at hk hW3 hWl hWj hK3 ⊢
          have hWt3 := hWt.keep hK3 (by simp only [List.mem_singleton]; omega) (by simp only [List.mem_singleton]; omega)
          refine c_seq ?_
          refine c_seq ?_
          refine c_region ?_
          refine st (y_move rfl) rfl ?_
          refine st (y_move rfl) rfl ?_
          refine st_if (y_lt_i rfl rfl) rfl (fun hlt => ?_) (fun hlt => ?_)
          · have hgs : (W ++ tls).getD k 0 = wordAt s k := by rw [getD_app (by omega), hWj, if_neg (by omega)]
            have hgt : (pack t ++ tlt).getD k 0 = wordAt t k := by rw [getD_app (by omega), pack_getD]
            have hla := wordAt_lt s k
            have hlb := wordAt_lt t k
            have hW3d := hW3.drew
            have hWt3d := hWt3.drew
            refine l_nil ?_
            refine q_then ?_
            refine c_true rfl rfl ?_
            refine c_skip ?_
            refine q_then ?_
            refine c_seq ?_
            refine c_block ?_
            have hwdt3 := hWt3d.wd
            have hwd3 := hW3d.wd
            refine c_tail 10 mixed (by kernel_rfl) ?_
            refine ss (y_move rfl) rfl ?_
            refine ss (y_move rfl) rfl ?_
            first | refine ss (y_index0 rfl rfl Tryd.underlying56 sz60 (by omega)) rfl ?_ | refine ss (y_index rfl rfl Tryd.underlying56 sz60 (by omega)) rfl ?_ | refine ss (y_indexA rfl rfl Tryd.underlying56 sz60 (by omega)) rfl ?_
            first | refine ss (y_loadM (0) rfl one60 (by assumption) (by first | omega | (simp only [List.length_append, List.length_map, List.length_replicate, List.length_set, List.length_take, List.length_drop]; omega) | (simp; done))) rfl ?_ | refine ss (y_load rfl one60 (by assumption)) rfl ?_
            rw [hgs]
            refine ss (y_move rfl) rfl ?_
            refine ss (y_move rfl) rfl ?_
            first | refine ss (y_index0 rfl rfl Tryd.underlying56 sz60 (by omega)) rfl ?_ | refine ss (y_index rfl rfl Tryd.underlying56 sz60 (by omega)) rfl ?_ | refine ss (y_indexA rfl rfl Tryd.underlying56 sz60 (by omega)) rfl ?_
            first | refine ss (y_loadM (0) rfl one60 (by assumption) (by first | omega | (simp only [List.length_append, List.length_map, List.length_replicate, List.length_set, List.length_take, List.length_drop]; omega) | (simp; done))) rfl ?_ | refine ss (y_load rfl one60 (by assumption)) rfl ?_
            rw [hgt]
            refine ss (y_and rfl rfl (by first | omega | assumption | (repeat (first | assumption | omega | decide | exact shl_lt64 _ _ | apply and_lt64 | apply or_lt64 | apply xor_lt64 | apply nt_lt | apply shr_lt64 | apply getD_lt64))) (by first | omega | assumption | (repeat (first | assumption | omega | decide | exact shl_lt64 _ _ | apply and_lt64 | apply or_lt64 | apply xor_lt64 | apply nt_lt | apply shr_lt64 | apply getD_lt64)))) rfl ?_
            first | refine ss (y_index0 rfl rfl Tryd.underlying56 sz60 (by omega)) rfl ?_ | refine ss (y_index rfl rfl Tryd.underlying56 sz60 (by omega)) rfl ?_ | refine ss (y_indexA rfl rfl Tryd.underlying56 sz60 (by omega)) rfl ?_
            refine s_nil ?_
            show wpL _ _ _ _ _ _ _ _
            refine st_storeM vU rfl rfl rfl sz60 (by assumption) (by first | omega | (simp only [List.length_append, List.length_map, List.length_replicate, List.length_set, List.length_take, List.length_drop]; omega)) rfl ?_
            intro w4 hw4 hK4 hS4
            refine l_nil ?_
            refine q_block ?_
            refine q_then ?_
            refine c_region ?_
            refine st (y_move rfl) rfl ?_
            first | refine st (y_add_in (b := 1) rfl rfl (by omega)) rfl ?_ | refine st (y_add_i (b := 1) rfl rfl (by omega) (by omega)) rfl ?_
            refine st (y_assign rfl) rfl ?_
            refine l_nil ?_
            have hW4 := hW3d.store hw4 hK4 (bw_and.2 _ _ hla hlb) (by omega)
            refine q_round (k + 1, _) ⟨rfl, rfl, rfl, rfl, rfl, rfl, trivial⟩ ⟨by simp only; omega, hW4, by simpa using hWl, fun j => ?_, (hK3.trans (Keep.drew w3 []) (by simp)).trans hK4 (fun i hi => .inl hi)⟩ (by simp only; omega)
            simp only
            rw [set_getD_nat _ _ _ _ (by omega), hWj]
            by_cases h1 : j = k
            · rw [if_pos h1, if_pos (by omega), h1, huw]
            · rw [if_neg h1]
              by_cases h2 : j < k
              · rw [if_pos h2, if_pos (by omega)]
              · rw [if_neg h2, if_neg (by omega)]
          ·
            have hke : k = l := by omega
            subst hke
            refine l_nil ?_
            refine q_then ?_
            refine c_false rfl rfl ?_
            refine c_exit ?_
            refine q_then_exit ?_
            refine q_then_exit ?_
            refine q_block_hit ?_
            exact q_meet W ⟨rfl, rfl, rfl, trivial⟩ ⟨hW3, hWl, fun j hj => by rw [hWj, if_pos hj], hK3⟩
      ·
        refine l_nil ?_
        refine q_then ?_
        refine c_false rfl rfl ?_
        refine c_skip ?_
        exact q_meet (pack s) ⟨rfl, rfl, rfl, trivial⟩ ⟨hWs, hns, fun j hj => by omega, Keep.refl _ _⟩
    ·
      rintro W1 w1 ⟨hW1, hW1l, hW1j, hK1⟩
      refine c_cut (fun _ : Unit => [(0, vP p), (1, vP p2)]) (fun _ w' => BSet w' p q (firstS gAnd s t) ∧ Keep w0 w' [q]) ?_ ?_
      · refine c_seq ?_
        refine c_region ?_
        refine st (y_move rfl) rfl ?_
        refine st_t (y_ge_i (b := 0) rfl rfl) (by omega) rfl ?_
        refine l_nil ?_
        refine q_then ?_
        refine c_true rfl rfl ?_
        refine c_seq ?_
        refine c_region ?_
        refine st (y_move rfl) rfl ?_
        refine st (y_assign rfl) rfl ?_
        refine l_nil ?_
        refine q_then ?_
        refine c_block ?_
        refine c_loop (fun x : Nat × List Nat => [(0, vP p), (1, vP p2), (8, vI (x.1 : Nat))]) (fun x w' => l ≤ x.1 ∧ x.1 ≤ nW s.length ∧ BW w' p q s.length x.2 tls ∧ x.2.length = nW s.length ∧ (∀ j, j < x.1 → x.2.getD j 0 = wordAt (firstS gAnd s t) j) ∧ Keep w0 w' [q]) (fun x => nW s.length - x.1) (l, W1) ?_ ?_ ?_
        · exact ⟨rfl, rfl, rfl, trivial⟩
        · exact ⟨Nat.le_refl _, by simp only; omega, hW1, hW1l, hW1j, hK1⟩
        · rintro ⟨k, W⟩ w5 ⟨hk1, hk2, hW5, hWl, hWj, hK5⟩
          simp only at hk1 hk2 hW5 hWl hWj hK5 ⊢
          have hst5 := hW5.st
          have hwd5 := hW5.wd
          refine c_seq ?_
          refine c_seq ?_
          refine c_region ?_
          refine st (y_move rfl) rfl ?_
          refine st (y_move rfl) rfl ?_
          refine st (y_nil rfl) rfl ?_
          refine st (fa58_1 rfl) rfl ?_
          refine st (y_loadb rfl one56 (by assumption) (by rfl)) rfl ?_
          refine st (y_len rfl Tryd.underlying56) rfl ?_
          refine st_if (y_lt_i rfl rfl) rfl (fun hlt => ?_) (fun hlt => ?_)
          · refine l_nil ?_
            refine q_then ?_
            refine c_true rfl rfl ?_
            refine c_skip ?_
            refine q_then ?_
            refine c_seq ?_
            refine c_block ?_
            refine c_region ?_
            refine st (y_move rfl) rfl ?_
            refine st (y_nil rfl) rfl ?_
            refine st (fa58_1 rfl) rfl ?_
            refine st (y_loadb rfl one56 (by assumption) (by rfl)) rfl ?_
            refine st (y_move rfl) rfl ?_
            first | refine st (y_index0 rfl rfl Tryd.underlying56 sz60 (by omega)) rfl ?_ | refine st (y_index rfl rfl Tryd.underlying56 sz60 (by omega)) rfl ?_ | refine st (y_indexA rfl rfl Tryd.underlying56 sz60 (by omega)) rfl ?_
            refine st_storeM vU rfl rfl rfl sz60 (by assumption) (by first | omega | (simp only [List.length_append, List.length_map, List.length_replicate, List.length_set, List.length_take, List.length_drop]; omega)) rfl ?_
            intro w6 hw6 hK6 hS6
            refine l_nil ?_
            refine q_block ?_
            refine q_then ?_
            refine c_region ?_
            refine st (y_move rfl) rfl ?_
            first | refine st (y_add_in (b := 1) rfl rfl (by omega)) rfl ?_ | refine st (y_add_i (b := 1) rfl rfl (by omega) (by omega)) rfl ?_
            refine st (y_assign rfl) rfl ?_
            refine l_nil ?_
            have hW6 := hW5.store hw6 hK6 (by decide) (by omega)
            refine q_round (k + 1, _) ⟨rfl, rfl, rfl, trivial⟩ ⟨by simp only; omega, by simp only; omega, hW6, by simpa using hWl, fun j hj => ?_, hK5.trans hK6 (fun i hi => .inl hi)⟩ (by simp only; omega)
            simp only at hj ⊢
            rw [set_getD_nat _ _ _ _ (by omega)]
            by_cases h1 : j = k
            · rw [if_pos h1, h1, huw, past_word t k (by omega), Nat.and_zero]
            · rw [if_neg h1]; exact hWj j (by omega)
          ·
            refine l_nil ?_
            refine q_then ?_
            refine c_false rfl rfl ?_
            refine c_exit ?_
            refine q_then_exit ?_
            refine q_then_exit ?_
            refine q_block_hit ?_
            exact q_meet () ⟨rfl, rfl, trivial⟩ ⟨hW5.fin hul.symm (by rw [hWl, hul]) (fun j hj => hWj j (by omega)), hK5⟩
      ·
        rintro _ w2 ⟨hS2, hK2⟩
        have hWt2 := hWt.keep hK2 (by simp only [List.mem_singleton]; omega) (by simp only [List.mem_singleton]; omega)
        have hstt := hWt2.st
        have hK2' : Keep w0 w2 [p, q] := hK2.mono (fun i hi => .inl (by simp only [List.mem_singleton] at hi; subst hi; simp))
        have hend := firstS_nums gAnd_f s t
        obtain ⟨tl2, hW2⟩ := id hS2
        refine c_seq ?_
        refine c_region ?_
        refine st (y_move rfl) rfl ?_
        refine st (y_nil rfl) rfl ?_
        refine st (fa58_0 rfl) rfl ?_
        refine st (y_loadb rfl one22 (by assumption) (by rfl)) rfl ?_
        refine st_if (y_gt_u (b := 0) rfl rfl) rfl (fun h1 => ?_) (fun h1 => ?_)
        · have hWtd := hWt2.drew
          have hW2d := hW2.drew
          have hKd := hK2'.trans (Keep.drew w2 []) (by simp)
          have hS2d := hS2.keep (Keep.drew w2 []) (by simp) (by simp)
          have hst1 := hW2d.st
          have hst2 := hWtd.st
          rw [hul] at hst1
          refine l_nil ?_
          refine q_then ?_
          refine c_true rfl rfl ?_
          refine c_seq ?_
          refine c_still mixed (by kernel_rfl) ?_
          refine ss (y_move rfl) rfl ?_
          refine ss (y_nil rfl) rfl ?_
          refine ss (fa58_0 rfl) rfl ?_
          refine ss (y_loadb rfl one22 (by assumption) (by rfl)) rfl ?_
          refine ss (y_sub_u (b := 1) rfl rfl (by omega) (by omega)) rfl ?_
          refine ss (y_move rfl) rfl ?_
          refine ss (y_nil rfl) rfl ?_
          refine ss (fa58_0 rfl) rfl ?_
          refine ss (y_loadb rfl one22 (by assumption) (by rfl)) rfl ?_
          refine ss_if (y_ge_u rfl rfl) rfl (fun h2 => ?_) (fun h2 => ?_)
          · refine s_nil ?_
            refine q_then ?_
            refine c_true rfl rfl ?_
            refine c_region ?_
            refine st (y_move rfl) rfl ?_
            refine st (y_move rfl) rfl ?_
            refine st (y_nil rfl) rfl ?_
            refine st (fa58_0 rfl) rfl ?_
            refine st (y_loadb rfl one22 (by assumption) (by rfl)) rfl ?_
            refine st (y_sub_u (b := 1) rfl rfl (by omega) (by omega)) rfl ?_
            refine sc rfl rfl isfn31 (c_extendSet p q _ _ tl2 (t.length - 1) _ hW2d (by omega) (by rw [pack_length, hul]; exact nW_le _ _ (by omega))) rfl ?_
            rintro _ w4 ⟨rfl, q4, tl4, hW4, hq4, hK4⟩
            refine l_nil ?_
            refine q_end0 (.inr rfl) rfl ?_
            have hx := ext_length (firstS gAnd s t) (t.length - 1 + 1)
            refine ⟨_, rfl, rfl, q4, ext (firstS gAnd s t) (t.length - 1 + 1), ⟨tl4, ?_⟩, by rw [ext_nums]; exact hend, by rw [hx, hul]; omega, ?_, hKd.trans hK4 (fun i hi => .inl hi)⟩
            · rw [hx, Nat.max_eq_right (by omega), pack_ext _ _ (by omega)]
              rw [pack_length] at hW4
              exact hW4
            · have := hKd.size
              rcases hq4 with h | h
              · exact .inl h
              · exact .inr (by omega)
          ·
            refine s_nil ?_
            refine q_then ?_
            refine c_false rfl rfl ?_
            refine c_skip ?_
            refine q_end0 (.inr rfl) rfl ?_
            exact ⟨_, rfl, rfl, q, _, hS2d, hend, by omega, .inl rfl, hKd⟩
        ·
          refine l_nil ?_
          refine q_then ?_
          refine c_false rfl rfl ?_
          refine c_skip ?_
          refine q_end0 (.inr rfl) rfl ?_
          exact ⟨_, rfl, rfl, q, _, hS2, hend, by omega, .inl rfl, hK2'⟩

theorem c_implBoth2 (L : Nat) (A : Option Addr) (n c : Nat) (xs : List Nat) (M : Nat) (B : Option Addr) (m d : Nat) (ys : List Nat) (w : World) (hRx : Rd w A n xs) (hRy : Rd w B m ys) (hL : L ≤ 6000) (hx : ∀ x ∈ xs, x ≤ 6000) (hM : M ≤ 6000) (hy : ∀ y ∈ ys, y ≤ 6000) :
    Cal Tryd.prog 14 [aB L A n c, aB M B m d] w fun v w' => ∃ p q p2 q2, v = vT [vP p, vP p2, vB true] ∧ BSet w' p q (mkS L xs) ∧ BSet w' p2 q2 (mkS M ys) ∧ (p ≠ p2 ∧ p ≠ q2 ∧ q ≠ p2 ∧ q ≠ q2) ∧ w.heap.size ≤ p ∧ w.heap.size ≤ q ∧ w.heap.size ≤ p2 ∧ w.heap.size ≤ q2 ∧ Keep w w' [] := by
  refine go_in' Tryd.func14 rfl Tryd.ntmps14 (Nat.le_of_ble_eq_true rfl) ?_
  refine c_seq ?_
  refine c_region ?_
  refine st_box _ rfl rfl rfl ?_
  intro b1 w1 hb1 hB1 hK1 hS1
  refine st_box _ rfl rfl rfl ?_
  intro b2 w2 hb2 hB2 hK2 hS2
  have hB1 := hB1.keep hK2 (by simp only [List.mem_cons, List.not_mem_nil, or_false, not_or, not_false_eq_true] <;> omega)
  have hK12 := hK1.trans hK2 (by simp)
  refine st (y_assign rfl) rfl ?_
  refine st (y_assign rfl) rfl ?_
  refine st (y_assign rfl) rfl ?_
  refine l_nil ?_
  refine q_then ?_
  refine c_seq ?_
  refine c_region ?_
  refine st (y_loadagg rfl agg25 us25 sz25 (by assumption) (by simp) (by rfl)) rfl ?_
  refine sc rfl rfl isfn28 (c_made L A n c xs _ (hRx.keep hK12 (by simp)) hL hx) rfl ?_
  rintro _ w3 ⟨p, q, rfl, hp, hq, hS, hK3⟩
  have hB1 := hB1.keep hK3 (by simp only [List.mem_cons, List.not_mem_nil, or_false, not_or, not_false_eq_true] <;> omega)
  have hB2 := hB2.keep hK3 (by simp only [List.mem_cons, List.not_mem_nil, or_false, not_or, not_false_eq_true] <;> omega)
  have hK13 := hK12.trans hK3 (by simp)
  have hlts := hS.lts
  have hs3 := hK3.size
  have hs12 := hK12.size
  refine st (y_move rfl) rfl ?_
  refine st (y_extract rfl rfl) rfl ?_
  refine st (y_extract rfl rfl) rfl ?_
  refine st (y_assign rfl) rfl ?_
  refine st (y_assign rfl) rfl ?_
  refine l_nil ?_
  refine q_then ?_
  refine c_seq ?_
  refine c_region ?_
  refine st (y_loadagg rfl agg25 us25 sz25 (by assumption) (by simp) (by rfl)) rfl ?_
  refine sc rfl rfl isfn28 (c_made M B m d ys _ (hRy.keep hK13 (by simp)) hM hy) rfl ?_
  rintro _ w4 ⟨p2, q2, rfl, hp2, hq2, hT, hK4⟩
  refine st (y_move rfl) rfl ?_
  refine st (y_extract rfl rfl) rfl ?_
  refine st (y_extract rfl rfl) rfl ?_
  refine st (y_assign rfl) rfl ?_
  refine st (y_assign rfl) rfl ?_
  refine l_nil ?_
  refine q_then ?_
  refine c_seq ?_
  refine c_region ?_
  refine st (y_move rfl) rfl ?_
  refine st (y_move rfl) rfl ?_
  refine st (y_move rfl) rfl ?_
  refine st (y_move rfl) rfl ?_
  refine stg rfl rfl (y_move rfl) rfl ?_
  refine st (y_pickT rfl rfl) rfl ?_
  refine st (y_assign rfl) rfl ?_
  refine st (y_assign rfl) rfl ?_
  refine st (y_assign rfl) rfl ?_
  refine l_nil ?_
  refine q_then ?_
  refine c_ret ?_
  refine q_end3 (.inl rfl) rfl rfl rfl rfl ?_
  exact ⟨_, rfl, p, q, p2, q2, rfl, hS.keep hK4 (by simp) (by simp), hT, ⟨by omega, by omega, by omega, by omega⟩, by omega, by omega, by omega, by omega, hK13.trans hK4 (by simp)⟩


theorem c_implPair (k : Nat) (hk : k < 4) (y : Bool) (L : Nat) (A : Option Addr) (n c : Nat) (xs : List Nat) (M : Nat) (B : Option Addr) (m d : Nat) (ys : List Nat) (w : World) (hT : Tb w) (hRx : Rd w A n xs) (hRy : Rd w B m ys) (hL : L ≤ 6000) (hx : ∀ x ∈ xs, x ≤ 6000) (hM : M ≤ 6000) (hy : ∀ y ∈ ys, y ≤ 6000) :
    Cal Tryd.prog 7 [vI (k : Nat), vB y, aB L A n c, aB M B m d] w fun v w' => ∃ u A' c', v = aB u.length A' (nums u).length c' ∧ nums u = nums (joined (tabf (tabs.getD k [])) (mkS L xs) (mkS M ys)) ∧ Ow w' w.heap.size 22 (.slice A' (nums u).length c') ((nums u).map vU) ∧ Keep w w' [] := by
  have hlen : (mkS L xs).length ≤ 6001 := mkS_length_le L 6001 xs (by omega) fun x h => by have := hx x h; omega
  have hlen2 : (mkS M ys).length ≤ 6001 := mkS_length_le M 6001 ys (by omega) fun x h => by have := hy x h; omega
  have hT0 := hT.1
  have e0 : joined (tabf (tabs.getD 0 [])) (mkS L xs) (mkS M ys) = joined gOr (mkS L xs) (mkS M ys) := congrArg (fun g => joined g _ _) tab0
  have e1 : joined (tabf (tabs.getD 1 [])) (mkS L xs) (mkS M ys) = joined gAnd (mkS L xs) (mkS M ys) := congrArg (fun g => joined g _ _) tab1
  have e2 : joined (tabf (tabs.getD 2 [])) (mkS L xs) (mkS M ys) = joined gDif (mkS L xs) (mkS M ys) := congrArg (fun g => joined g _ _) tab2
  have e3 : joined (tabf (tabs.getD 3 [])) (mkS L xs) (mkS M ys) = joined gXor (mkS L xs) (mkS M ys) := congrArg (fun g => joined g _ _) tab3
  refine go_in' Tryd.func7 rfl Tryd.ntmps7 (Nat.le_of_ble_eq_true rfl) ?_
  refine c_seq ?_
  refine c_region ?_
  refine st_box _ rfl rfl rfl ?_
  intro b1 w1 hb1 hB1 hK1 hS1
  refine st_box _ rfl rfl rfl ?_
  intro b2 w2 hb2 hB2 hK2 hS2
  have hB1 := hB1.keep hK2 (by simp only [List.mem_cons, List.not_mem_nil, or_false, not_or, not_false_eq_true] <;> omega)
  have hK12 := hK1.trans hK2 (by simp)
  refine st_alloc [.int .u64 0, .slice none 0 0] zv25 rfl rfl ?_
  intro b3 w3 hb3 hB3 hK3 hS3
  have hB1 := hB1.keep hK3 (by simp only [List.mem_cons, List.not_mem_nil, or_false, not_or, not_false_eq_true] <;> omega)
  have hB2 := hB2.keep hK3 (by simp only [List.mem_cons, List.not_mem_nil, or_false, not_or, not_false_eq_true] <;> omega)
  have hK13 := hK12.trans hK3 (by simp)
  refine l_nil ?_
  refine q_then ?_
  refine c_seq ?_
  refine c_region ?_
  refine st (y_loadagg rfl agg25 us25 sz25 (by assumption) (by simp) (by rfl)) rfl ?_
  refine st (y_loadagg rfl agg25 us25 sz25 (by assumption) (by simp) (by rfl)) rfl ?_
  refine sc rfl rfl isfn14 (c_implBoth2 L A n c xs M B m d ys _ (hRx.keep hK13 (by simp)) (hRy.keep hK13 (by simp)) hL hx hM hy) rfl ?_
  rintro _ w4 ⟨p, q, p2, q2, rfl, hS, hS2', hpq, hp, hq, hp2, hq2, hK4⟩
  have hB3 := hB3.keep hK4 (by simp only [List.mem_cons, List.not_mem_nil, or_false, not_or, not_false_eq_true] <;> omega)
  have hK14 := hK13.trans hK4 (by simp)
  have hsz3 := hK13.size
  have hsz4 := hK4.size
  have hb3l := hB3.lt
  clear hB1 hB2
  refine st (y_move rfl) rfl ?_
  refine st (y_extract rfl rfl) rfl ?_
  refine st (y_extract rfl rfl) rfl ?_
  refine st (y_extract rfl rfl) rfl ?_
  refine st (y_assign rfl) rfl ?_
  refine st (y_assign rfl) rfl ?_
  refine st (y_assign rfl) rfl ?_
  refine l_nil ?_
  refine q_then ?_
  refine c_seq ?_
  refine c_seq ?_
  refine c_region ?_
  refine st (y_move rfl) rfl ?_
  refine st (y_not rfl) rfl ?_
  refine st (y_move rfl) rfl ?_
  refine stg rfl rfl (y_move rfl) rfl ?_
  refine stg_f rfl rfl (y_lt_i (b := 0) rfl rfl) (by omega) rfl ?_
  refine st (y_pickF rfl rfl) rfl ?_
  refine st (y_move rfl) rfl ?_
  refine stg rfl rfl (y_move rfl) rfl ?_
  refine stg_f rfl rfl (y_gt_i (b := 3) rfl rfl) (by omega) rfl ?_
  refine st (y_pickF rfl rfl) rfl ?_
  refine l_nil ?_
  refine q_then ?_
  refine c_false rfl rfl ?_
  refine c_skip ?_
  refine q_then ?_
  refine c_seq ?_
  refine c_seq ?_
  refine c_region ?_
  refine st (y_move rfl) rfl ?_
  refine l_nil ?_
  refine q_then ?_
  refine c_ifb rfl (fun hy0 => ?_) (fun hy0 => ?_)
  ·
    refine c_cut (fun _ : List Bool => [(8, vP b3), (9, vP p)]) (fun u w5 => ∃ q5, nums u = nums (joined (tabf (tabs.getD k [])) (mkS L xs) (mkS M ys)) ∧ u.length ≤ 6001 ∧ BSet w5 p q5 u ∧ (q5 = q ∨ w4.heap.size ≤ q5) ∧ Keep w4 w5 [p, q]) ?_ ?_
    · refine c_seq ?_
      refine c_region ?_
      refine st (y_move rfl) rfl ?_
      refine l_nil ?_
      refine q_then ?_
      refine c_block ?_
      refine c_seq ?_
      refine c_region ?_
      refine st_if (y_eq_i (b := 0) rfl rfl) rfl (fun h0 => ?_) (fun h0 => ?_)
      · have e : k = 0 := by omega
        subst e
        refine st (y_assign rfl) rfl ?_
        refine l_nil ?_
        refine q_then ?_
        refine c_true rfl rfl ?_
        refine c_region ?_
        refine st (y_move rfl) rfl ?_
        refine st (y_move rfl) rfl ?_
        refine sc rfl rfl isfn15 (c_InPlaceUnion p q p2 q2 _ _ _ hS hS2' hpq (by omega) (by omega)) rfl ?_
        rintro _ w5 ⟨rfl, q5, u, hS5, hnu, hul, hq5, hK5⟩
        refine l_nil ?_
        refine q_block ?_
        exact q_meet u ⟨rfl, rfl, trivial⟩ ⟨q5, by rw [e0]; exact hnu, by omega, hS5, hq5, hK5⟩
      ·
        refine st (y_assign rfl) rfl ?_
        refine l_nil ?_
        refine q_then ?_
        refine c_false rfl rfl ?_
        refine c_seq ?_
        refine c_region ?_
        refine st_if (y_eq_i (b := 1) rfl rfl) rfl (fun h1 => ?_) (fun h1 => ?_)
        · have e : k = 1 := by omega
          subst e
          refine st (y_assign rfl) rfl ?_
          refine l_nil ?_
          refine q_then ?_
          refine c_true rfl rfl ?_
          refine c_region ?_
          refine st (y_move rfl) rfl ?_
          refine st (y_move rfl) rfl ?_
          refine sc rfl rfl isfn16 (c_InPlaceIntersection p q p2 q2 _ _ _ hS hS2' hpq (by omega) (by omega)) rfl ?_
          rintro _ w5 ⟨rfl, q5, u, hS5, hnu, hul, hq5, hK5⟩
          refine l_nil ?_
          refine q_block ?_
          exact q_meet u ⟨rfl, rfl, trivial⟩ ⟨q5, by rw [e1]; exact hnu, by omega, hS5, hq5, hK5⟩
        ·
          refine st (y_assign rfl) rfl ?_
          refine l_nil ?_
          refine q_then ?_
          refine c_false rfl rfl ?_
          refine c_seq ?_
          refine c_region ?_
          refine st_if (y_eq_i (b := 2) rfl rfl) rfl (fun h2 => ?_) (fun h2 => ?_)
          · have e : k = 2 := by omega
            subst e
            refine st (y_assign rfl) rfl ?_
            refine l_nil ?_
            refine q_then ?_
            refine c_true rfl rfl ?_
            refine c_region ?_
            refine st (y_move rfl) rfl ?_
            refine st (y_move rfl) rfl ?_
            refine sc rfl rfl isfn17 (c_InPlaceDifference p q p2 q2 _ _ _ hS hS2' hpq (by omega) (by omega)) rfl ?_
            rintro _ w5 ⟨rfl, q5, u, hS5, hnu, hul, hq5, hK5⟩
            refine l_nil ?_
            refine q_block ?_
            exact q_meet u ⟨rfl, rfl, trivial⟩ ⟨q5, by rw [e2]; exact hnu, by omega, hS5, hq5, hK5⟩
          ·
            have e : k = 3 := by omega
            subst e
            refine st (y_assign rfl) rfl ?_
            refine l_nil ?_
            refine q_then ?_
            refine c_false rfl rfl ?_
            refine c_seq ?_
            refine c_region ?_
            refine st_t (y_eq_i (b := 3) rfl rfl) (by omega) rfl ?_
            refine st (y_assign rfl) rfl ?_
            refine l_nil ?_
            refine q_then ?_
            refine c_true rfl rfl ?_
            refine c_region ?_
            refine st (y_move rfl) rfl ?_
            refine st (y_move rfl) rfl ?_
            refine sc rfl rfl isfn18 (c_InPlaceSymmetricDifference p q p2 q2 _ _ _ hS hS2' hpq (by omega) (by omega)) rfl ?_
            rintro _ w5 ⟨rfl, q5, u, hS5, hnu, hul, hq5, hK5⟩
            refine l_nil ?_
            refine q_block ?_
            exact q_meet u ⟨rfl, rfl, trivial⟩ ⟨q5, by rw [e3]; exact hnu, by omega, hS5, hq5, hK5⟩
    ·
      rintro u w5 ⟨q5, hnu, hul, hS5, hq5, hK5⟩
      have hB35 := hB3.keep hK5 (by simp only [List.mem_cons, List.not_mem_nil, or_false]; omega)
      have hK15 := hK14.trans hK5 (fun i hi => by simp only [List.mem_cons, List.not_mem_nil, or_false] at hi; exact .inr (by omega))
      have hsz5 := hK5.size
      refine c_seq ?_
      refine c_region ?_
      refine st (y_move rfl) rfl ?_
      refine sc rfl rfl isfn19 (c_told p q5 _ _ (hT.keep hK15 (by simp)) hS5 (by omega)) rfl ?_
      rintro _ w6 ⟨A6, c6, rfl, hO6, hK6⟩
      have hB35 := hB35.keep hK6 (by simp only [List.mem_cons, List.not_mem_nil, or_false, not_or, not_false_eq_true] <;> omega)
      have hK16 := hK15.trans hK6 (by simp)
      refine st_storeagg rfl rfl (by simp [Value.oneCell']) sz25 rfl (by assumption) (by simp) rfl ?_
      intro w7 hB7 hK7 hS7
      refine l_nil ?_
      refine q_then ?_
      refine c_ret ?_
      refine q_then_ret ?_
      refine q_endc (.inl rfl) rfl rfl agg25 us25 sz25 (by assumption) (by rfl) ?_
      exact ⟨_, rfl, u, A6, c6, rfl, hnu, (hO6.keep hK7 (fun i hi => by simp only [List.mem_singleton] at hi; left; omega)).base (by omega), hK16.trans hK7 (fun i hi => by simp only [List.mem_singleton] at hi; exact .inr (by omega))⟩
  ·
    refine c_skip ?_
    refine q_then ?_
    refine c_cut (fun x : Nat × List Bool => [(8, vP b3), (9, vP x.1)]) (fun x w5 => ∃ q5, nums x.2 = nums (joined (tabf (tabs.getD k [])) (mkS L xs) (mkS M ys)) ∧ x.2.length ≤ 6001 ∧ BSet w5 x.1 q5 x.2 ∧ Keep w4 w5 []) ?_ ?_
    · refine c_seq ?_
      refine c_region ?_
      refine st (y_move rfl) rfl ?_
      refine l_nil ?_
      refine q_then ?_
      refine c_block ?_
      refine c_seq ?_
      refine c_region ?_
      refine st_if (y_eq_i (b := 0) rfl rfl) rfl (fun h0 => ?_) (fun h0 => ?_)
      · have e : k = 0 := by omega
        subst e
        refine st (y_assign rfl) rfl ?_
        refine l_nil ?_
        refine q_then ?_
        refine c_true rfl rfl ?_
        refine c_region ?_
        refine st (y_move rfl) rfl ?_
        refine st (y_move rfl) rfl ?_
        refine sc rfl rfl isfn20 (c_UnionB p q p2 q2 _ _ _ hS hS2' (by omega) (by omega)) rfl ?_
        rintro _ w5 ⟨p5, q5, u, rfl, hp5, hq5, hS5, hnu, hul, hK5⟩
        refine st (y_assign rfl) rfl ?_
        refine l_nil ?_
        refine q_block ?_
        exact q_meet (p5, u) ⟨rfl, rfl, trivial⟩ ⟨q5, by rw [e0]; exact hnu, by simp only; omega, hS5, hK5⟩
      ·
        refine st (y_assign rfl) rfl ?_
        refine l_nil ?_
        refine q_then ?_
        refine c_false rfl rfl ?_
        refine c_seq ?_
        refine c_region ?_
        refine st_if (y_eq_i (b := 1) rfl rfl) rfl (fun h1 => ?_) (fun h1 => ?_)
        · have e : k = 1 := by omega
          subst e
          refine st (y_assign rfl) rfl ?_
          refine l_nil ?_
          refine q_then ?_
          refine c_true rfl rfl ?_
          refine c_region ?_
          refine st (y_move rfl) rfl ?_
          refine st (y_move rfl) rfl ?_
          refine sc rfl rfl isfn21 (c_IntersectionB p q p2 q2 _ _ _ hS hS2' (by omega) (by omega)) rfl ?_
          rintro _ w5 ⟨p5, q5, u, rfl, hp5, hq5, hS5, hnu, hul, hK5⟩
          refine st (y_assign rfl) rfl ?_
          refine l_nil ?_
          refine q_block ?_
          exact q_meet (p5, u) ⟨rfl, rfl, trivial⟩ ⟨q5, by rw [e1]; exact hnu, by simp only; omega, hS5, hK5⟩
        ·
          refine st (y_assign rfl) rfl ?_
          refine l_nil ?_
          refine q_then ?_
          refine c_false rfl rfl ?_
          refine c_seq ?_
          refine c_region ?_
          refine st_if (y_eq_i (b := 2) rfl rfl) rfl (fun h2 => ?_) (fun h2 => ?_)
          · have e : k = 2 := by omega
            subst e
            refine st (y_assign rfl) rfl ?_
            refine l_nil ?_
            refine q_then ?_
            refine c_true rfl rfl ?_
            refine c_region ?_
            refine st (y_move rfl) rfl ?_
            refine st (y_move rfl) rfl ?_
            refine sc rfl rfl isfn22 (c_DifferenceB p q p2 q2 _ _ _ hS hS2' (by omega) (by omega)) rfl ?_
            rintro _ w5 ⟨p5, q5, u, rfl, hp5, hq5, hS5, hnu, hul, hK5⟩
            refine st (y_assign rfl) rfl ?_
            refine l_nil ?_
            refine q_block ?_
            exact q_meet (p5, u) ⟨rfl, rfl, trivial⟩ ⟨q5, by rw [e2]; exact hnu, by simp only; omega, hS5, hK5⟩
          ·
            have e : k = 3 := by omega
            subst e
            refine st (y_assign rfl) rfl ?_
            refine l_nil ?_
            refine q_then ?_
            refine c_false rfl rfl ?_
            refine c_seq ?_
            refine c_region ?_
            refine st_t (y_eq_i (b := 3) rfl rfl) (by omega) rfl ?_
            refine st (y_assign rfl) rfl ?_
            refine l_nil ?_
            refine q_then ?_
            refine c_true rfl rfl ?_
            refine c_region ?_
            refine st (y_move rfl) rfl ?_
            refine st (y_move rfl) rfl ?_
            refine sc rfl rfl isfn23 (c_SymmetricDifferenceB p q p2 q2 _ _ _ hS hS2' (by omega) (by omega)) rfl ?_
            rintro _ w5 ⟨p5, q5, u, rfl, hp5, hq5, hS5, hnu, hul, hK5⟩
            refine st (y_assign rfl) rfl ?_
            refine l_nil ?_
            refine q_block ?_
            exact q_meet (p5, u) ⟨rfl, rfl, trivial⟩ ⟨q5, by rw [e3]; exact hnu, by simp only; omega, hS5, hK5⟩
    ·
      rintro ⟨p5, u⟩ w5 ⟨q5, hnu, hul, hS5, hK5⟩
      simp only at hnu hul hS5 ⊢
      have hB35 := hB3.keep hK5 (by simp)
      have hK15 := hK14.trans hK5 (by simp)
      have hsz5 := hK5.size
      refine c_seq ?_
      refine c_region ?_
      refine st (y_move rfl) rfl ?_
      refine sc rfl rfl isfn19 (c_told p5 q5 _ _ (hT.keep hK15 (by simp)) hS5 (by omega)) rfl ?_
      rintro _ w6 ⟨A6, c6, rfl, hO6, hK6⟩
      have hB35 := hB35.keep hK6 (by simp only [List.mem_cons, List.not_mem_nil, or_false, not_or, not_false_eq_true] <;> omega)
      have hK16 := hK15.trans hK6 (by simp)
      refine st_storeagg rfl rfl (by simp [Value.oneCell']) sz25 rfl (by assumption) (by simp) rfl ?_
      intro w7 hB7 hK7 hS7
      refine l_nil ?_
      refine q_then ?_
      refine c_ret ?_
      refine q_endc (.inl rfl) rfl rfl agg25 us25 sz25 (by assumption) (by rfl) ?_
      exact ⟨_, rfl, u, A6, c6, rfl, hnu, (hO6.keep hK7 (fun i hi => by simp only [List.mem_singleton] at hi; left; omega)).base (by omega), hK16.trans hK7 (fun i hi => by simp only [List.mem_singleton] at hi; exact .inr (by omega))⟩

theorem c_FnPair (k : Nat) (y : Bool) (L : Nat) (A : Option Addr) (n c : Nat) (xs : List Nat) (M : Nat) (B : Option Addr) (m d : Nat) (ys : List Nat) (w : World) (hT : Tb w) (hR : Rd w A n xs) (hR2 : Rd w B m ys) (hk : k < 256) :
    Cal Tryd.prog 3 [v8 k, vB y, aB L A n c, aB M B m d] w fun v w' => v = vB true ∧ Keep w w' [] := by
  have hT0 := hT.1
  have hk4 : k % 4 < 4 := Nat.mod_lt _ (by decide)
  refine go_in' Tryd.func3 rfl Tryd.ntmps3 (Nat.le_of_ble_eq_true rfl) ?_
  refine c_seq ?_
  refine c_region ?_
  refine st_box _ rfl rfl rfl ?_
  intro b1 w1 hb1 hB1 hK1 hS1
  refine st_box _ rfl rfl rfl ?_
  intro b2 w2 hb2 hB2 hK2 hS2
  have hB1 := hB1.keep hK2 (by simp only [List.mem_cons, List.not_mem_nil, or_false, not_or, not_false_eq_true] <;> omega)
  have hK12 := hK1.trans hK2 (by simp)
  refine st (y_assign rfl) rfl ?_
  refine l_nil ?_
  refine q_then ?_
  refine c_seq ?_
  refine c_seq ?_
  refine c_region ?_
  refine st (y_loadagg rfl agg25 us25 sz25 (by assumption) (by simp) (by rfl)) rfl ?_
  refine sc rfl rfl isfn4 (c_zzFits1 L A n c _) rfl ?_
  rintro _ w3 ⟨rfl, hK3⟩
  have hB1 := hB1.keep hK3 (by simp only [List.mem_cons, List.not_mem_nil, or_false, not_or, not_false_eq_true] <;> omega)
  have hB2 := hB2.keep hK3 (by simp only [List.mem_cons, List.not_mem_nil, or_false, not_or, not_false_eq_true] <;> omega)
  have hK13 := hK12.trans hK3 (by simp)
  clear hK1 hK2 hK12 hK3
  refine st (y_not rfl) rfl ?_
  obtain ⟨z, hz⟩ : ∃ z, (!decide (n ≤ 2147483647)) = z := ⟨_, rfl⟩
  rw [hz]
  cases z
  ·
    refine st (y_move rfl) rfl ?_
    refine stg rfl rfl (y_loadagg rfl agg25 us25 sz25 (by assumption) (by simp) (by rfl)) rfl ?_
    refine scg rfl rfl rfl rfl isfn4 (c_zzFits1 M B m d _) rfl ?_
    rintro _ w4 ⟨rfl, hK4⟩
    have hB1 := hB1.keep hK4 (by simp only [List.mem_cons, List.not_mem_nil, or_false, not_or, not_false_eq_true] <;> omega)
    have hB2 := hB2.keep hK4 (by simp only [List.mem_cons, List.not_mem_nil, or_false, not_or, not_false_eq_true] <;> omega)
    have hK14 := hK13.trans hK4 (by simp)
    refine stg rfl rfl (y_not rfl) rfl ?_
    refine st (y_pickF rfl rfl) rfl ?_
    refine l_nil ?_
    refine q_then ?_
    refine c_ifb rfl (fun hz2 => ?_) (fun hz2 => ?_)
    · refine c_seq ?_
      refine c_region ?_
      refine st (y_assign rfl) rfl ?_
      refine l_nil ?_
      refine q_then ?_
      refine c_ret ?_
      refine q_then_ret ?_
      refine q_end1 (.inl rfl) rfl rfl ?_
      exact ⟨_, rfl, rfl, hK14⟩
    ·
      refine c_skip ?_
      refine q_then ?_
      refine c_seq ?_
      refine c_region ?_
      refine st (y_loadagg rfl agg25 us25 sz25 (by assumption) (by simp) (by rfl)) rfl ?_
      refine st (y_loadagg rfl agg25 us25 sz25 (by assumption) (by simp) (by rfl)) rfl ?_
      refine sc rfl rfl isfn5 (c_lawsBoth L A n c xs M B m d ys _ (hR.keep hK14 (by simp)) (hR2.keep hK14 (by simp))) rfl ?_
      rintro _ w5 ⟨hK5, ⟨ho, ho2, b, b', rfl, hBl, hBl2, hb, hb'⟩ | ⟨x, y, rfl⟩⟩
      · have hB1 := hB1.keep hK5 (by simp only [List.mem_cons, List.not_mem_nil, or_false, not_or, not_false_eq_true] <;> omega)
        have hB2 := hB2.keep hK5 (by simp only [List.mem_cons, List.not_mem_nil, or_false, not_or, not_false_eq_true] <;> omega)
        have hK15 := hK14.trans hK5 (by simp)
        have hls := ho.len
        have hlt := ho2.len
        clear hK4 hK14 hK5 hK13
        refine st (y_move rfl) rfl ?_
        refine st (y_extract rfl rfl) rfl ?_
        refine st (y_extract rfl rfl) rfl ?_
        refine st (y_extract rfl rfl) rfl ?_
        refine st (y_assign rfl) rfl ?_
        refine st (y_assign rfl) rfl ?_
        refine st (y_assign rfl) rfl ?_
        refine l_nil ?_
        refine q_then ?_
        refine c_seq ?_
        refine c_region ?_
        refine st (y_move rfl) rfl ?_
        refine st (y_rem_8 (b := 4) rfl rfl (by omega)) rfl ?_
        refine st (y_conv_8i rfl us5 Tryd.underlying3 (by omega)) rfl ?_
        refine st (y_assign rfl) rfl ?_
        refine l_nil ?_
        refine q_then ?_
        refine c_seq ?_
        refine c_region ?_
        refine st (y_move rfl) rfl ?_
        refine st (y_not rfl) rfl ?_
        refine st (y_move rfl) rfl ?_
        refine stg rfl rfl (y_move rfl) rfl ?_
        refine stg rfl rfl (y_move rfl) rfl ?_
        refine stg rfl rfl (y_loadagg rfl agg25 us25 sz25 (by assumption) (by simp) (by rfl)) rfl ?_
        refine stg rfl rfl (y_loadagg rfl agg25 us25 sz25 (by assumption) (by simp) (by rfl)) rfl ?_
        refine scg rfl rfl rfl rfl isfn7 (c_implPair (k % 4) hk4 y L A n c xs M B m d ys _ (hT.keep hK15 (by simp)) (hR.keep hK15 (by simp)) (hR2.keep hK15 (by simp)) (by have := ho.1; omega) (fun x h => by have := ho.2.2 x h; omega) (by have := ho2.1; omega) (fun x h => by have := ho2.2.2 x h; omega)) rfl ?_
        rintro _ w6 ⟨u, A6, c6, rfl, hnu, hO6, hK6⟩
        have hBl := hBl.keep hK6 (by simp only [List.mem_cons, List.not_mem_nil, or_false, not_or, not_false_eq_true] <;> omega)
        have hBl2 := hBl2.keep hK6 (by simp only [List.mem_cons, List.not_mem_nil, or_false, not_or, not_false_eq_true] <;> omega)
        have hK16 := hK15.trans hK6 (by simp)
        refine stg rfl rfl (y_move rfl) rfl ?_
        refine stg rfl rfl (y_move rfl) rfl ?_
        refine stg rfl rfl (y_move rfl) rfl ?_
        refine scg rfl rfl rfl rfl isfn9 (c_table (k % 4) hk4 _) rfl ?_
        rintro _ w7 ⟨rfl, hK7⟩
        have hBl := hBl.keep hK7 (by simp only [List.mem_cons, List.not_mem_nil, or_false, not_or, not_false_eq_true] <;> omega)
        have hBl2 := hBl2.keep hK7 (by simp only [List.mem_cons, List.not_mem_nil, or_false, not_or, not_false_eq_true] <;> omega)
        have hK17 := hK16.trans hK7 (by simp)
        refine scg rfl rfl rfl rfl isfn8 (c_Joined b b' _ _ (tabs.getD (k % 4) []) (tabs_len hk4) _ hBl hBl2 (by omega) (by omega)) rfl ?_
        rintro _ w8 ⟨j1, rfl, hJ1, hj1, hK8⟩
        have hK18 := hK17.trans hK8 (by simp)
        have hjl := joined_length (tabf (tabs.getD (k % 4) [])) (mkS L xs) (mkS M ys)
        refine scg rfl rfl rfl rfl isfn6 (c_is _ _ _ _ _ _ _ _ _ _ ((hO6.rd'.keep hK7 (by simp)).keep hK8 (by simp)) (hJ1.rdB (by omega)) (by omega) hnu) rfl ?_
        rintro _ w9 ⟨rfl, hK9⟩
        have hK19 := hK18.trans hK9 (by simp)
        refine stg rfl rfl (y_move rfl) rfl ?_
        refine scg rfl rfl rfl rfl isfn10 (c_alive _ (hT.keep hK19 (by simp))) rfl ?_
        rintro _ w10 ⟨rfl, hK10⟩
        refine stg rfl rfl (y_pickT rfl rfl) rfl ?_
        refine st (y_pickF rfl rfl) rfl ?_
        refine st (y_assign rfl) rfl ?_
        refine l_nil ?_
        refine q_then ?_
        refine c_ret ?_
        refine q_end1 (.inl rfl) rfl rfl ?_
        exact ⟨_, rfl, rfl, hK19.trans hK10 (by simp)⟩
      ·
        refine st (y_move rfl) rfl ?_
        refine st (y_extract rfl rfl) rfl ?_
        refine st (y_extract rfl rfl) rfl ?_
        refine st (y_extract rfl rfl) rfl ?_
        refine st (y_assign rfl) rfl ?_
        refine st (y_assign rfl) rfl ?_
        refine st (y_assign rfl) rfl ?_
        refine l_nil ?_
        refine q_then ?_
        refine c_seq ?_
        refine c_region ?_
        refine st (y_move rfl) rfl ?_
        refine st (y_rem_8 (b := 4) rfl rfl (by omega)) rfl ?_
        refine st (y_conv_8i rfl us5 Tryd.underlying3 (by omega)) rfl ?_
        refine st (y_assign rfl) rfl ?_
        refine l_nil ?_
        refine q_then ?_
        refine c_seq ?_
        refine c_region ?_
        refine st (y_move rfl) rfl ?_
        refine st (y_not rfl) rfl ?_
        refine st (y_move rfl) rfl ?_
        refine sno rfl rfl rfl rfl ?_
        refine sno rfl rfl rfl rfl ?_
        refine sno rfl rfl rfl rfl ?_
        refine sno rfl rfl rfl rfl ?_
        refine sno rfl rfl rfl rfl ?_
        refine sno rfl rfl rfl rfl ?_
        refine sno rfl rfl rfl rfl ?_
        refine sno rfl rfl rfl rfl ?_
        refine sno rfl rfl rfl rfl ?_
        refine sno rfl rfl rfl rfl ?_
        refine sno rfl rfl rfl rfl ?_
        refine sno rfl rfl rfl rfl ?_
        refine snou rfl rfl rfl ?_
        refine sno rfl rfl rfl rfl ?_
        refine st (y_pickT rfl rfl) rfl ?_
        refine st (y_assign rfl) rfl ?_
        refine l_nil ?_
        refine q_then ?_
        refine c_ret ?_
        refine q_end1 (.inl rfl) rfl rfl ?_
        exact ⟨_, rfl, rfl, hK14.trans hK5 (by simp)⟩
  ·
    refine st (y_move rfl) rfl ?_
    refine sno rfl rfl rfl rfl ?_
    refine sno rfl rfl rfl rfl ?_
    refine sno rfl rfl rfl rfl ?_
    refine st (y_pickT rfl rfl) rfl ?_
    refine l_nil ?_
    refine q_then ?_
    refine c_true rfl rfl ?_
    refine c_seq ?_
    refine c_region ?_
    refine st (y_assign rfl) rfl ?_
    refine l_nil ?_
    refine q_then ?_
    refine c_ret ?_
    refine q_then_ret ?_
    refine q_end1 (.inl rfl) rfl rfl ?_
    exact ⟨_, rfl, rfl, hK13⟩

end Go.Proofs.YtefhjchhfpjciaaDoor

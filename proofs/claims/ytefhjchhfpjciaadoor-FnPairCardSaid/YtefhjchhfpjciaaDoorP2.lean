/- Two sets joined, beside: the package's functions, each by its contract. -/
import Derived.Test.YtefhjchhfpjciaaDoorP1
set_option linter.unusedVariables false
set_option linter.unusedSimpArgs false
set_option maxRecDepth 100000
set_option maxHeartbeats 2000000
namespace Go.Proofs.YtefhjchhfpjciaaDoor
open Go Go.RowKit

theorem c_SymmetricDifferenceB (p q p2 q2 : Nat) (s t : List Bool) (w : World) (hB : BSet w p q s) (hB2 : BSet w p2 q2 t) (hs : s.length ≤ 10000) (ht : t.length ≤ 10000) :
    Cal Tryd.prog 23 [vP p, vP p2] w fun v w' => ∃ p3 q3 u, v = vP p3 ∧ w.heap.size ≤ p3 ∧ w.heap.size ≤ q3 ∧ BSet w' p3 q3 u ∧ nums u = nums (joined gXor s t) ∧ u.length ≤ max s.length t.length ∧ Keep w w' [] := by
  refine go_in' Tryd.func23 rfl Tryd.ntmps23 (Nat.le_of_ble_eq_true rfl) ?_
  refine c_seq ?_
  refine c_region ?_
  refine st (y_assign rfl) rfl ?_
  refine l_nil ?_
  refine q_then ?_
  refine c_seq ?_
  refine c_region ?_
  refine st (y_move rfl) rfl ?_
  refine sc rfl rfl isfn29 (c_pNull p _) rfl ?_
  rintro _ _ ⟨rfl, rfl⟩
  refine l_nil ?_
  refine q_then ?_
  refine c_seq ?_
  refine c_region ?_
  refine st (y_move rfl) rfl ?_
  refine sc rfl rfl isfn29 (c_pNull p2 _) rfl ?_
  rintro _ _ ⟨rfl, rfl⟩
  refine l_nil ?_
  refine q_then ?_
  refine c_seq ?_
  refine c_region ?_
  refine st (y_move rfl) rfl ?_
  refine st (y_move rfl) rfl ?_
  refine sc rfl rfl isfn34 (c_sortL p q p2 q2 s t _ hB hB2 (by omega) (by omega)) rfl ?_
  rintro _ w1 ⟨a, qa, sa, b, qb, sb, rfl, hBa, hBb, hle, hor, hK1⟩
  have hjn : joined gXor s t = joined gXor sa sb := by
    rcases hor with ⟨rfl, rfl⟩ | ⟨rfl, rfl⟩
    · rfl
    · exact joined_comm (g := gXor) (fun a b => by cases a <;> cases b <;> rfl) _ _
  have hmx : sa.length ≤ max s.length t.length ∧ sb.length ≤ max s.length t.length := by rcases hor with ⟨rfl, rfl⟩ | ⟨rfl, rfl⟩ <;> omega
  rw [hjn]
  clear hB hB2 hor hjn
  have hsz1 := hK1.size
  have hna := pack_length sa
  have hnb := pack_length sb
  have hnab : nW sa.length ≤ nW sb.length := nW_mono hle
  have hnb2 : nW sb.length ≤ 200 := by unfold nW; omega
  refine st (y_move rfl) rfl ?_
  refine st (y_extract rfl rfl) rfl ?_
  refine st (y_extract rfl rfl) rfl ?_
  refine st (y_assign rfl) rfl ?_
  refine st (y_assign rfl) rfl ?_
  refine l_nil ?_
  refine q_then ?_
  refine c_seq ?_
  refine c_region ?_
  refine st (y_move rfl) rfl ?_
  refine sc rfl rfl isfn35 (c_Clone b qb sb _ hBb (by omega)) rfl ?_
  rintro _ w2 ⟨p3, q3, rfl, hp3, hq3, hR, hK2⟩
  have hBa2 := hBa.keep hK2 (by simp) (by simp)
  have hBb2 := hBb.keep hK2 (by simp) (by simp)
  have hlts := hBa.lts
  have hlts2 := hBb.lts
  obtain ⟨tla, hWa⟩ := hBa2
  obtain ⟨tlb, hWb⟩ := hBb2
  obtain ⟨tlr, hWr⟩ := hR
  have hsta := hWa.st
  obtain ⟨hul, hub⟩ := joined_in (g := gXor) rfl sa sb
  have huw := fun k => joined_word bw_xor hub k
  refine st (y_assign rfl) rfl ?_
  refine l_nil ?_
  refine q_then ?_
  refine c_seq ?_
  refine c_seq ?_
  refine c_region ?_
  refine st (y_move rfl) rfl ?_
  refine st (y_nil rfl) rfl ?_
  refine st (fa58_1 rfl) rfl ?_
  refine st (y_loadb rfl one56 (by assumption) (by rfl)) rfl ?_
  refine st (y_len rfl Tryd.underlying56) rfl ?_
  refine st (y_move (v := vI ((0 : Nat) : Int)) rfl) rfl ?_
  refine l_nil ?_
  refine q_then ?_
  refine c_block ?_
  refine c_loop (fun x : Nat × List Nat => [(1, vP b), (4, vP p3), (22, vS qa (pack sa).length ((pack sa).length + tla.length)), (23, vI ((pack sa).length : Nat)), (24, vI (x.1 : Nat))]) (fun x w' => x.1 ≤ (pack sa).length ∧ BW w' p3 q3 sb.length x.2 tlr ∧ x.2.length = nW sb.length ∧ (∀ j, x.2.getD j 0 = if j < x.1 then wordAt (joined gXor sa sb) j else wordAt sb j) ∧ Keep w2 w' [q3]) (fun x => (pack sa).length - x.1) (0, pack sb) ?_ ?_ ?_
  · exact ⟨rfl, rfl, rfl, rfl, rfl, trivial⟩
  · exact ⟨Nat.zero_le _, hWr, hnb, fun j => by simp only; rw [pack_getD, if_neg (by omega)], Keep.refl _ _⟩
  · rintro ⟨k, W⟩ w3 ⟨hk, hW3, hWl, hWj, hK3⟩
    simp only at hk hW3 hWl hWj hK3 ⊢
    have hWa3 := hWa.keep hK3 (by simp only [List.mem_singleton]; omega) (by simp only [List.mem_singleton]; omega)
    have hWb3 := hWb.keep hK3 (by simp only [List.mem_singleton]; omega) (by simp only [List.mem_singleton]; omega)
    have hwda := hWa3.wd
    refine c_seq ?_
    refine c_region ?_
    refine st_if (y_lt_i rfl rfl) rfl (fun hlt => ?_) (fun hlt => ?_)
    · have hga : (pack sa ++ tla).getD k 0 = wordAt sa k := by rw [getD_app (by omega), pack_getD]
      have hgb : (pack sb ++ tlb).getD k 0 = wordAt sb k := by rw [getD_app (by omega), pack_getD]
      have hla := wordAt_lt sa k
      have hlb := wordAt_lt sb k
      have hW3d := hW3.drew
      have hWb3d := hWb3.drew
      refine l_nil ?_
      refine q_then ?_
      refine c_seq ?_
      refine c_true rfl rfl ?_
      refine c_skip ?_
      refine q_then ?_
      refine c_seq ?_
      refine c_block ?_
      refine c_seq ?_
      refine c_region ?_
      refine st (y_move rfl) rfl ?_
      first | refine st (y_index0 rfl rfl Tryd.underlying56 sz60 (by omega)) rfl ?_ | refine st (y_index rfl rfl Tryd.underlying56 sz60 (by omega)) rfl ?_ | refine st (y_indexA rfl rfl Tryd.underlying56 sz60 (by omega)) rfl ?_
      first | refine st (y_loadM (0) rfl one60 (by assumption) (by first | omega | (simp only [List.length_append, List.length_map, List.length_replicate, List.length_set, List.length_take, List.length_drop]; omega) | (simp; done))) rfl ?_ | refine st (y_load rfl one60 (by assumption)) rfl ?_
      refine st (y_assign rfl) rfl ?_
      refine st (y_assign rfl) rfl ?_
      refine l_nil ?_
      refine q_then ?_
      rw [hga]
      have hst3 := hW3d.st
      have hstb3 := hWb3d.st
      have hwdb3 := hWb3d.wd
      have hwd3 := hW3d.wd
      refine c_tail 15 mixed (by kernel_rfl) ?_
      refine ss (y_move rfl) rfl ?_
      refine ss (y_nil rfl) rfl ?_
      refine ss (fa58_1 rfl) rfl ?_
      refine ss (y_loadb rfl one56 (by assumption) (by rfl)) rfl ?_
      refine ss (y_move rfl) rfl ?_
      refine ss (y_move rfl) rfl ?_
      refine ss (y_move rfl) rfl ?_
      refine ss (y_nil rfl) rfl ?_
      refine ss (fa58_1 rfl) rfl ?_
      refine ss (y_loadb rfl one56 (by assumption) (by rfl)) rfl ?_
      refine ss (y_move rfl) rfl ?_
      first | refine ss (y_index0 rfl rfl Tryd.underlying56 sz60 (by omega)) rfl ?_ | refine ss (y_index rfl rfl Tryd.underlying56 sz60 (by omega)) rfl ?_ | refine ss (y_indexA rfl rfl Tryd.underlying56 sz60 (by omega)) rfl ?_
      first | refine ss (y_loadM (0) rfl one60 (by assumption) (by first | omega | (simp only [List.length_append, List.length_map, List.length_replicate, List.length_set, List.length_take, List.length_drop]; omega) | (simp; done))) rfl ?_ | refine ss (y_load rfl one60 (by assumption)) rfl ?_
      rw [hgb]
      refine ss (y_xor rfl rfl (by first | omega | assumption | (repeat (first | assumption | omega | decide | exact shl_lt64 _ _ | apply and_lt64 | apply or_lt64 | apply xor_lt64 | apply nt_lt | apply shr_lt64 | apply getD_lt64))) (by first | omega | assumption | (repeat (first | assumption | omega | decide | exact shl_lt64 _ _ | apply and_lt64 | apply or_lt64 | apply xor_lt64 | apply nt_lt | apply shr_lt64 | apply getD_lt64)))) rfl ?_
      first | refine ss (y_index0 rfl rfl Tryd.underlying56 sz60 (by omega)) rfl ?_ | refine ss (y_index rfl rfl Tryd.underlying56 sz60 (by omega)) rfl ?_ | refine ss (y_indexA rfl rfl Tryd.underlying56 sz60 (by omega)) rfl ?_
      refine s_nil ?_
      show wpL _ _ _ _ _ _ _ _
      refine st_storeM vU rfl rfl rfl sz60 (by assumption) (by first | omega | (simp only [List.length_append, List.length_map, List.length_replicate, List.length_set, List.length_take, List.length_drop]; omega)) rfl ?_
      intro w4 hw4 hK4 hS4
      refine l_nil ?_
      refine q_block ?_
      refine q_then ?_
      refine c_region ?_
      first | refine st (y_add_in (b := 1) rfl rfl (by omega)) rfl ?_ | refine st (y_add_i (b := 1) rfl rfl (by omega) (by omega)) rfl ?_
      refine st (y_move rfl) rfl ?_
      refine l_nil ?_
      have hW4 := hW3d.store hw4 hK4 (bw_xor.2 _ _ hla hlb) (by omega)
      refine q_round (k + 1, _) ⟨rfl, rfl, rfl, rfl, rfl, trivial⟩ ⟨by simp only; omega, hW4, by simpa using hWl, fun j => ?_, (hK3.trans (Keep.drew w3 []) (by simp)).trans hK4 (fun i hi => .inl hi)⟩ (by simp only; omega)
      simp only
      rw [set_getD_nat _ _ _ _ (by omega), hWj]
      by_cases h1 : j = k
      · rw [if_pos h1, if_pos (by omega), h1, huw]
      · rw [if_neg h1]
        by_cases h2 : j < k
        · rw [if_pos h2, if_pos (by omega)]
        · rw [if_neg h2, if_neg (by omega)]
    ·
      have hke : k = (pack sa).length := by omega
      refine l_nil ?_
      refine q_then ?_
      refine c_seq ?_
      refine c_false rfl rfl ?_
      refine c_exit ?_
      refine q_then_exit ?_
      refine q_then_exit ?_
      refine q_block_hit ?_
      refine q_then ?_
      refine c_ret ?_
      refine q_end1 (.inl rfl) rfl rfl ?_
      refine ⟨_, rfl, p3, q3, joined gXor sa sb, rfl, by omega, by omega, hW3.fin (by rw [hul]; omega) (by rw [hWl, hul, Nat.max_eq_right hle]) (fun j hj => ?_), rfl, by omega, (hK1.trans hK2 (by simp)).trans hK3 (fun i hi => by simp only [List.mem_singleton] at hi; subst hi; exact .inr (by omega))⟩
      rw [hWj]
      by_cases h1 : j < k
      · rw [if_pos h1]
      · rw [if_neg h1, huw, past_word sa j (by omega)]
        exact (Nat.zero_xor _).symm

theorem c_DifferenceB (p q p2 q2 : Nat) (s t : List Bool) (w : World) (hB : BSet w p q s) (hB2 : BSet w p2 q2 t) (hs : s.length ≤ 10000) (ht : t.length ≤ 10000) :
    Cal Tryd.prog 22 [vP p, vP p2] w fun v w' => ∃ p3 q3 u, v = vP p3 ∧ w.heap.size ≤ p3 ∧ w.heap.size ≤ q3 ∧ BSet w' p3 q3 u ∧ nums u = nums (joined gDif s t) ∧ u.length ≤ max s.length t.length ∧ Keep w w' [] := by
  have hlts := hB.lts
  have hlts2 := hB2.lts
  have hns := pack_length s
  have hnt := pack_length t
  have hns2 : nW s.length ≤ 200 := by unfold nW; omega
  have hnt2 : nW t.length ≤ 200 := by unfold nW; omega
  refine go_in' Tryd.func22 rfl Tryd.ntmps22 (Nat.le_of_ble_eq_true rfl) ?_
  refine c_seq ?_
  refine c_region ?_
  refine st (y_assign rfl) rfl ?_
  refine l_nil ?_
  refine q_then ?_
  refine c_seq ?_
  refine c_region ?_
  refine st (y_move rfl) rfl ?_
  refine sc rfl rfl isfn29 (c_pNull p _) rfl ?_
  rintro _ _ ⟨rfl, rfl⟩
  refine l_nil ?_
  refine q_then ?_
  refine c_seq ?_
  refine c_region ?_
  refine st (y_move rfl) rfl ?_
  refine sc rfl rfl isfn29 (c_pNull p2 _) rfl ?_
  rintro _ _ ⟨rfl, rfl⟩
  refine l_nil ?_
  refine q_then ?_
  refine c_seq ?_
  refine c_region ?_
  refine st (y_move rfl) rfl ?_
  refine sc rfl rfl isfn35 (c_Clone p q s _ hB (by omega)) rfl ?_
  rintro _ w2 ⟨p3, q3, rfl, hp3, hq3, hR, hK2⟩
  obtain ⟨tls, hWs⟩ := hB.keep hK2 (by simp) (by simp)
  obtain ⟨tlt, hWt⟩ := hB2.keep hK2 (by simp) (by simp)
  obtain ⟨tlr, hWr⟩ := hR
  have hul := firstS_length gDif s t
  have hub := firstS_getD gDif_f s t
  have huw := fun k => joined_word bw_dif hub k
  refine st (y_assign rfl) rfl ?_
  refine l_nil ?_
  refine q_then ?_
  refine c_seq ?_
  refine c_region ?_
  refine st (y_move rfl) rfl ?_
  refine sc rfl rfl isfn30 (c_wCount p2 q2 t.length _ _ _ hWt (by omega)) rfl ?_
  rintro _ _ ⟨rfl, rfl⟩
  refine st (y_assign rfl) rfl ?_
  refine l_nil ?_
  refine q_then ?_
  refine c_cut (fun _ : Unit => [(0, vP p), (1, vP p2), (4, vP p3), (5, vI ((min (nW s.length) (nW t.length) : Nat) : Int))]) (fun _ w' => w' = w2) ?_ ?_
  · refine c_seq ?_
    refine c_region ?_
    refine st (y_move rfl) rfl ?_
    refine st (y_move rfl) rfl ?_
    refine sc rfl rfl isfn30 (c_wCount p q s.length _ _ _ hWs (by omega)) rfl ?_
    rintro _ _ ⟨rfl, rfl⟩
    refine st_if (y_gt_i rfl rfl) rfl (fun hg => ?_) (fun hg => ?_)
    · refine l_nil ?_
      refine q_then ?_
      refine c_true rfl rfl ?_
      refine c_region ?_
      refine st (y_move rfl) rfl ?_
      refine sc rfl rfl isfn30 (c_wCount p q s.length _ _ _ hWs (by omega)) rfl ?_
      rintro _ _ ⟨rfl, rfl⟩
      refine st (y_assign rfl) rfl ?_
      refine l_nil ?_
      exact q_meet () ⟨rfl, rfl, rfl, by rw [Nat.min_eq_left (show nW s.length ≤ nW t.length by omega)]; rfl, trivial⟩ rfl
    ·
      refine l_nil ?_
      refine q_then ?_
      refine c_false rfl rfl ?_
      refine c_skip ?_
      exact q_meet () ⟨rfl, rfl, rfl, by rw [Nat.min_eq_right (show nW t.length ≤ nW s.length by omega)]; rfl, trivial⟩ rfl
  ·
    rintro _ w2' rfl
    obtain ⟨l, hl⟩ : ∃ l, min (nW s.length) (nW t.length) = l := ⟨_, rfl⟩
    rw [hl]
    refine c_seq ?_
    refine c_seq ?_
    refine c_region ?_
    refine st (y_assign (v := vI ((0 : Nat) : Int)) rfl) rfl ?_
    refine l_nil ?_
    refine q_then ?_
    refine c_block ?_
    refine c_loop (fun x : Nat × List Nat => [(0, vP p), (1, vP p2), (4, vP p3), (5, vI (l : Nat)), (6, vI (x.1 : Nat))]) (fun x w' => x.1 ≤ l ∧ BW w' p3 q3 s.length x.2 tlr ∧ x.2.length = nW s.length ∧ (∀ j, x.2.getD j 0 = if j < x.1 then wordAt (firstS gDif s t) j else wordAt s j) ∧ Keep w2' w' [q3]) (fun x => l - x.1) (0, pack s) ?_ ?_ ?_
    · exact ⟨rfl, rfl, rfl, rfl, rfl, trivial⟩
    · exact ⟨Nat.zero_le _, hWr, hns, fun j => by simp only; rw [pack_getD, if_neg (by omega)], Keep.refl _ _⟩
    · rintro ⟨k, W⟩ w3 ⟨hk, hW3, hWl, hWj, hK3⟩
      simp only at hk hW3 hWl hWj hK3 ⊢
      have hWs3 := hWs.keep hK3 (by simp only [List.mem_singleton]; omega) (by simp only [List.mem_singleton]; omega)
      have hWt3 := hWt.keep hK3 (by simp only [List.mem_singleton]; omega) (by simp only [List.mem_singleton]; omega)
      refine c_seq ?_
      refine c_seq ?_
      refine c_region ?_
      refine st (y_move rfl) rfl ?_
      refine st (y_move rfl) rfl ?_
      refine st_if (y_lt_i rfl rfl) rfl (fun hlt => ?_) (fun hlt => ?_)
      · have hgs : (pack s ++ tls).getD k 0 = wordAt s k := by rw [getD_app (by omega), pack_getD]
        have hgt : (pack t ++ tlt).getD k 0 = wordAt t k := by rw [getD_app (by omega), pack_getD]
        have hla := wordAt_lt s k
        have hlb := wordAt_lt t k
        have hW3d := hW3.drew
        have hWs3d := hWs3.drew
        have hWt3d := hWt3.drew
        refine l_nil ?_
        refine q_then ?_
        refine c_true rfl rfl ?_
        refine c_skip ?_
        refine q_then ?_
        refine c_seq ?_
        refine c_block ?_
        have hst3 := hW3d.st
        have hsts3 := hWs3d.st
        have hstt3 := hWt3d.st
        have hwds3 := hWs3d.wd
        have hwdt3 := hWt3d.wd
        have hwd3 := hW3d.wd
        refine c_tail 21 mixed (by kernel_rfl) ?_
        refine ss (y_move rfl) rfl ?_
        refine ss (y_nil rfl) rfl ?_
        refine ss (fa58_1 rfl) rfl ?_
        refine ss (y_loadb rfl one56 (by assumption) (by rfl)) rfl ?_
        refine ss (y_move rfl) rfl ?_
        refine ss (y_move rfl) rfl ?_
        refine ss (y_nil rfl) rfl ?_
        refine ss (fa58_1 rfl) rfl ?_
        refine ss (y_loadb rfl one56 (by assumption) (by rfl)) rfl ?_
        refine ss (y_move rfl) rfl ?_
        first | refine ss (y_index0 rfl rfl Tryd.underlying56 sz60 (by omega)) rfl ?_ | refine ss (y_index rfl rfl Tryd.underlying56 sz60 (by omega)) rfl ?_ | refine ss (y_indexA rfl rfl Tryd.underlying56 sz60 (by omega)) rfl ?_
        first | refine ss (y_loadM (0) rfl one60 (by assumption) (by first | omega | (simp only [List.length_append, List.length_map, List.length_replicate, List.length_set, List.length_take, List.length_drop]; omega) | (simp; done))) rfl ?_ | refine ss (y_load rfl one60 (by assumption)) rfl ?_
        rw [hgs]
        refine ss (y_move rfl) rfl ?_
        refine ss (y_nil rfl) rfl ?_
        refine ss (fa58_1 rfl) rfl ?_
        refine ss (y_loadb rfl one56 (by assumption) (by rfl)) rfl ?_
        refine ss (y_move rfl) rfl ?_
        first | refine ss (y_index0 rfl rfl Tryd.underlying56 sz60 (by omega)) rfl ?_ | refine ss (y_index rfl rfl Tryd.underlying56 sz60 (by omega)) rfl ?_ | refine ss (y_indexA rfl rfl Tryd.underlying56 sz60 (by omega)) rfl ?_
        first | refine ss (y_loadM (0) rfl one60 (by assumption) (by first | omega | (simp only [List.length_append, List.length_map, List.length_replicate, List.length_set, List.length_take, List.length_drop]; omega) | (simp; done))) rfl ?_ | refine ss (y_load rfl one60 (by assumption)) rfl ?_
        rw [hgt]
        refine ss (y_andNot rfl rfl (by first | omega | assumption | (repeat (first | assumption | omega | decide | exact shl_lt64 _ _ | apply and_lt64 | apply or_lt64 | apply xor_lt64 | apply nt_lt | apply shr_lt64 | apply getD_lt64))) (by first | omega | assumption | (repeat (first | assumption | omega | decide | exact shl_lt64 _ _ | apply and_lt64 | apply or_lt64 | apply xor_lt64 | apply nt_lt | apply shr_lt64 | apply getD_lt64)))) rfl ?_
        first | refine ss (y_index0 rfl rfl Tryd.underlying56 sz60 (by omega)) rfl ?_ | refine ss (y_index rfl rfl Tryd.underlying56 sz60 (by omega)) rfl ?_ | refine ss (y_indexA rfl rfl Tryd.underlying56 sz60 (by omega)) rfl ?_
        refine s_nil ?_
        show wpL _ _ _ _ _ _ _ _
        rw [ntE2]
        refine st_storeM vU rfl rfl rfl sz60 (by assumption) (by first | omega | (simp only [List.length_append, List.length_map, List.length_replicate, List.length_set, List.length_take, List.length_drop]; omega)) rfl ?_
        intro w4 hw4 hK4 hS4
        refine l_nil ?_
        refine q_block ?_
        refine q_then ?_
        refine c_region ?_
        refine st (y_move rfl) rfl ?_
        first | refine st (y_add_in (b := 1) rfl rfl (by omega)) rfl ?_ | refine st (y_add_i (b := 1) rfl rfl (by omega) (by omega)) rfl ?_
        refine st (y_assign rfl) rfl ?_
        refine l_nil ?_
        have hW4 := hW3d.store hw4 hK4 (bw_dif.2 _ _ hla hlb) (by omega)
        refine q_round (k + 1, _) ⟨rfl, rfl, rfl, rfl, rfl, trivial⟩ ⟨by simp only; omega, hW4, by simpa using hWl, fun j => ?_, (hK3.trans (Keep.drew w3 []) (by simp)).trans hK4 (fun i hi => .inl hi)⟩ (by simp only; omega)
        simp only
        rw [set_getD_nat _ _ _ _ (by omega), hWj]
        by_cases h1 : j = k
        · rw [if_pos h1, if_pos (by omega), h1, huw]
        · rw [if_neg h1]
          by_cases h2 : j < k
          · rw [if_pos h2, if_pos (by omega)]
          · rw [if_neg h2, if_neg (by omega)]
      ·
        have hke : k = l := by omega
        refine l_nil ?_
        refine q_then ?_
        refine c_false rfl rfl ?_
        refine c_exit ?_
        refine q_then_exit ?_
        refine q_then_exit ?_
        refine q_block_hit ?_
        refine q_then ?_
        refine c_ret ?_
        refine q_end1 (.inl rfl) rfl rfl ?_
        refine ⟨_, rfl, p3, q3, firstS gDif s t, rfl, hp3, hq3, hW3.fin hul.symm (by rw [hWl, hul]) (fun j hj => ?_), firstS_nums gDif_f s t, by omega, hK2.trans hK3 (fun i hi => by simp only [List.mem_singleton] at hi; subst hi; exact .inr hq3)⟩
        rw [hWj]
        by_cases h1 : j < k
        · rw [if_pos h1]
        · rw [if_neg h1, huw, past_word t j (by omega), nt0, Nat.and_two_pow_sub_one_of_lt_two_pow (n := 64) (wordAt_lt s j)]

theorem c_InPlaceDifference (p q p2 q2 : Nat) (s t : List Bool) (w : World) (hB : BSet w p q s) (hB2 : BSet w p2 q2 t) (hpq : p ≠ p2 ∧ p ≠ q2 ∧ q ≠ p2 ∧ q ≠ q2) (hs : s.length ≤ 10000) (ht : t.length ≤ 10000) :
    Cal Tryd.prog 17 [vP p, vP p2] w fun v w' => v = vT [] ∧ ∃ q3 u, BSet w' p q3 u ∧ nums u = nums (joined gDif s t) ∧ u.length ≤ max s.length t.length ∧ (q3 = q ∨ w.heap.size ≤ q3) ∧ Keep w w' [p, q] := by
  have hns := pack_length s
  have hnt := pack_length t
  have hns2 : nW s.length ≤ 200 := by unfold nW; omega
  have hnt2 : nW t.length ≤ 200 := by unfold nW; omega
  have hB0 := hB
  obtain ⟨tls, hWs⟩ := hB
  obtain ⟨tlt, hWt⟩ := hB2
  have hul := firstS_length gDif s t
  have hub := firstS_getD gDif_f s t
  have huw := fun k => joined_word bw_dif hub k
  refine go_in' Tryd.func17 rfl Tryd.ntmps17 (Nat.le_of_ble_eq_true rfl) ?_
  refine c_seq ?_
  refine c_region ?_
  refine st (y_move rfl) rfl ?_
  refine sc rfl rfl isfn29 (c_pNull p _) rfl ?_
  rintro _ _ ⟨rfl, rfl⟩
  refine l_nil ?_
  refine q_then ?_
  refine c_seq ?_
  refine c_region ?_
  refine st (y_move rfl) rfl ?_
  refine sc rfl rfl isfn29 (c_pNull p2 _) rfl ?_
  rintro _ _ ⟨rfl, rfl⟩
  refine l_nil ?_
  refine q_then ?_
  refine c_seq ?_
  refine c_region ?_
  refine st (y_move rfl) rfl ?_
  refine sc rfl rfl isfn30 (c_wCount p2 q2 t.length _ _ _ hWt (by omega)) rfl ?_
  rintro _ _ ⟨rfl, rfl⟩
  refine st (y_assign rfl) rfl ?_
  refine l_nil ?_
  refine q_then ?_
  refine c_cut (fun _ : Unit => [(0, vP p), (1, vP p2), (4, vI ((min (nW s.length) (nW t.length) : Nat) : Int))]) (fun _ w' => w' = w) ?_ ?_
  · refine c_seq ?_
    refine c_region ?_
    refine st (y_move rfl) rfl ?_
    refine st (y_move rfl) rfl ?_
    refine sc rfl rfl isfn30 (c_wCount p q s.length _ _ _ hWs (by omega)) rfl ?_
    rintro _ _ ⟨rfl, rfl⟩
    refine st_if (y_gt_i rfl rfl) rfl (fun hg => ?_) (fun hg => ?_)
    · refine l_nil ?_
      refine q_then ?_
      refine c_true rfl rfl ?_
      refine c_region ?_
      refine st (y_move rfl) rfl ?_
      refine sc rfl rfl isfn30 (c_wCount p q s.length _ _ _ hWs (by omega)) rfl ?_
      rintro _ _ ⟨rfl, rfl⟩
      refine st (y_assign rfl) rfl ?_
      refine l_nil ?_
      exact q_meet () ⟨rfl, rfl, by rw [Nat.min_eq_left (show nW s.length ≤ nW t.length by omega)]; rfl, trivial⟩ rfl
    ·
      refine l_nil ?_
      refine q_then ?_
      refine c_false rfl rfl ?_
      refine c_skip ?_
      exact q_meet () ⟨rfl, rfl, by rw [Nat.min_eq_right (show nW t.length ≤ nW s.length by omega)]; rfl, trivial⟩ rfl
  ·
    rintro _ w2' rfl
    obtain ⟨l, hl⟩ : ∃ l, min (nW s.length) (nW t.length) = l := ⟨_, rfl⟩
    rw [hl]
    have fin : ∀ (W : List Nat), W.length = nW s.length → (∀ j, W.getD j 0 = if j < l then wordAt (firstS gDif s t) j else wordAt s j) → ∀ j, j < W.length → W.getD j 0 = wordAt (firstS gDif s t) j := by
      intro W hWl hWj j hj
      rw [hWj]
      by_cases h1 : j < l
      · rw [if_pos h1]
      · rw [if_neg h1, huw, past_word t j (by omega), nt0, Nat.and_two_pow_sub_one_of_lt_two_pow (n := 64) (wordAt_lt s j)]
    refine c_seq ?_
    refine c_seq ?_
    refine c_region ?_
    refine st (y_move rfl) rfl ?_
    refine st_if (y_le_i (b := 0) rfl rfl) rfl (fun h0 => ?_) (fun h0 => ?_)
    · refine l_nil ?_
      refine q_then ?_
      refine c_true rfl rfl ?_
      refine c_ret ?_
      refine q_then_ret ?_
      refine q_end0 (.inl rfl) rfl ?_
      exact ⟨_, rfl, rfl, q, firstS gDif s t, hWs.fin hul.symm (by rw [hns, hul]) (fin _ hns (fun j => by rw [pack_getD, if_neg (by omega)])), firstS_nums gDif_f s t, by omega, .inl rfl, Keep.refl _ _⟩
    ·
      have hWsd := hWs.drew
      have hWtd := hWt.drew
      have hKd := Keep.drew w2' [q]
      have hst1 := hWsd.st
      have hst2 := hWtd.st
      have hwd1 := hWsd.wd
      have hwd2 := hWtd.wd
      refine l_nil ?_
      refine q_then ?_
      refine c_false rfl rfl ?_
      refine c_skip ?_
      refine q_then ?_
      refine c_seq ?_
      refine c_still mixed (by kernel_rfl) ?_
      refine ss (y_move rfl) rfl ?_
      refine ss (y_nil rfl) rfl ?_
      refine ss (fa58_1 rfl) rfl ?_
      refine ss (y_loadb rfl one56 (by assumption) (by rfl)) rfl ?_
      refine ss (y_move rfl) rfl ?_
      refine ss (y_nil rfl) rfl ?_
      refine ss (fa58_1 rfl) rfl ?_
      refine ss (y_loadb rfl one56 (by assumption) (by rfl)) rfl ?_
      refine ss (y_assign rfl) rfl ?_
      refine ss (y_assign rfl) rfl ?_
      refine s_nil ?_
      refine q_then ?_
      refine c_seq ?_
      refine c_region ?_
      refine st (y_move rfl) rfl ?_
      refine st (y_move rfl) rfl ?_
      refine st (y_sub_i (b := 1) rfl rfl (by omega) (by omega)) rfl ?_
      rw [show ((l : Int) - 1) = ((l - 1 : Nat) : Int) by omega]
      first | refine st (y_index0 rfl rfl Tryd.underlying56 sz60 (by omega)) rfl ?_ | refine st (y_index rfl rfl Tryd.underlying56 sz60 (by omega)) rfl ?_ | refine st (y_indexA rfl rfl Tryd.underlying56 sz60 (by omega)) rfl ?_
      first | refine st (y_loadM (0) rfl one60 (by assumption) (by first | omega | (simp only [List.length_append, List.length_map, List.length_replicate, List.length_set, List.length_take, List.length_drop]; omega) | (simp; done))) rfl ?_ | refine st (y_load rfl one60 (by assumption)) rfl ?_
      refine l_nil ?_
      refine q_then ?_
      refine c_seq ?_
      refine c_region ?_
      refine st (y_move rfl) rfl ?_
      refine st (y_move rfl) rfl ?_
      refine st (y_sub_i (b := 1) rfl rfl (by omega) (by omega)) rfl ?_
      rw [show ((l : Int) - 1) = ((l - 1 : Nat) : Int) by omega]
      first | refine st (y_index0 rfl rfl Tryd.underlying56 sz60 (by omega)) rfl ?_ | refine st (y_index rfl rfl Tryd.underlying56 sz60 (by omega)) rfl ?_ | refine st (y_indexA rfl rfl Tryd.underlying56 sz60 (by omega)) rfl ?_
      first | refine st (y_loadM (0) rfl one60 (by assumption) (by first | omega | (simp only [List.length_append, List.length_map, List.length_replicate, List.length_set, List.length_take, List.length_drop]; omega) | (simp; done))) rfl ?_ | refine st (y_load rfl one60 (by assumption)) rfl ?_
      refine l_nil ?_
      refine q_then ?_
      refine c_seq ?_
      refine c_region ?_
      refine st (y_assign (v := vI ((0 : Nat) : Int)) rfl) rfl ?_
      refine l_nil ?_
      refine q_then ?_
      refine c_block ?_
      refine c_loop (fun x : Nat × List Nat => [(4, vI (l : Nat)), (5, vS q (pack s).length ((pack s).length + tls.length)), (6, vS q2 (pack t).length ((pack t).length + tlt.length)), (7, vI (x.1 : Nat))]) (fun x w' => x.1 ≤ l ∧ BW w' p q s.length x.2 tls ∧ x.2.length = nW s.length ∧ (∀ j, x.2.getD j 0 = if j < x.1 then wordAt (firstS gDif s t) j else wordAt s j) ∧ Keep w2' w' [q]) (fun x => l - x.1) (0, pack s) ?_ ?_ ?_
      · exact ⟨rfl, rfl, rfl, rfl, trivial⟩
      · exact ⟨Nat.zero_le _, hWsd, hns, fun j => by simp only; rw [pack_getD, if_neg (by omega)], hKd⟩
      · rintro ⟨k, W⟩ w3 ⟨hk, hW3, hWl, hWj, hK3⟩
        simp only at hk hW3 hWl hWj hK3 ⊢
        have hWt3 := hWt.keep hK3 (by simp only [List.mem_singleton]; omega) (by simp only [List.mem_singleton]; omega)
        refine c_seq ?_
        refine c_seq ?_
        refine c_region ?_
        refine st (y_move rfl) rfl ?_
        refine st (y_move rfl) rfl ?_
        refine st_if (y_lt_i rfl rfl) rfl (fun hlt => ?_) (fun hlt => ?_)
        · have hgs : (W ++ tls).getD k 0 = wordAt s k := by rw [getD_app (by omega), hWj, if_neg (by omega)]
          have hgt : (pack t ++ tlt).getD k 0 = wordAt t k := by rw [getD_app (by omega), pack_getD]
          have hla := wordAt_lt s k
          have hlb := wordAt_lt t k
          have hW3d := hW3.drew
          have hWt3d := hWt3.drew
          refine l_nil ?_
          refine q_then ?_
          refine c_true rfl rfl ?_
          refine c_skip ?_
          refine q_then ?_
          refine c_seq ?_
          refine c_block ?_
          have hwdt3 := hWt3d.wd
          have hwd3 := hW3d.wd
          refine c_tail 10 mixed (by kernel_rfl) ?_
          refine ss (y_move rfl) rfl ?_
          refine ss (y_move rfl) rfl ?_
          first | refine ss (y_index0 rfl rfl Tryd.underlying56 sz60 (by omega)) rfl ?_ | refine ss (y_index rfl rfl Tryd.underlying56 sz60 (by omega)) rfl ?_ | refine ss (y_indexA rfl rfl Tryd.underlying56 sz60 (by omega)) rfl ?_
          first | refine ss (y_loadM (0) rfl one60 (by assumption) (by first | omega | (simp only [List.length_append, List.length_map, List.length_replicate, List.length_set, List.length_take, List.length_drop]; omega) | (simp; done))) rfl ?_ | refine ss (y_load rfl one60 (by assumption)) rfl ?_
          rw [hgs]
          refine ss (y_move rfl) rfl ?_
          refine ss (y_move rfl) rfl ?_
          first | refine ss (y_index0 rfl rfl Tryd.underlying56 sz60 (by omega)) rfl ?_ | refine ss (y_index rfl rfl Tryd.underlying56 sz60 (by omega)) rfl ?_ | refine ss (y_indexA rfl rfl Tryd.underlying56 sz60 (by omega)) rfl ?_
          first | refine ss (y_loadM (0) rfl one60 (by assumption) (by first | omega | (simp only [List.length_append, List.length_map, List.length_replicate, List.length_set, List.length_take, List.length_drop]; omega) | (simp; done))) rfl ?_ | refine ss (y_load rfl one60 (by assumption)) rfl ?_
          rw [hgt]
          refine ss (y_andNot rfl rfl (by first | omega | assumption | (repeat (first | assumption | omega | decide | exact shl_lt64 _ _ | apply and_lt64 | apply or_lt64 | apply xor_lt64 | apply nt_lt | apply shr_lt64 | apply getD_lt64))) (by first | omega | assumption | (repeat (first | assumption | omega | decide | exact shl_lt64 _ _ | apply and_lt64 | apply or_lt64 | apply xor_lt64 | apply nt_lt | apply shr_lt64 | apply getD_lt64)))) rfl ?_
          first | refine ss (y_index0 rfl rfl Tryd.underlying56 sz60 (by omega)) rfl ?_ | refine ss (y_index rfl rfl Tryd.underlying56 sz60 (by omega)) rfl ?_ | refine ss (y_indexA rfl rfl Tryd.underlying56 sz60 (by omega)) rfl ?_
          refine s_nil ?_
          show wpL _ _ _ _ _ _ _ _
          rw [ntE2]
          refine st_storeM vU rfl rfl rfl sz60 (by assumption) (by first | omega | (simp only [List.length_append, List.length_map, List.length_replicate, List.length_set, List.length_take, List.length_drop]; omega)) rfl ?_
          intro w4 hw4 hK4 hS4
          refine l_nil ?_
          refine q_block ?_
          refine q_then ?_
          refine c_region ?_
          refine st (y_move rfl) rfl ?_
          first | refine st (y_add_in (b := 1) rfl rfl (by omega)) rfl ?_ | refine st (y_add_i (b := 1) rfl rfl (by omega) (by omega)) rfl ?_
          refine st (y_assign rfl) rfl ?_
          refine l_nil ?_
          have hW4 := hW3d.store hw4 hK4 (bw_dif.2 _ _ hla hlb) (by omega)
          refine q_round (k + 1, _) ⟨rfl, rfl, rfl, rfl, trivial⟩ ⟨by simp only; omega, hW4, by simpa using hWl, fun j => ?_, (hK3.trans (Keep.drew w3 []) (by simp)).trans hK4 (fun i hi => .inl hi)⟩ (by simp only; omega)
          simp only
          rw [set_getD_nat _ _ _ _ (by omega), hWj]
          by_cases h1 : j = k
          · rw [if_pos h1, if_pos (by omega), h1, huw]
          · rw [if_neg h1]
            by_cases h2 : j < k
            · rw [if_pos h2, if_pos (by omega)]
            · rw [if_neg h2, if_neg (by omega)]
        ·
          have hke : k = l := by omega
          subst hke
          refine l_nil ?_
          refine q_then ?_
          refine c_false rfl rfl ?_
          refine c_exit ?_
          refine q_then_exit ?_
          refine q_then_exit ?_
          refine q_block_hit ?_
          refine q_end0 (.inr rfl) rfl ?_
          exact ⟨_, rfl, rfl, q, firstS gDif s t, hW3.fin hul.symm (by rw [hWl, hul]) (fin W hWl hWj), firstS_nums gDif_f s t, by omega, .inl rfl, hK3.mono (fun i hi => .inl (by simp only [List.mem_singleton] at hi; subst hi; simp))⟩

end Go.Proofs.YtefhjchhfpjciaaDoor

/- Two sets joined, beside: the package's functions, each by its contract. -/
import Derived.Test.YtefhjchhfpjciaaDoorP1
set_option linter.unusedVariables false
set_option linter.unusedSimpArgs false
set_option maxRecDepth 100000
set_option maxHeartbeats 2000000
namespace Go.Proofs.YtefhjchhfpjciaaDoor
open Go Go.RowKit

theorem c_InPlaceSymmetricDifference (p q p2 q2 : Nat) (s t : List Bool) (w : World) (hB : BSet w p q s) (hB2 : BSet w p2 q2 t) (hpq : p ≠ p2 ∧ p ≠ q2 ∧ q ≠ p2 ∧ q ≠ q2) (hs : s.length ≤ 10000) (ht : t.length ≤ 10000) :
    Cal Tryd.prog 18 [vP p, vP p2] w fun v w' => v = vT [] ∧ ∃ q3 u, BSet w' p q3 u ∧ nums u = nums (joined gXor s t) ∧ u.length ≤ max s.length t.length ∧ (q3 = q ∨ w.heap.size ≤ q3) ∧ Keep w w' [p, q] := by
  have hlts := hB.lts
  have hlts2 := hB2.lts
  have hns := pack_length s
  have hnt := pack_length t
  have hns2 : nW s.length ≤ 200 := by unfold nW; omega
  have hnt2 : nW t.length ≤ 200 := by unfold nW; omega
  obtain ⟨tls, hWs⟩ := hB
  obtain ⟨tlt, hWt⟩ := hB2
  obtain ⟨hul, hub⟩ := joined_in (g := gXor) rfl s t
  have huw := fun k => joined_word bw_xor hub k
  refine go_in' Tryd.func18 rfl Tryd.ntmps18 (Nat.le_of_ble_eq_true rfl) ?_
  refine c_seq ?_
  refine c_region ?_
  refine st (y_move rfl) rfl ?_
  refine sc rfl rfl isfn29 (c_pNull p _) rfl ?_
  rintro _ _ ⟨rfl, rfl⟩
  refine l_nil ?_
  refine q_then ?_
  refine c_seq ?_
  refine c_region ?_
  refine st (y_move rfl) rfl ?_
  refine sc rfl rfl isfn29 (c_pNull p2 _) rfl ?_
  rintro _ _ ⟨rfl, rfl⟩
  refine l_nil ?_
  refine q_then ?_
  refine c_seq ?_
  refine c_region ?_
  refine st (y_move rfl) rfl ?_
  refine sc rfl rfl isfn30 (c_wCount p2 q2 t.length _ _ _ hWt (by omega)) rfl ?_
  rintro _ _ ⟨rfl, rfl⟩
  refine st (y_assign rfl) rfl ?_
  refine l_nil ?_
  refine q_then ?_
  refine c_cut (fun _ : Unit => [(0, vP p), (1, vP p2), (4, vI ((min (nW s.length) (nW t.length) : Nat) : Int))]) (fun _ w' => w' = w) ?_ ?_
  · refine c_seq ?_
    refine c_region ?_
    refine st (y_move rfl) rfl ?_
    refine st (y_move rfl) rfl ?_
    refine sc rfl rfl isfn30 (c_wCount p q s.length _ _ _ hWs (by omega)) rfl ?_
    rintro _ _ ⟨rfl, rfl⟩
    refine st_if (y_gt_i rfl rfl) rfl (fun hg => ?_) (fun hg => ?_)
    · refine l_nil ?_
      refine q_then ?_
      refine c_true rfl rfl ?_
      refine c_region ?_
      refine st (y_move rfl) rfl ?_
      refine sc rfl rfl isfn30 (c_wCount p q s.length _ _ _ hWs (by omega)) rfl ?_
      rintro _ _ ⟨rfl, rfl⟩
      refine st (y_assign rfl) rfl ?_
      refine l_nil ?_
      exact q_meet () ⟨rfl, rfl, by rw [Nat.min_eq_left (show nW s.length ≤ nW t.length by omega)]; rfl, trivial⟩ rfl
    ·
      refine l_nil ?_
      refine q_then ?_
      refine c_false rfl rfl ?_
      refine c_skip ?_
      exact q_meet () ⟨rfl, rfl, by rw [Nat.min_eq_right (show nW t.length ≤ nW s.length by omega)]; rfl, trivial⟩ rfl
  ·
    rintro _ w0 hw0
    subst hw0
    obtain ⟨l, hl⟩ : ∃ l, min (nW s.length) (nW t.length) = l := ⟨_, rfl⟩
    rw [hl]
    obtain ⟨N, hN⟩ : ∃ N, max s.length t.length = N := ⟨_, rfl⟩
    have hNN : nW N = max (nW s.length) (nW t.length) := by rw [← hN]; unfold nW; omega
    have hNb : nW N ≤ 200 := by omega
    refine c_cut (fun _ : Nat × List Nat × List Nat => [(0, vP p), (1, vP p2), (4, vI (l : Nat))]) (fun x w' => BW w' p x.1 N x.2.1 x.2.2 ∧ x.2.1.length = nW N ∧ (∀ j, x.2.1.getD j 0 = wordAt s j) ∧ (x.1 = q ∨ w0.heap.size ≤ x.1) ∧ Keep w0 w' [p, q]) ?_ ?_
    · have hWsd := hWs.drew
      have hWtd := hWt.drew
      have hKd := Keep.drew w0 [p, q]
      have hst1 := hWsd.st
      have hst2 := hWtd.st
      have keepS : t.length ≤ s.length → BW w0.drew p q N (pack s) tls ∧ (pack s).length = nW N ∧ ∀ j, (pack s).getD j 0 = wordAt s j := fun h => ⟨by rw [← hN, Nat.max_eq_left h]; exact hWsd, by rw [hns, ← hN, Nat.max_eq_left h], fun j => pack_getD s j⟩
      refine c_seq ?_
      refine c_still mixed (by kernel_rfl) ?_
      refine ss (y_move rfl) rfl ?_
      refine ss (y_nil rfl) rfl ?_
      refine ss (fa58_0 rfl) rfl ?_
      refine ss (y_loadb rfl one22 (by assumption) (by rfl)) rfl ?_
      refine ss_if (y_gt_u (b := 0) rfl rfl) rfl (fun h1 => ?_) (fun h1 => ?_)
      · refine ss (y_move rfl) rfl ?_
        refine ssg rfl rfl (y_move rfl) rfl ?_
        refine ssg rfl rfl (y_nil rfl) rfl ?_
        refine ssg rfl rfl (fa58_0 rfl) rfl ?_
        refine ssg rfl rfl (y_loadb rfl one22 (by assumption) (by rfl)) rfl ?_
        refine ssg rfl rfl (y_sub_u (b := 1) rfl rfl (by omega) (by omega)) rfl ?_
        refine ssg rfl rfl (y_move rfl) rfl ?_
        refine ssg rfl rfl (y_nil rfl) rfl ?_
        refine ssg rfl rfl (fa58_0 rfl) rfl ?_
        refine ssg rfl rfl (y_loadb rfl one22 (by assumption) (by rfl)) rfl ?_
        refine ssg_if rfl rfl (y_ge_u rfl rfl) rfl (fun h2 => ?_) (fun h2 => ?_)
        · refine ss (y_pickT rfl rfl) rfl ?_
          refine s_nil ?_
          refine q_then ?_
          refine c_true rfl rfl ?_
          refine c_region ?_
          refine st (y_move rfl) rfl ?_
          refine st (y_move rfl) rfl ?_
          refine st (y_nil rfl) rfl ?_
          refine st (fa58_0 rfl) rfl ?_
          refine st (y_loadb rfl one22 (by assumption) (by rfl)) rfl ?_
          refine st (y_sub_u (b := 1) rfl rfl (by omega) (by omega)) rfl ?_
          refine sc rfl rfl isfn31 (c_extendSet p q s.length (pack s) tls (t.length - 1) _ hWsd (by omega) (by rw [hns]; exact nW_le _ _ (by omega))) rfl ?_
          rintro _ w1 ⟨rfl, q1, tl1, hW1, hq1, hK1⟩
          refine l_nil ?_
          rw [show t.length - 1 + 1 = t.length by omega, hns] at hW1
          have hmx : N = t.length := by rw [← hN]; exact Nat.max_eq_right (by omega)
          have hle : nW s.length ≤ nW t.length := nW_le _ _ (by omega)
          refine q_meet (q1, _, tl1) ⟨rfl, rfl, rfl, trivial⟩ ⟨by rw [hmx]; exact hW1, by simp only [List.length_append, List.length_replicate]; rw [hns, hmx]; omega, fun j => ?_, hq1, hKd.trans hK1 (fun i hi => .inl hi)⟩
          simp only
          by_cases hj : j < (pack s).length
          · rw [getD_app hj, pack_getD]
          · rw [past_word s j (by omega), List.getD_eq_getElem?_getD, List.getElem?_append_right (by omega), List.getElem?_replicate]
            split <;> rfl
        ·
          obtain ⟨e1, e2, e3⟩ := keepS (by omega)
          refine ss (y_pickT rfl rfl) rfl ?_
          refine s_nil ?_
          refine q_then ?_
          refine c_false rfl rfl ?_
          refine c_skip ?_
          exact q_meet (q, pack s, tls) ⟨rfl, rfl, rfl, trivial⟩ ⟨e1, e2, e3, .inl rfl, hKd⟩
      ·
        obtain ⟨e1, e2, e3⟩ := keepS (by omega)
        refine ss (y_move rfl) rfl ?_
        refine ssno rfl rfl rfl rfl ?_
        refine ssno rfl rfl rfl rfl ?_
        refine ssno rfl rfl rfl rfl ?_
        refine ssno rfl rfl rfl rfl ?_
        refine ssno rfl rfl rfl rfl ?_
        refine ssno rfl rfl rfl rfl ?_
        refine ssno rfl rfl rfl rfl ?_
        refine ssno rfl rfl rfl rfl ?_
        refine ssno rfl rfl rfl rfl ?_
        refine ssno rfl rfl rfl rfl ?_
        refine ss (y_pickF rfl rfl) rfl ?_
        refine s_nil ?_
        refine q_then ?_
        refine c_false rfl rfl ?_
        refine c_skip ?_
        exact q_meet (q, pack s, tls) ⟨rfl, rfl, rfl, trivial⟩ ⟨e1, e2, e3, .inl rfl, hKd⟩
    ·
      rintro ⟨q3, W3, tl3⟩ w3 ⟨hW3, hW3l, hW3j, hq3, hK3⟩
      simp only at hW3 hW3l hW3j hq3 hK3 ⊢
      have hq3n : q3 ≠ p2 ∧ q3 ≠ q2 := by omega
      have hWt3 := hWt.keep hK3 (by simp only [List.mem_cons, List.not_mem_nil, or_false]; omega) (by simp only [List.mem_cons, List.not_mem_nil, or_false]; omega)
      refine c_cut (fun _ : List Nat => [(0, vP p), (1, vP p2), (4, vI (l : Nat))]) (fun W w' => BW w' p q3 N W tl3 ∧ W.length = nW N ∧ (∀ j, W.getD j 0 = if j < l then wordAt (joined gXor s t) j else wordAt s j) ∧ Keep w3 w' [q3]) ?_ ?_
      · refine c_seq ?_
        refine c_region ?_
        refine st (y_move rfl) rfl ?_
        refine st_if (y_gt_i (b := 0) rfl rfl) rfl (fun h0 => ?_) (fun h0 => ?_)
        · have hW3d := hW3.drew
          have hWt3d := hWt3.drew
          have hKd := Keep.drew w3 [q3]
          have hst1 := hW3d.st
          have hst2 := hWt3d.st
          have hwd1 := hW3d.wd
          have hwd2 := hWt3d.wd
          refine l_nil ?_
          refine q_then ?_
          refine c_true rfl rfl ?_
          refine c_seq ?_
          refine c_still mixed (by kernel_rfl) ?_
          refine ss (y_move rfl) rfl ?_
          refine ss (y_nil rfl) rfl ?_
          refine ss (fa58_1 rfl) rfl ?_
          refine ss (y_loadb rfl one56 (by assumption) (by rfl)) rfl ?_
          refine ss (y_move rfl) rfl ?_
          refine ss (y_nil rfl) rfl ?_
          refine ss (fa58_1 rfl) rfl ?_
          refine ss (y_loadb rfl one56 (by assumption) (by rfl)) rfl ?_
          refine ss (y_assign rfl) rfl ?_
          refine ss (y_assign rfl) rfl ?_
          refine s_nil ?_
          refine q_then ?_
          refine c_seq ?_
          refine c_region ?_
          refine st (y_move rfl) rfl ?_
          refine st (y_move rfl) rfl ?_
          refine st (y_sub_i (b := 1) rfl rfl (by omega) (by omega)) rfl ?_
          rw [show ((l : Int) - 1) = ((l - 1 : Nat) : Int) by omega]
          first | refine st (y_index0 rfl rfl Tryd.underlying56 sz60 (by omega)) rfl ?_ | refine st (y_index rfl rfl Tryd.underlying56 sz60 (by omega)) rfl ?_ | refine st (y_indexA rfl rfl Tryd.underlying56 sz60 (by omega)) rfl ?_
          first | refine st (y_loadM (0) rfl one60 (by assumption) (by first | omega | (simp only [List.length_append, List.length_map, List.length_replicate, List.length_set, List.length_take, List.length_drop]; omega) | (simp; done))) rfl ?_ | refine st (y_load rfl one60 (by assumption)) rfl ?_
          refine l_nil ?_
          refine q_then ?_
          refine c_seq ?_
          refine c_region ?_
          refine st (y_move rfl) rfl ?_
          refine st (y_move rfl) rfl ?_
          refine st (y_sub_i (b := 1) rfl rfl (by omega) (by omega)) rfl ?_
          rw [show ((l : Int) - 1) = ((l - 1 : Nat) : Int) by omega]
          first | refine st (y_index0 rfl rfl Tryd.underlying56 sz60 (by omega)) rfl ?_ | refine st (y_index rfl rfl Tryd.underlying56 sz60 (by omega)) rfl ?_ | refine st (y_indexA rfl rfl Tryd.underlying56 sz60 (by omega)) rfl ?_
          first | refine st (y_loadM (0) rfl one60 (by assumption) (by first | omega | (simp only [List.length_append, List.length_map, List.length_replicate, List.length_set, List.length_take, List.length_drop]; omega) | (simp; done))) rfl ?_ | refine st (y_load rfl one60 (by assumption)) rfl ?_
          refine l_nil ?_
          refine q_then ?_
          refine c_seq ?_
          refine c_region ?_
          refine st (y_assign (v := vI ((0 : Nat) : Int)) rfl) rfl ?_
          refine l_nil ?_
          refine q_then ?_
          refine c_block ?_
          refine c_loop (fun x : Nat × List Nat => [(0, vP p), (1, vP p2), (4, vI (l : Nat)), (5, vS q3 W3.length (W3.length + tl3.length)), (6, vS q2 (pack t).length ((pack t).length + tlt.length)), (7, vI (x.1 : Nat))]) (fun x w' => x.1 ≤ l ∧ BW w' p q3 N x.2 tl3 ∧ x.2.length = nW N ∧ (∀ j, x.2.getD j 0 = if j < x.1 then wordAt (joined gXor s t) j else wordAt s j) ∧ Keep w3 w' [q3]) (fun x => l - x.1) (0, W3) ?_ ?_ ?_
          · exact ⟨rfl, rfl, rfl, rfl, rfl, rfl, trivial⟩
          · exact ⟨Nat.zero_le _, hW3d, hW3l, fun j => by simp only; rw [hW3j, if_neg (by omega)], hKd⟩
          · rintro ⟨k, W⟩ w4 ⟨hk, hW4, hWl, hWj, hK4⟩
            simp only at hk hW4 hWl hWj hK4 ⊢
            have hWt4 := hWt3.keep hK4 (by simp only [List.mem_singleton]; omega) (by simp only [List.mem_singleton]; omega)
            refine c_seq ?_
            refine c_seq ?_
            refine c_region ?_
            refine st (y_move rfl) rfl ?_
            refine st (y_move rfl) rfl ?_
            refine st_if (y_lt_i rfl rfl) rfl (fun hlt => ?_) (fun hlt => ?_)
            · have hgs : (W ++ tl3).getD k 0 = wordAt s k := by rw [getD_app (by omega), hWj, if_neg (by omega)]
              have hgt : (pack t ++ tlt).getD k 0 = wordAt t k := by rw [getD_app (by omega), pack_getD]
              have hla := wordAt_lt s k
              have hlb := wordAt_lt t k
              have hW4d := hW4.drew
              have hWt4d := hWt4.drew
              refine l_nil ?_
              refine q_then ?_
              refine c_true rfl rfl ?_
              refine c_skip ?_
              refine q_then ?_
              refine c_seq ?_
              refine c_block ?_
              have hwdt4 := hWt4d.wd
              have hwd4 := hW4d.wd
              refine c_tail 10 mixed (by kernel_rfl) ?_
              refine ss (y_move rfl) rfl ?_
              refine ss (y_move rfl) rfl ?_
              first | refine ss (y_index0 rfl rfl Tryd.underlying56 sz60 (by omega)) rfl ?_ | refine ss (y_index rfl rfl Tryd.underlying56 sz60 (by omega)) rfl ?_ | refine ss (y_indexA rfl rfl Tryd.underlying56 sz60 (by omega)) rfl ?_
              first | refine ss (y_loadM (0) rfl one60 (by assumption) (by first | omega | (simp only [List.length_append, List.length_map, List.length_replicate, List.length_set, List.length_take, List.length_drop]; omega) | (simp; done))) rfl ?_ | refine ss (y_load rfl one60 (by assumption)) rfl ?_
              rw [hgs]
              refine ss (y_move rfl) rfl ?_
              refine ss (y_move rfl) rfl ?_
              first | refine ss (y_index0 rfl rfl Tryd.underlying56 sz60 (by omega)) rfl ?_ | refine ss (y_index rfl rfl Tryd.underlying56 sz60 (by omega)) rfl ?_ | refine ss (y_indexA rfl rfl Tryd.underlying56 sz60 (by omega)) rfl ?_
              first | refine ss (y_loadM (0) rfl one60 (by assumption) (by first | omega | (simp only [List.length_append, List.length_map, List.length_replicate, List.length_set, List.length_take, List.length_drop]; omega) | (simp; done))) rfl ?_ | refine ss (y_load rfl one60 (by assumption)) rfl ?_
              rw [hgt]
              refine ss (y_xor rfl rfl (by first | omega | assumption | (repeat (first | assumption | omega | decide | exact shl_lt64 _ _ | apply and_lt64 | apply or_lt64 | apply xor_lt64 | apply nt_lt | apply shr_lt64 | apply getD_lt64))) (by first | omega | assumption | (repeat (first | assumption | omega | decide | exact shl_lt64 _ _ | apply and_lt64 | apply or_lt64 | apply xor_lt64 | apply nt_lt | apply shr_lt64 | apply getD_lt64)))) rfl ?_
              first | refine ss (y_index0 rfl rfl Tryd.underlying56 sz60 (by omega)) rfl ?_ | refine ss (y_index rfl rfl Tryd.underlying56 sz60 (by omega)) rfl ?_ | refine ss (y_indexA rfl rfl Tryd.underlying56 sz60 (by omega)) rfl ?_
              refine s_nil ?_
              show wpL _ _ _ _ _ _ _ _
              refine st_storeM vU rfl rfl rfl sz60 (by assumption) (by first | omega | (simp only [List.length_append, List.length_map, List.length_replicate, List.length_set, List.length_take, List.length_drop]; omega)) rfl ?_
              intro w5 hw5 hK5 hS5
              refine l_nil ?_
              refine q_block ?_
              refine q_then ?_
              refine c_region ?_
              refine st (y_move rfl) rfl ?_
              first | refine st (y_add_in (b := 1) rfl rfl (by omega)) rfl ?_ | refine st (y_add_i (b := 1) rfl rfl (by omega) (by omega)) rfl ?_
              refine st (y_assign rfl) rfl ?_
              refine l_nil ?_
              have hW5 := hW4d.store hw5 hK5 (bw_xor.2 _ _ hla hlb) (by omega)
              refine q_round (k + 1, _) ⟨rfl, rfl, rfl, rfl, rfl, rfl, trivial⟩ ⟨by simp only; omega, hW5, by simpa using hWl, fun j => ?_, (hK4.trans (Keep.drew w4 []) (by simp)).trans hK5 (fun i hi => .inl hi)⟩ (by simp only; omega)
              simp only
              rw [set_getD_nat _ _ _ _ (by omega), hWj]
              by_cases h1 : j = k
              · rw [if_pos h1, if_pos (by omega), h1, huw]
              · rw [if_neg h1]
                by_cases h2 : j < k
                · rw [if_pos h2, if_pos (by omega)]
                · rw [if_neg h2, if_neg (by omega)]
            ·
              have hke : k = l := by omega
              subst hke
              refine l_nil ?_
              refine q_then ?_
              refine c_false rfl rfl ?_
              refine c_exit ?_
              refine q_then_exit ?_
              refine q_then_exit ?_
              refine q_block_hit ?_
              exact q_meet W ⟨rfl, rfl, rfl, trivial⟩ ⟨hW4, hWl, hWj, hK4⟩
        ·
          have hl0 : l = 0 := by omega
          refine l_nil ?_
          refine q_then ?_
          refine c_false rfl rfl ?_
          refine c_skip ?_
          exact q_meet W3 ⟨rfl, rfl, rfl, trivial⟩ ⟨hW3, hW3l, fun j => by rw [hW3j, if_neg (by omega)], Keep.refl _ _⟩
      ·
        rintro W4 w4 ⟨hW4, hW4l, hW4j, hK4⟩
        have hWt4 := hWt3.keep hK4 (by simp only [List.mem_singleton]; omega) (by simp only [List.mem_singleton]; omega)
        have hstt4 := hWt4.st
        have fin : ∀ (w' : World) (W : List Nat) (m : Nat), BW w' p q3 N W tl3 → W.length = nW N → nW t.length ≤ m → l ≤ m → (∀ j, W.getD j 0 = if j < m then wordAt (joined gXor s t) j else wordAt s j) → BSet w' p q3 (joined gXor s t) := by
          intro w' W m h hWl hm1 hm2 hWj
          refine h.fin (by rw [hul, hN]) (by rw [hWl, hul, hN]) fun j hj => ?_
          rw [hWj]
          by_cases h1 : j < m
          · rw [if_pos h1]
          · rw [if_neg h1, huw, past_word t j (by omega)]
            exact (Nat.xor_zero _).symm
        have hKf : ∀ w' : World, Keep w3 w' [q3] → Keep w0 w' [p, q] := fun w' h => hK3.trans h (fun i hi => by
          simp only [List.mem_singleton] at hi
          subst hi
          rcases hq3 with h | h
          · left; rw [h]; simp
          · exact .inr h)
        refine c_seq ?_
        refine c_region ?_
        refine st (y_move rfl) rfl ?_
        refine st (y_nil rfl) rfl ?_
        refine st (fa58_1 rfl) rfl ?_
        refine st (y_loadb rfl one56 (by assumption) (by rfl)) rfl ?_
        refine st (y_len rfl Tryd.underlying56) rfl ?_
        refine st (y_move rfl) rfl ?_
        refine st_if (y_gt_i rfl rfl) rfl (fun hgt => ?_) (fun hgt => ?_)
        · refine l_nil ?_
          refine q_then ?_
          refine c_true rfl rfl ?_
          refine c_seq ?_
          refine c_region ?_
          refine st (y_move rfl) rfl ?_
          refine st (y_assign rfl) rfl ?_
          refine l_nil ?_
          refine q_then ?_
          refine c_block ?_
          refine c_loop (fun x : Nat × List Nat => [(0, vP p), (1, vP p2), (8, vI (x.1 : Nat))]) (fun x w' => l ≤ x.1 ∧ x.1 ≤ nW t.length ∧ BW w' p q3 N x.2 tl3 ∧ x.2.length = nW N ∧ (∀ j, x.2.getD j 0 = if j < x.1 then wordAt (joined gXor s t) j else wordAt s j) ∧ Keep w3 w' [q3]) (fun x => nW t.length - x.1) (l, W4) ?_ ?_ ?_
          · exact ⟨rfl, rfl, rfl, trivial⟩
          · exact ⟨Nat.le_refl _, by simp only; omega, hW4, hW4l, hW4j, hK4⟩
          · rintro ⟨k, W⟩ w5 ⟨hk1, hk2, hW5, hWl, hWj, hK5⟩
            simp only at hk1 hk2 hW5 hWl hWj hK5 ⊢
            have hWt5 := hWt3.keep hK5 (by simp only [List.mem_singleton]; omega) (by simp only [List.mem_singleton]; omega)
            have hstt5 := hWt5.st
            refine c_seq ?_
            refine c_seq ?_
            refine c_region ?_
            refine st (y_move rfl) rfl ?_
            refine st (y_move rfl) rfl ?_
            refine st (y_nil rfl) rfl ?_
            refine st (fa58_1 rfl) rfl ?_
            refine st (y_loadb rfl one56 (by assumption) (by rfl)) rfl ?_
            refine st (y_len rfl Tryd.underlying56) rfl ?_
            refine st_if (y_lt_i rfl rfl) rfl (fun hlt => ?_) (fun hlt => ?_)
            · have hgt : (pack t ++ tlt).getD k 0 = wordAt t k := by rw [getD_app (by omega), pack_getD]
              have hlb := wordAt_lt t k
              have hW5d := hW5.drew
              have hWt5d := hWt5.drew
              have hst5 := hW5d.st
              have hstt5d := hWt5d.st
              have hwdt5 := hWt5d.wd
              have hwd5 := hW5d.wd
              have hsk : wordAt s k = 0 := past_word s k (by omega)
              refine l_nil ?_
              refine q_then ?_
              refine c_true rfl rfl ?_
              refine c_skip ?_
              refine q_then ?_
              refine c_seq ?_
              refine c_block ?_
              refine c_tail 13 mixed (by kernel_rfl) ?_
              refine ss (y_move rfl) rfl ?_
              refine ss (y_nil rfl) rfl ?_
              refine ss (fa58_1 rfl) rfl ?_
              refine ss (y_loadb rfl one56 (by assumption) (by rfl)) rfl ?_
              refine ss (y_move rfl) rfl ?_
              refine ss (y_move rfl) rfl ?_
              refine ss (y_nil rfl) rfl ?_
              refine ss (fa58_1 rfl) rfl ?_
              refine ss (y_loadb rfl one56 (by assumption) (by rfl)) rfl ?_
              refine ss (y_move rfl) rfl ?_
              first | refine ss (y_index0 rfl rfl Tryd.underlying56 sz60 (by omega)) rfl ?_ | refine ss (y_index rfl rfl Tryd.underlying56 sz60 (by omega)) rfl ?_ | refine ss (y_indexA rfl rfl Tryd.underlying56 sz60 (by omega)) rfl ?_
              first | refine ss (y_loadM (0) rfl one60 (by assumption) (by first | omega | (simp only [List.length_append, List.length_map, List.length_replicate, List.length_set, List.length_take, List.length_drop]; omega) | (simp; done))) rfl ?_ | refine ss (y_load rfl one60 (by assumption)) rfl ?_
              rw [hgt]
              first | refine ss (y_index0 rfl rfl Tryd.underlying56 sz60 (by omega)) rfl ?_ | refine ss (y_index rfl rfl Tryd.underlying56 sz60 (by omega)) rfl ?_ | refine ss (y_indexA rfl rfl Tryd.underlying56 sz60 (by omega)) rfl ?_
              refine s_nil ?_
              show wpL _ _ _ _ _ _ _ _
              refine st_storeM vU rfl rfl rfl sz60 (by assumption) (by first | omega | (simp only [List.length_append, List.length_map, List.length_replicate, List.length_set, List.length_take, List.length_drop]; omega)) rfl ?_
              intro w6 hw6 hK6 hS6
              refine l_nil ?_
              refine q_block ?_
              refine q_then ?_
              refine c_region ?_
              refine st (y_move rfl) rfl ?_
              first | refine st (y_add_in (b := 1) rfl rfl (by omega)) rfl ?_ | refine st (y_add_i (b := 1) rfl rfl (by omega) (by omega)) rfl ?_
              refine st (y_assign rfl) rfl ?_
              refine l_nil ?_
              have hW6 := hW5d.store hw6 hK6 hlb (by omega)
              refine q_round (k + 1, _) ⟨rfl, rfl, rfl, trivial⟩ ⟨by simp only; omega, by simp only; omega, hW6, by simpa using hWl, fun j => ?_, (hK5.trans (Keep.drew w5 []) (by simp)).trans hK6 (fun i hi => .inl hi)⟩ (by simp only; omega)
              simp only
              rw [set_getD_nat _ _ _ _ (by omega), hWj]
              by_cases h1 : j = k
              · rw [if_pos h1, if_pos (by omega), h1, huw, hsk]
                exact (Nat.zero_xor _).symm
              · rw [if_neg h1]
                by_cases h2 : j < k
                · rw [if_pos h2, if_pos (by omega)]
                · rw [if_neg h2, if_neg (by omega)]
            ·
              refine l_nil ?_
              refine q_then ?_
              refine c_false rfl rfl ?_
              refine c_exit ?_
              refine q_then_exit ?_
              refine q_then_exit ?_
              refine q_block_hit ?_
              refine q_end0 (.inr rfl) rfl ?_
              exact ⟨_, rfl, rfl, q3, _, fin _ W k hW5 hWl (by omega) (by omega) hWj, rfl, Nat.le_of_eq hul, hq3, hKf _ hK5⟩
        ·
          refine l_nil ?_
          refine q_then ?_
          refine c_false rfl rfl ?_
          refine c_skip ?_
          refine q_end0 (.inr rfl) rfl ?_
          exact ⟨_, rfl, rfl, q3, _, fin _ W4 l hW4 hW4l (by omega) (Nat.le_refl _) hW4j, rfl, Nat.le_of_eq hul, hq3, hKf _ hK4⟩

end Go.Proofs.YtefhjchhfpjciaaDoor

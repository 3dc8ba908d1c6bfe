/- The bytes of a set are read as the set, by two roads, with more behind them: the statement's own walk. -/
import Derived.Test.YtkemlhhpakjojaaDoorZ6
set_option linter.unusedVariables false
set_option linter.unusedSimpArgs false
set_option maxRecDepth 100000
set_option maxHeartbeats 1000000
namespace Go.Proofs.YtkemlhhpakjojaaDoor
open Go Go.RowKit

theorem c_FnOfBytes (L : Nat) (A : Option Addr) (n c : Nat) (xs : List Nat) (A1 : Option Addr) (n1 c1 : Nat) (x1 : List Nat) (w : World) (hT : Tb w) (hR : Rd w A n xs) (hN1 : A1 = none → c1 = 0) (h18 : ∀ x ∈ x1, x < 256) (hR1 : Rd8 w A1 n1 x1) :
    Cal Tryd.prog 4 [aB L A n c, .slice A1 n1 c1] w fun v w' => v = vB true ∧ Keep w w' [] := by
  have hx1l := hR1.1
  refine go_in' Tryd.func4 rfl Tryd.ntmps4 (Nat.le_of_ble_eq_true rfl) ?_
  refine c_seq ?_
  refine c_region ?_
  refine st_box _ rfl rfl rfl ?_
  intro b1 w1 hb1 hB1 hK1 hS1
  refine st (y_assign rfl) rfl ?_
  refine l_nil ?_
  refine q_then ?_
  refine c_seq ?_
  refine c_seq ?_
  refine c_region ?_
  refine st (y_loadagg rfl agg25 us25 sz25 (by assumption) (by simp) (by rfl)) rfl ?_
  refine sc rfl rfl isfn5 (c_zzFits1 L A n c _) rfl ?_
  rintro _ w2 ⟨rfl, hK2⟩
  have hB1 := hB1.keep hK2 (by simp only [List.mem_cons, List.not_mem_nil, or_false, not_or, not_false_eq_true] <;> omega)
  have hK := hK1.trans hK2 (by simp)
  clear hK1 hK2
  rcases Bool.eq_false_or_eq_true (decide (n ≤ 2147483647)) with hz | hz
  · rw [hz]
    refine st (y_not rfl) rfl ?_
    refine st (y_move rfl) rfl ?_
    refine stg rfl rfl (y_move rfl) rfl ?_
    refine stg rfl rfl (y_len rfl Tryd.underlying32) rfl ?_
    refine stg_if rfl rfl (y_gt_i (b := 2147483647) rfl rfl) rfl (fun hz2 => ?_) (fun hz2 => ?_)
    · refine st (y_pickF rfl rfl) rfl ?_
      refine l_nil ?_
      refine q_then ?_
      refine c_true rfl rfl ?_
      refine c_seq ?_
      refine c_region ?_
      refine st (y_assign rfl) rfl ?_
      refine l_nil ?_
      refine q_then ?_
      refine c_ret ?_
      refine q_then_ret ?_
      refine q_end1 (.inl rfl) rfl rfl ?_
      exact ⟨_, rfl, rfl, hK⟩
    ·
      refine st (y_pickF rfl rfl) rfl ?_
      refine l_nil ?_
      refine q_then ?_
      refine c_false rfl rfl ?_
      refine c_skip ?_
      refine q_then ?_
      refine c_seq ?_
      refine c_region ?_
      refine st (y_loadagg rfl agg25 us25 sz25 (by assumption) (by simp) (by rfl)) rfl ?_
      refine sc rfl rfl isfn6 (c_set L A n c xs _ (hR.keep hK (by simp))) rfl ?_
      rintro _ w3 ⟨hK3, ⟨ho, b, rfl, hBl, hb⟩ | rfl⟩
      · have hK' := hK.trans hK3 (by simp)
        have hlen := ho.len
        clear hK hK3 hB1
        obtain ⟨s, hs⟩ : ∃ s, mkS L xs = s := ⟨_, rfl⟩
        rw [hs] at hlen hBl ⊢
        have h8 := setB_lt s
        have hsl := setB_len s
        have hnW : nW s.length ≤ 100 := by unfold nW; omega
        obtain ⟨N, hN⟩ : ∃ N, (setB s).length = N := ⟨_, rfl⟩
        refine st (y_move rfl) rfl ?_
        refine st (y_extract rfl rfl) rfl ?_
        refine st (y_extract rfl rfl) rfl ?_
        refine st (y_assign rfl) rfl ?_
        refine st (y_assign rfl) rfl ?_
        refine l_nil ?_
        refine q_then ?_
        refine c_seq ?_
        refine c_seq ?_
        refine c_region ?_
        refine st (y_move rfl) rfl ?_
        refine st (y_not rfl) rfl ?_
        refine st (y_move rfl) rfl ?_
        refine stg rfl rfl (y_move rfl) rfl ?_
        refine stg rfl rfl (y_len rfl Tryd.underlying32) rfl ?_
        refine stg_if rfl rfl (y_gt_i (b := 100) rfl rfl) rfl (fun hmore => ?_) (fun hmore => ?_)
        · refine st (y_pickF rfl rfl) rfl ?_
          refine l_nil ?_
          refine q_then ?_
          refine c_true rfl rfl ?_
          refine c_seq ?_
          refine c_region ?_
          refine st (y_assign rfl) rfl ?_
          refine l_nil ?_
          refine q_then ?_
          refine c_ret ?_
          refine q_then_ret ?_
          refine q_end1 (.inl rfl) rfl rfl ?_
          exact ⟨_, rfl, rfl, hK'⟩
        ·
          refine st (y_pickF rfl rfl) rfl ?_
          refine l_nil ?_
          refine q_then ?_
          refine c_false rfl rfl ?_
          refine c_skip ?_
          refine q_then ?_
          refine c_seq ?_
          refine c_region ?_
          refine st (y_move rfl) rfl ?_
          refine sc rfl rfl isfn7 (c_specBytes b s _ hBl (by omega)) rfl ?_
          rintro _ w4 ⟨pb, pc, rfl, hO4, hK4⟩
          have hK14 := hK'.trans hK4 (by simp)
          have hBl4 := hBl.keep hK4 (by simp)
          obtain ⟨hpl, hpb, tail, hBp, _, hpc, _⟩ := hO4.at
          rw [List.length_map, hN] at hpc
          rw [hN] at hsl ⊢
          have hRb := hBp.rd8 (m := N) (by omega) (by omega)
          have htk : (setB s).take N = setB s := List.take_of_length_le (by omega)
          rw [htk] at hRb
          refine st (y_assign rfl) rfl ?_
          refine l_nil ?_
          refine q_then ?_
          refine c_seq ?_
          refine c_region ?_
          refine st (y_move rfl) rfl ?_
          refine sc rfl rfl isfn8 (c_implUnm (some ⟨pb, 0, none⟩) N pc (setB s) s _ (hT.keep hK14 (by simp)) hRb (fun h => by cases h) h8 (by rw [hN]; exact htk) (by omega) (by omega) (by omega)) rfl ?_
          rintro _ w5 ⟨A5, c5, rfl, hO5, hK5⟩
          have hBp5 := hBp.keep hK5 (by simp)
          have hBl5 := hBl4.keep hK5 (by simp)
          have hK15 := hK14.trans hK5 (by simp)
          have hbpl := hBp5.lt
          have hbll : b < w5.heap.size := Blk.lt hBl5
          refine st (y_move rfl) rfl ?_
          refine st (y_extract rfl rfl) rfl ?_
          refine st (y_extract rfl rfl) rfl ?_
          refine st_alloc [.int .u64 0, .slice none 0 0] zv25 rfl rfl ?_
          intro b6 w6 hb6 hB6 hK6 hS6
          refine st_storeagg rfl rfl (by simp [Value.oneCell']) sz25 rfl (by assumption) (by simp) rfl ?_
          intro w7 hB7' hK7 hS7
          clear hB6
          have hB7 : Blk w7 b6 25 [vU s.length, .slice A5 (nums s).length c5] := hB7'
          clear hB7'
          have hK57 : Keep w5 w7 [] := hK6.trans hK7 (fun i hi => by simp only [List.mem_singleton] at hi; exact .inr (by omega))
          have hBp7 := hBp5.keep hK57 (by simp)
          have hBl7 := hBl5.keep hK57 (by simp)
          have hO7 := hO5.keep hK57 (by simp)
          have hK17 := hK15.trans hK57 (by simp)
          refine st (y_assign rfl) rfl ?_
          refine l_nil ?_
          refine q_then ?_
          refine c_seq ?_
          refine c_region ?_
          refine st_buildSlice0 Tryd.underlying32 sz5 rfl ?_
          intro b8 w8 hb8 hB8 hK8 hS8
          have hBp8 := hBp7.keep hK8 (by simp)
          have hO8 : Ow w8 b8 5 (vS b8 0 0) ([] : List Value) := Ow.empty hB8 (Nat.le_refl _)
          have hb6l := hB7.lt
          have hsrc : ∀ j u', ((setB s).map v8)[j]? = some u' → w8.cell? ((⟨pb, 0, none⟩ : Addr).add j) = some u' := by
            intro j u' hj
            rw [add_pt, Nat.zero_add]
            refine hBp8.cell ?_
            rw [List.getElem?_append_left (List.getElem?_eq_some_iff.1 hj).1]
            exact hj
          refine st (y_move rfl) rfl ?_
          obtain ⟨i5, hi1, hi2, hi3, hi4⟩ := info_parts inf5
          refine st_appendB (news := (setB s).map v8) rfl rfl Tryd.underlying32 hi1 hi2 hi3 (by omega) rfl (by rw [List.length_map]; exact hN) (hsrc) (one_map8 _) (by assumption) (by first | omega | (simp only [List.length_map, List.length_nil, List.length_append, List.length_cons, List.length_take, List.length_drop]; omega) | simp) (by omega) (by omega) rfl ?_
          clear hi1 hi2 hi3 hi4
          intro v9 w9 hO9 hK9
          rw [List.nil_append] at hO9
          have hK79 : Keep w7 w9 [] := hK8.trans hK9 (fun i hi => by simp only [List.mem_singleton] at hi; exact .inr (by omega))
          have hR19 := hR1.keep (hK17.trans hK79 (by simp)) (by simp)
          have hv9 : ∃ b9 n9 c9, v9 = vS b9 n9 c9 ∧ b8 ≤ b9 := by
            rcases hO9 with ⟨_, h⟩ | ⟨b9, c9, tl9, rfl, hb9, hB9, hc9, hm9⟩
            · have := congrArg List.length h
              rw [List.length_map, List.length_nil] at this
              omega
            · exact ⟨b9, _, c9, rfl, hb9⟩
          obtain ⟨b9, n9, c9, rfl, hb9⟩ := hv9
          have hsz9 := hK9.size
          refine st (y_move rfl) rfl ?_
          obtain ⟨i5, hi1, hi2, hi3, hi4⟩ := info_parts inf5
          refine st_appendU (news := x1.map v8) rfl rfl Tryd.underlying32 hi1 hi2 hi3 (by omega) rfl (fun h => ?hA1) (by rw [List.length_map]; exact hx1l) (fun ad h => by subst h; exact hR19.news8) (one_map8 _) hO9 (by rw [List.length_map]; omega) (by omega) (by omega) rfl ?_
          case hA1 =>
            refine ⟨?_, hN1 h⟩
            rcases Nat.eq_zero_or_pos n1 with h0 | h0
            · exact h0
            · obtain ⟨_, e, _⟩ := hR1.2.2 h0
              rw [h] at e; cases e
          clear hi1 hi2 hi3 hi4
          intro v10 w10 hO10 hK10
          rw [← List.map_append] at hO10
          obtain ⟨A10, c10, rfl, hR10, hA10⟩ := hO10.rd8
          have hyl : (setB s ++ x1).length = N + n1 := by rw [List.length_append, hN, hx1l]
          have hK710 : Keep w7 w10 [] := hK79.trans hK10 (fun i hi => by simp only [List.mem_singleton] at hi; exact .inr (by omega))
          have hBl10 := hBl7.keep hK710 (by simp)
          have hB10 := hB7.keep hK710 (by simp)
          have hO710 := hO7.keep hK710 (by simp)
          have hK110 := hK17.trans hK710 (by simp)
          clear hB7
          refine sc rfl rfl isfn9 (c_implRead A10 _ c10 (setB s ++ x1) s _ (hT.keep hK110 (by simp)) hR10 hA10 (fun x hx => by rcases List.mem_append.1 hx with h | h; exact h8 x h; exact h18 x h) (by rw [List.take_left' rfl]) (by rw [hyl, hN]; omega) (by rw [hyl]; omega) (by omega)) rfl ?_
          rintro _ w11 ⟨A11, c11, rfl, hO11, hK11⟩
          have hBl11 := hBl10.keep hK11 (by simp)
          have hB11 := hB10.keep hK11 (by simp)
          have hO711 := hO710.keep hK11 (by simp)
          have hK111 := hK110.trans hK11 (by simp)
          have hb6l11 := hB11.lt
          clear hB10
          refine st (y_move rfl) rfl ?_
          refine st (y_extract rfl rfl) rfl ?_
          refine st (y_extract rfl rfl) rfl ?_
          refine st (y_extract rfl rfl) rfl ?_
          refine st_alloc [.int .u64 0, .slice none 0 0] zv25 rfl rfl ?_
          intro b12 w12 hb12 hB12 hK12 hS12
          refine st_storeagg rfl rfl (by simp [Value.oneCell']) sz25 rfl (by assumption) (by simp) rfl ?_
          intro w13 hB13' hK13 hS13
          clear hB12
          have hB13 : Blk w13 b12 25 [vU s.length, .slice A11 (nums s).length c11] := hB13'
          clear hB13'
          have hK113 : Keep w11 w13 [] := hK12.trans hK13 (fun i hi => by simp only [List.mem_singleton] at hi; exact .inr (by omega))
          have hBl13 := hBl11.keep hK113 (by simp)
          have hB613 := hB11.keep hK113 (by simp)
          have hO713 := hO711.keep hK113 (by simp)
          have hO1113 := hO11.keep hK113 (by simp)
          have hK114 := hK111.trans hK113 (by simp)
          clear hB11
          refine st (y_assign rfl) rfl ?_
          refine st (y_assign rfl) rfl ?_
          refine l_nil ?_
          refine q_then ?_
          refine c_seq ?_
          refine c_region ?_
          refine st (y_move rfl) rfl ?_
          refine st (y_move rfl) rfl ?_
          refine stg rfl rfl (y_move rfl) rfl ?_
          refine st (y_pickT rfl rfl) rfl ?_
          refine st (y_move rfl) rfl ?_
          refine stg rfl rfl (y_loadagg rfl agg25 us25 sz25 (by assumption) (by simp) (by rfl)) rfl ?_
          refine stg rfl rfl (y_move rfl) rfl ?_
          refine scg rfl rfl rfl rfl isfn10 (c_exactly _ _ _ _ _ _ _ _ _ _ hO713.rd' (hBl13.rdB (by omega)) (by omega) rfl rfl) rfl ?_
          rintro _ w14 ⟨rfl, hK14'⟩
          have hB1314 := hB13.keep hK14' (by simp)
          have hO1114 := hO1113.keep hK14' (by simp)
          have hBl14 := hBl13.keep hK14' (by simp)
          clear hB613 hB13
          refine st (y_pickT rfl rfl) rfl ?_
          refine st (y_move rfl) rfl ?_
          refine stg rfl rfl (y_loadagg rfl agg25 us25 sz25 (by assumption) (by simp) (by rfl)) rfl ?_
          refine stg rfl rfl (y_move rfl) rfl ?_
          refine scg rfl rfl rfl rfl isfn10 (c_exactly _ _ _ _ _ _ _ _ _ _ hO1114.rd' (hBl14.rdB (by omega)) (by omega) rfl rfl) rfl ?_
          rintro _ w15 ⟨rfl, hK15'⟩
          refine st (y_pickT rfl rfl) rfl ?_
          refine st (y_move rfl) rfl ?_
          refine stg rfl rfl (y_move rfl) rfl ?_
          refine stg rfl rfl (y_move rfl) rfl ?_
          refine stg rfl rfl (y_len rfl Tryd.underlying32) rfl ?_
          refine stg_t rfl rfl (y_eq_i rfl rfl) (by rw [hN]) rfl ?_
          refine st (y_pickT rfl rfl) rfl ?_
          refine st (y_assign rfl) rfl ?_
          refine l_nil ?_
          refine q_then ?_
          refine c_ret ?_
          refine q_end1 (.inl rfl) rfl rfl ?_
          exact ⟨_, rfl, rfl, (hK114.trans hK14' (by simp)).trans hK15' (by simp)⟩
      ·
        refine st (y_move rfl) rfl ?_
        refine st (y_extract rfl rfl) rfl ?_
        refine st (y_extract rfl rfl) rfl ?_
        refine st (y_assign rfl) rfl ?_
        refine st (y_assign rfl) rfl ?_
        refine l_nil ?_
        refine q_then ?_
        refine c_seq ?_
        refine c_seq ?_
        refine c_region ?_
        refine st (y_move rfl) rfl ?_
        refine st (y_not rfl) rfl ?_
        refine st (y_move rfl) rfl ?_
        refine sno rfl rfl rfl rfl ?_
        refine sno rfl rfl rfl rfl ?_
        refine sno rfl rfl rfl rfl ?_
        refine st (y_pickT rfl rfl) rfl ?_
        refine l_nil ?_
        refine q_then ?_
        refine c_true rfl rfl ?_
        refine c_seq ?_
        refine c_region ?_
        refine st (y_assign rfl) rfl ?_
        refine l_nil ?_
        refine q_then ?_
        refine c_ret ?_
        refine q_then_ret ?_
        refine q_end1 (.inl rfl) rfl rfl ?_
        exact ⟨_, rfl, rfl, hK.trans hK3 (by simp)⟩
  ·
    rw [hz]
    refine st (y_not rfl) rfl ?_
    refine st (y_move rfl) rfl ?_
    refine sno rfl rfl rfl rfl ?_
    refine sno rfl rfl rfl rfl ?_
    refine sno rfl rfl rfl rfl ?_
    refine st (y_pickT rfl rfl) rfl ?_
    refine l_nil ?_
    refine q_then ?_
    refine c_true rfl rfl ?_
    refine c_seq ?_
    refine c_region ?_
    refine st (y_assign rfl) rfl ?_
    refine l_nil ?_
    refine q_then ?_
    refine c_ret ?_
    refine q_then_ret ?_
    refine q_end1 (.inl rfl) rfl rfl ?_
    exact ⟨_, rfl, rfl, hK⟩

end Go.Proofs.YtkemlhhpakjojaaDoor

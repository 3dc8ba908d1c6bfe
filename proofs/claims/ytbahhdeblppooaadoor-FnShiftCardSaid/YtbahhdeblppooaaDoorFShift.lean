/- All numbers are made greater, or less: the statement's own walk. -/
import Derived.Test.YtbahhdeblppooaaDoorM4
import Derived.Test.YtbahhdeblppooaaDoorO1
set_option linter.unusedVariables false
set_option linter.unusedSimpArgs false
set_option maxRecDepth 100000
set_option maxHeartbeats 1000000
namespace Go.Proofs.YtbahhdeblppooaaDoor
open Go Go.RowKit

theorem c_FnShift (y : Bool) (L : Nat) (A : Option Addr) (n c : Nat) (xs : List Nat) (i : Nat) (w : World) (hT : Tb w) (hR : Rd w A n xs) (hi : i < 18446744073709551616) :
    Cal Tryd.prog 6 [vB y, aB L A n c, vU i] w fun v w' => v = vB true ∧ Keep w w' [] := by
  have hT0 := hT.1
  refine go_in' Tryd.func6 rfl Tryd.ntmps6 (Nat.le_of_ble_eq_true rfl) ?_
  refine c_seq ?_
  refine c_region ?_
  refine st_box _ rfl rfl rfl ?_
  intro b1 w1 hb1 hB1 hK1 hS1
  refine st (y_assign rfl) rfl ?_
  refine l_nil ?_
  refine q_then ?_
  refine c_seq ?_
  refine c_seq ?_
  refine c_region ?_
  refine st (y_loadagg rfl agg25 us25 sz25 (by assumption) (by simp) (by rfl)) rfl ?_
  refine sc rfl rfl isfn8 (c_zzFits1 L A n c _) rfl ?_
  rintro _ w2 ⟨rfl, hK2⟩
  have hB1 := hB1.keep hK2 (by simp only [List.mem_cons, List.not_mem_nil, or_false, not_or, not_false_eq_true] <;> omega)
  have hK := hK1.trans hK2 (by simp)
  clear hK1 hK2
  refine st (y_not rfl) rfl ?_
  refine l_nil ?_
  refine q_then ?_
  refine c_ifb rfl (fun hz => ?_) (fun hz => ?_)
  · refine c_seq ?_
    refine c_region ?_
    refine st (y_assign rfl) rfl ?_
    refine l_nil ?_
    refine q_then ?_
    refine c_ret ?_
    refine q_then_ret ?_
    refine q_end1 (.inl rfl) rfl rfl ?_
    exact ⟨_, rfl, rfl, hK⟩
  ·
    refine c_skip ?_
    refine q_then ?_
    refine c_seq ?_
    refine c_region ?_
    refine st (y_loadagg rfl agg25 us25 sz25 (by assumption) (by simp) (by rfl)) rfl ?_
    refine sc rfl rfl isfn9 (c_set L A n c xs _ (hR.keep hK (by simp))) rfl ?_
    rintro _ w3 ⟨hK3, ⟨ho, b, rfl, hBl, hb⟩ | rfl⟩
    · have hB1 := hB1.keep hK3 (by simp only [List.mem_cons, List.not_mem_nil, or_false, not_or, not_false_eq_true] <;> omega)
      have hK' := hK.trans hK3 (by simp)
      have hlen := ho.len
      clear hK hK3
      obtain ⟨s, hs⟩ : ∃ s, mkS L xs = s := ⟨_, rfl⟩
      rw [hs] at hlen hBl ⊢
      have hcs := count_le s
      have hnl := nums_length s
      refine st (y_move rfl) rfl ?_
      refine st (y_extract rfl rfl) rfl ?_
      refine st (y_extract rfl rfl) rfl ?_
      refine st (y_assign rfl) rfl ?_
      refine st (y_assign rfl) rfl ?_
      refine l_nil ?_
      refine q_then ?_
      refine c_seq ?_
      refine c_seq ?_
      refine c_region ?_
      refine st (y_move rfl) rfl ?_
      refine st (y_not rfl) rfl ?_
      refine st (y_move rfl) rfl ?_
      refine stg rfl rfl (y_move rfl) rfl ?_
      refine stg_if rfl rfl (y_gt_u (b := 1000) rfl rfl) rfl (fun h1 => ?_) (fun h1 => ?_)
      · refine st (y_pickF rfl rfl) rfl ?_
        refine l_nil ?_
        refine q_then ?_
        refine c_true rfl rfl ?_
        refine c_seq ?_
        refine c_region ?_
        refine st (y_assign rfl) rfl ?_
        refine l_nil ?_
        refine q_then ?_
        refine c_ret ?_
        refine q_then_ret ?_
        refine q_end1 (.inl rfl) rfl rfl ?_
        exact ⟨_, rfl, rfl, hK'⟩
      ·
        have hl15 := hB1.lt
        refine st (y_pickF rfl rfl) rfl ?_
        refine l_nil ?_
        refine q_then ?_
        refine c_false rfl rfl ?_
        refine c_skip ?_
        refine q_then ?_
        refine c_seq ?_
        refine c_region ?_
        refine st_buildSlice0 Tryd.underlying23 sz22 rfl ?_
        intro b6 w6 hb6 hB6 hK6 hS6
        have hB1 := hB1.keep hK6 (by simp only [List.mem_cons, List.not_mem_nil, or_false, not_or, not_false_eq_true] <;> omega)
        have hK17 := hK'.trans hK6 (by simp)
        have hBl7 := hBl.keep hK6 (by simp)
        refine st (y_assign rfl) rfl ?_
        refine l_nil ?_
        refine q_then ?_
        refine c_seq ?_
        refine c_seq ?_
        refine c_region ?_
        refine st (y_move rfl) rfl ?_
        refine sc rfl rfl isfn14 (c_Numbers b s _ hBl7 (by omega)) rfl ?_
        rintro v8 w8 ⟨hO8, hK8⟩
        have hB1 := hB1.keep hK8 (by simp only [List.mem_cons, List.not_mem_nil, or_false, not_or, not_false_eq_true] <;> omega)
        have hB6 := hB6.keep hK8 (by simp only [List.mem_cons, List.not_mem_nil, or_false, not_or, not_false_eq_true] <;> omega)
        have hK18 := hK17.trans hK8 (by simp)
        have hsz15 := hK'.size
        have hsz8 := hK8.size
        obtain ⟨NA, Nc, rfl, hRN⟩ := hO8.rd
        have hNb : ∀ ad, NA = some ad → b6 < ad.block := by
          intro ad e
          subst e
          have := hO8.blk
          omega
        have hO6 : Ow w8 b6 22 (vS b6 0 0) ([] : List Value) := Ow.empty hB6 (Nat.le_refl _)
        have hbs1 : b1 < b6 := by omega
        rw [hnl] at hRN ⊢
        obtain ⟨Pk, hPk⟩ : ∃ f : Nat → List Nat, f = fun k => if y then ((nums s).take k).map (· + i) else (((nums s).take k).filter fun x => decide (i ≤ x)).map (· - i) := ⟨_, rfl⟩
        have hP0 : Pk 0 = [] := by rw [hPk]; cases y <;> rfl
        refine st (y_len rfl Tryd.underlying23) rfl ?_
        refine st (y_move (v := vI ((0 : Nat) : Int)) rfl) rfl ?_
        refine l_nil ?_
        refine q_then ?_
        refine c_block ?_
        refine c_loop (fun x : Nat × Nat × Nat => [(0, vB y), (2, vU i), (4, vP b1), (9, vS x.2.1 (Pk x.1).length x.2.2), (28, .slice NA (count s) Nc), (29, vI (count s : Nat)), (30, vI (x.1 : Nat))]) (fun x w' => x.1 ≤ count s ∧ One w8 w' b6 x.2.1 x.2.2 (Pk x.1)) (fun x => count s - x.1) (0, b6, 0) ?_ ?_ ?_
        · exact ⟨rfl, rfl, rfl, by rw [hP0]; rfl, rfl, rfl, rfl, trivial⟩
        · refine ⟨Nat.zero_le _, ?_⟩
          simp only
          rw [hP0]
          exact ⟨Keep.refl _ _, Nat.le_refl _, .inl rfl, hO6⟩
        · rintro ⟨k, pb, pc⟩ w9 ⟨hk, h2⟩
          simp only at hk h2 ⊢
          have hK9 := h2.keep
          have hRN9 : Rd w9 NA (count s) (nums s) := by
            refine ⟨hRN.1, hRN.2.1, fun h0 => ?_⟩
            obtain ⟨ad, e, hadl, hc⟩ := hRN.2.2 h0
            refine ⟨ad, e, Nat.lt_of_lt_of_le hadl hK9.size, fun j hj => ?_⟩
            rw [← hc j hj]
            have := hNb ad e
            have e2 : (ad.add j).block = ad.block := by unfold Addr.add; split <;> rfl
            refine World.cell?_of_block (hK9.same _ (by omega) ?_)
            simp only [List.mem_singleton]; omega
          refine c_seq ?_
          refine c_region ?_
          refine st_if (y_lt_i rfl rfl) rfl (fun hlt9 => ?_) (fun hlt9 => ?_)
          · obtain ⟨ad, rfl, hadl, hcell⟩ := hRN9.2.2 (by omega)
            have hc := hcell k (by omega)
            have hx := nums_lt s ((nums s).getD k 0) (by rw [List.getD_eq_getElem?_getD, List.getElem?_eq_getElem (by omega)]; exact List.getElem_mem _)
            have htk := take_succ_getD (nums s) k (by omega)
            have hPl : (Pk k).length ≤ 3001 := by
              have h3 := List.length_filter_le (fun x => decide (i ≤ x)) ((nums s).take k)
              rw [List.length_take] at h3
              rw [hPk]; simp only
              split
              · simp only [List.length_map, List.length_take]; omega
              · simp only [List.length_map]; omega
            obtain ⟨xk, hxk⟩ : ∃ x, (nums s).getD k 0 = x := ⟨_, rfl⟩
            rw [hxk] at hc hx htk
            have hP1 : Pk (k + 1) = Pk k ++ if y then [xk + i] else if i ≤ xk then [xk - i] else [] := by
              rw [hPk]; simp only
              rw [htk]
              cases y with
              | true => simp
              | false =>
                simp only [Bool.false_eq_true, if_false]
                rw [List.filter_append, List.map_append]
                congr 1
                by_cases h : i ≤ xk <;> simp [h]
            have hsz9 := hK9.size
            refine l_nil ?_
            refine q_then ?_
            refine c_seq ?_
            refine c_true rfl rfl ?_
            refine c_skip ?_
            refine q_then ?_
            refine c_seq ?_
            refine c_block ?_
            refine c_seq ?_
            refine c_region ?_
            first | refine st (y_index0 rfl rfl Tryd.underlying23 sz22 (by omega)) rfl ?_ | refine st (y_index rfl rfl Tryd.underlying23 sz22 (by omega)) rfl ?_ | refine st (y_indexA rfl rfl Tryd.underlying23 sz22 (by omega)) rfl ?_
            refine st (y_load rfl one22 (by assumption)) rfl ?_
            refine st (y_assign rfl) rfl ?_
            refine l_nil ?_
            refine q_then ?_
            refine c_seq ?_
            refine c_region ?_
            refine st (y_move rfl) rfl ?_
            refine l_nil ?_
            refine q_then ?_
            refine c_ifb rfl (fun hy => ?_) (fun hy => ?_)
            · rw [if_pos hy] at hP1
              refine c_region ?_
              refine st (y_move rfl) rfl ?_
              refine st (y_move rfl) rfl ?_
              refine st (y_move rfl) rfl ?_
              refine st (y_add_u rfl rfl (by omega)) rfl ?_
              refine st_buildSlice [vU (xk + i)] Tryd.underlying23 sz22 zv22 rfl (by decide) (by decide) (by kernel_rfl) rfl ?_
              intro b11 w11 hb11 hB11 hK11 hS11
              have h3 := h2.move hK11
              have hO11 := h3.po
              obtain ⟨i22, hi1, hi2, hi3, hi4⟩ := info_parts inf22
              refine st_appendA (news := [vU (xk + i)]) rfl rfl Tryd.underlying23 hi1 hi2 hi3 (by omega) rfl rfl (news_one (by assumption)) (by intro u hu; simp only [List.mem_singleton] at hu; subst hu; rfl) (by assumption) (by first | omega | (simp only [List.length_map, List.length_nil, List.length_append, List.length_cons, List.length_take, List.length_drop]; omega) | simp) (by omega) (by omega) rfl ?_
              clear hi1 hi2 hi3 hi4
              intro b12 c12 w12 hb12 hO12 hK12
              rw [snoc_len (x := xk + i), ← hP1, snoc_map, ← hP1] at hO12
              rw [snoc_len (x := xk + i), ← hP1]
              refine st (y_assign rfl) rfl ?_
              refine l_nil ?_
              refine q_block ?_
              refine q_then ?_
              refine c_region ?_
              first | refine st (y_add_in (b := 1) rfl rfl (by omega)) rfl ?_ | refine st (y_add_i (b := 1) rfl rfl (by omega) (by omega)) rfl ?_
              refine st (y_move rfl) rfl ?_
              refine l_nil ?_
              exact q_round (k + 1, b12, c12) ⟨rfl, rfl, rfl, rfl, rfl, rfl, rfl, trivial⟩ ⟨by simp only; omega, h3.app hb12 hO12 hK12⟩ (by simp only; omega)
            ·
              rw [if_neg (by simp [hy])] at hP1
              refine c_seq ?_
              refine c_region ?_
              refine st (y_move rfl) rfl ?_
              refine st (y_move rfl) rfl ?_
              refine st_if (y_ge_u rfl rfl) rfl (fun h4 => ?_) (fun h4 => ?_)
              · rw [if_pos h4] at hP1
                refine l_nil ?_
                refine q_then ?_
                refine c_true rfl rfl ?_
                refine c_region ?_
                refine st (y_move rfl) rfl ?_
                refine st (y_move rfl) rfl ?_
                refine st (y_move rfl) rfl ?_
                refine st (y_sub_u rfl rfl (by omega) (by omega)) rfl ?_
                refine st_buildSlice [vU (xk - i)] Tryd.underlying23 sz22 zv22 rfl (by decide) (by decide) (by kernel_rfl) rfl ?_
                intro b11 w11 hb11 hB11 hK11 hS11
                have h3 := h2.move hK11
                have hO11 := h3.po
                obtain ⟨i22, hi1, hi2, hi3, hi4⟩ := info_parts inf22
                refine st_appendA (news := [vU (xk - i)]) rfl rfl Tryd.underlying23 hi1 hi2 hi3 (by omega) rfl rfl (news_one (by assumption)) (by intro u hu; simp only [List.mem_singleton] at hu; subst hu; rfl) (by assumption) (by first | omega | (simp only [List.length_map, List.length_nil, List.length_append, List.length_cons, List.length_take, List.length_drop]; omega) | simp) (by omega) (by omega) rfl ?_
                clear hi1 hi2 hi3 hi4
                intro b12 c12 w12 hb12 hO12 hK12
                rw [snoc_len (x := xk - i), ← hP1, snoc_map, ← hP1] at hO12
                rw [snoc_len (x := xk - i), ← hP1]
                refine st (y_assign rfl) rfl ?_
                refine l_nil ?_
                refine q_block ?_
                refine q_then ?_
                refine c_region ?_
                first | refine st (y_add_in (b := 1) rfl rfl (by omega)) rfl ?_ | refine st (y_add_i (b := 1) rfl rfl (by omega) (by omega)) rfl ?_
                refine st (y_move rfl) rfl ?_
                refine l_nil ?_
                exact q_round (k + 1, b12, c12) ⟨rfl, rfl, rfl, rfl, rfl, rfl, rfl, trivial⟩ ⟨by simp only; omega, h3.app hb12 hO12 hK12⟩ (by simp only; omega)
              ·
                rw [if_neg h4, List.append_nil] at hP1
                refine l_nil ?_
                refine q_then ?_
                refine c_false rfl rfl ?_
                refine c_skip ?_
                refine q_block ?_
                refine q_then ?_
                refine c_region ?_
                first | refine st (y_add_in (b := 1) rfl rfl (by omega)) rfl ?_ | refine st (y_add_i (b := 1) rfl rfl (by omega) (by omega)) rfl ?_
                refine st (y_move rfl) rfl ?_
                refine l_nil ?_
                exact q_round (k + 1, pb, pc) ⟨rfl, rfl, rfl, by rw [hP1]; rfl, rfl, rfl, rfl, trivial⟩ ⟨by simp only; omega, by simp only; rw [hP1]; exact h2⟩ (by simp only; omega)
          ·
            have hke : k = count s := by omega
            have htake : (nums s).take k = nums s := List.take_of_length_le (by omega)
            have hPe : Pk k = if y then (nums s).map (· + i) else nums (shrS s i) := by
              rw [hPk]; simp only
              rw [htake, nums_shr]
            have hK19 := hK18.trans hK9 (fun i hi => by simp only [List.mem_singleton] at hi; exact .inr (by omega))
            have hB19 := hB1.keep hK9 (by simp only [List.mem_singleton]; omega)
            have hRp := h2.po.rd'
            clear hB1
            refine l_nil ?_
            refine q_then ?_
            refine c_seq ?_
            refine c_false rfl rfl ?_
            refine c_exit ?_
            refine q_then_exit ?_
            refine q_then_exit ?_
            refine q_block_hit ?_
            refine q_then ?_
            refine c_seq ?_
            refine c_region ?_
            refine st (y_move rfl) rfl ?_
            refine st (y_loadagg rfl agg25 us25 sz25 (by assumption) (by simp) (by rfl)) rfl ?_
            refine st (y_move rfl) rfl ?_
            refine sc rfl rfl isfn19 (c_implShift y L A n c xs i _ (hT.keep hK19 (by simp)) (hR.keep hK19 (by simp)) (by have := ho.1; omega) (fun x h => by have := ho.2.2 x h; omega) (by omega)) rfl ?_
            rintro _ w20 ⟨t20, A20, c20, rfl, ht20, htl20, hO20, hK20⟩
            rw [hs] at ht20
            have hK21 := hK19.trans hK20 (by simp)
            refine st (fld25_1 rfl (by rfl)) rfl ?_
            refine st (y_move rfl) rfl ?_
            refine sc rfl rfl isfn16 (c_list _ _ _ _ _ _ _ _ _ hO20.rd' (hRp.keep hK20 (by simp)) (by rw [ht20, hPe])) rfl ?_
            rintro _ w22 ⟨rfl, hK22⟩
            have hK23 := hK21.trans hK22 (by simp)
            refine st (y_move rfl) rfl ?_
            refine scg rfl rfl rfl rfl isfn17 (c_alive _ (hT.keep hK23 (by simp))) rfl ?_
            rintro _ w28 ⟨rfl, hK28⟩
            refine st (y_pickT rfl rfl) rfl ?_
            refine st (y_assign rfl) rfl ?_
            refine l_nil ?_
            refine q_then ?_
            refine c_ret ?_
            refine q_end1 (.inl rfl) rfl rfl ?_
            exact ⟨_, rfl, rfl, hK23.trans hK28 (by simp)⟩
    ·
      refine st (y_move rfl) rfl ?_
      refine st (y_extract rfl rfl) rfl ?_
      refine st (y_extract rfl rfl) rfl ?_
      refine st (y_assign rfl) rfl ?_
      refine st (y_assign rfl) rfl ?_
      refine l_nil ?_
      refine q_then ?_
      refine c_seq ?_
      refine c_seq ?_
      refine c_region ?_
      refine st (y_move rfl) rfl ?_
      refine st (y_not rfl) rfl ?_
      refine st (y_move rfl) rfl ?_
      refine sno rfl rfl rfl rfl ?_
      refine sno rfl rfl rfl rfl ?_
      refine st (y_pickT rfl rfl) rfl ?_
      refine l_nil ?_
      refine q_then ?_
      refine c_true rfl rfl ?_
      refine c_seq ?_
      refine c_region ?_
      refine st (y_assign rfl) rfl ?_
      refine l_nil ?_
      refine q_then ?_
      refine c_ret ?_
      refine q_then_ret ?_
      refine q_end1 (.inl rfl) rfl rfl ?_
      exact ⟨_, rfl, rfl, hK.trans hK3 (by simp)⟩

end Go.Proofs.YtbahhdeblppooaaDoor

/- The text of a set: the statement's own walk. -/
import Derived.Test.YtoheaoihiecgdaaDoorS2
set_option linter.unusedVariables false
set_option linter.unusedSimpArgs false
set_option maxRecDepth 100000
set_option maxHeartbeats 1000000
namespace Go.Proofs.YtoheaoihiecgdaaDoor
open Go Go.RowKit

theorem c_FnText (L : Nat) (A : Option Addr) (n c : Nat) (xs : List Nat) (w : World) (hT : Tb w) (hTp : Tp w) (hR : Rd w A n xs) :
    Cal Tryd.prog 3 [aB L A n c] w fun v w' => v = vB true ∧ Keep w w' [] := by
  have hT0 := hT.1
  refine go_in' Tryd.func3 rfl Tryd.ntmps3 (Nat.le_of_ble_eq_true rfl) ?_
  refine c_seq ?_
  refine c_region ?_
  refine st_box _ rfl rfl rfl ?_
  intro b1 w1 hb1 hB1 hK1 hS1
  refine st (y_assign rfl) rfl ?_
  refine l_nil ?_
  refine q_then ?_
  refine c_seq ?_
  refine c_seq ?_
  refine c_region ?_
  refine st (y_loadagg rfl agg25 us25 sz25 (by assumption) (by simp) (by rfl)) rfl ?_
  refine sc rfl rfl isfn5 (c_zzFits1 L A n c _) rfl ?_
  rintro _ w2 ⟨rfl, hK2⟩
  have hB1 := hB1.keep hK2 (by simp only [List.mem_cons, List.not_mem_nil, or_false, not_or, not_false_eq_true] <;> omega)
  have hK := hK1.trans hK2 (by simp)
  clear hK1 hK2
  refine st (y_not rfl) rfl ?_
  refine l_nil ?_
  refine q_then ?_
  refine c_ifb rfl (fun hz => ?_) (fun hz => ?_)
  · refine c_seq ?_
    refine c_region ?_
    refine st (y_assign rfl) rfl ?_
    refine l_nil ?_
    refine q_then ?_
    refine c_ret ?_
    refine q_then_ret ?_
    refine q_end1 (.inl rfl) rfl rfl ?_
    exact ⟨_, rfl, rfl, hK⟩
  ·
    refine c_skip ?_
    refine q_then ?_
    refine c_seq ?_
    refine c_region ?_
    refine st (y_loadagg rfl agg25 us25 sz25 (by assumption) (by simp) (by rfl)) rfl ?_
    refine sc rfl rfl isfn6 (c_set L A n c xs _ (hR.keep hK (by simp))) rfl ?_
    rintro _ w3 ⟨hK3, ⟨ho, b, rfl, hBl, hb⟩ | rfl⟩
    · have hB1 := hB1.keep hK3 (by simp only [List.mem_cons, List.not_mem_nil, or_false, not_or, not_false_eq_true] <;> omega)
      have hK' := hK.trans hK3 (by simp)
      have hlen := ho.len
      clear hK hK3
      obtain ⟨s, hs⟩ : ∃ s, mkS L xs = s := ⟨_, rfl⟩
      rw [hs] at hlen hBl ⊢
      have hcs := count_le s
      have hnl := nums_length s
      have hnb : ∀ x ∈ nums s, x < 100000 := fun x hx => by
        have := nums_lt _ x hx
        omega
      refine st (y_move rfl) rfl ?_
      refine st (y_extract rfl rfl) rfl ?_
      refine st (y_extract rfl rfl) rfl ?_
      refine st (y_assign rfl) rfl ?_
      refine st (y_assign rfl) rfl ?_
      refine l_nil ?_
      refine q_then ?_
      refine c_seq ?_
      refine c_seq ?_
      refine c_region ?_
      refine st (y_move rfl) rfl ?_
      refine st (y_not rfl) rfl ?_
      refine l_nil ?_
      refine q_then ?_
      refine c_false rfl rfl ?_
      refine c_skip ?_
      refine q_then ?_
      refine c_seq ?_
      refine c_region ?_
      refine st (y_assign rfl) rfl ?_
      refine l_nil ?_
      refine q_then ?_
      refine c_seq ?_
      refine c_seq ?_
      refine c_region ?_
      refine st (y_move rfl) rfl ?_
      refine sc rfl rfl isfn7 (c_Numbers b s _ hBl (by omega)) rfl ?_
      rintro v8 w8 ⟨hO8, hK8⟩
      have hB1 := hB1.keep hK8 (by simp only [List.mem_cons, List.not_mem_nil, or_false, not_or, not_false_eq_true] <;> omega)
      have hK18 := hK'.trans hK8 (by simp)
      obtain ⟨NA, Nc, rfl, hRN⟩ := hO8.rd
      rw [hnl] at hRN ⊢
      refine st (y_len rfl Tryd.underlying23) rfl ?_
      refine st (y_move (v := vI ((0 : Nat) : Int)) rfl) rfl ?_
      refine l_nil ?_
      refine q_then ?_
      refine c_block ?_
      refine c_loop (fun k : Nat => [(1, vP b1), (5, .string (str ([123] ++ jn ((nums s).take k)))), (19, .slice NA (count s) Nc), (20, vI (count s : Nat)), (21, vI (k : Nat))]) (fun k w' => k ≤ count s ∧ Keep w8 w' []) (fun k => count s - k) 0 ?_ ?_ ?_
      · exact ⟨rfl, rfl, rfl, rfl, rfl, trivial⟩
      · exact ⟨Nat.zero_le _, Keep.refl _ _⟩
      · rintro k w9 ⟨hk, hK9⟩
        have hB19 := hB1.keep hK9 (by simp)
        have hRN9 := hRN.keep hK9 (by simp)
        have hjl := jn_len ((nums s).take k) (fun x hx => hnb x (List.mem_of_mem_take hx))
        rw [List.length_take] at hjl
        refine c_seq ?_
        refine c_region ?_
        refine st_if (y_lt_i rfl rfl) rfl (fun hlt9 => ?_) (fun hlt9 => ?_)
        · obtain ⟨ad, rfl, hadl, hcell⟩ := hRN9.2.2 (by omega)
          have hc := hcell k (by omega)
          have htk := take_snoc (xs := nums s) (k := k) (by omega)
          have hx := hnb ((nums s).getD k 0) (by rw [List.getD_eq_getElem?_getD, List.getElem?_eq_getElem (by omega)]; exact List.getElem_mem _)
          obtain ⟨x, hxk⟩ : ∃ x, (nums s).getD k 0 = x := ⟨_, rfl⟩
          rw [hxk] at hc htk hx
          have hdl := dec_len x hx
          have hj := jn_snoc ((nums s).take k) x
          rw [← htk] at hj
          refine l_nil ?_
          refine q_then ?_
          refine c_seq ?_
          refine c_true rfl rfl ?_
          refine c_skip ?_
          refine q_then ?_
          refine c_seq ?_
          refine c_block ?_
          refine c_seq ?_
          refine c_region ?_
          refine st (y_move rfl) rfl ?_
          first | refine st (y_index0 rfl rfl Tryd.underlying23 sz22 (by omega)) rfl ?_ | refine st (y_index rfl rfl Tryd.underlying23 sz22 (by omega)) rfl ?_ | refine st (y_indexA rfl rfl Tryd.underlying23 sz22 (by omega)) rfl ?_
          refine st (y_load rfl one22 (by assumption)) rfl ?_
          refine st (y_assign rfl) rfl ?_
          refine st (y_assign rfl) rfl ?_
          refine l_nil ?_
          refine q_then ?_
          refine c_seq ?_
          refine c_seq ?_
          refine c_region ?_
          refine st (y_move rfl) rfl ?_
          refine st_if (y_gt_i (b := 0) rfl rfl) rfl (fun hk0 => ?_) (fun hk0 => ?_)
          · have hne : (nums s).take k ≠ [] := by
              intro h
              have h5 : min k (nums s).length = 0 := by rw [← List.length_take, h]; rfl
              omega
            rw [if_neg hne] at hj
            refine l_nil ?_
            refine q_then ?_
            refine c_true rfl rfl ?_
            refine c_region ?_
            refine st (y_move rfl) rfl ?_
            refine st (y_catS (b := str [44]) rfl rfl (by rw [str_size, str_size]; simp; omega)) rfl ?_
            rw [← str_append]
            refine st (y_assign rfl) rfl ?_
            refine l_nil ?_
            refine q_then ?_
            refine c_region ?_
            refine st (y_move rfl) rfl ?_
            refine st (y_move rfl) rfl ?_
            refine sc rfl rfl isfn8 (c_Figures x hx _) rfl ?_
            rintro _ w10 ⟨rfl, hK10⟩
            refine st (y_catS rfl rfl (by rw [str_size, str_size]; simp; omega)) rfl ?_
            rw [← str_append]
            refine st (y_assign rfl) rfl ?_
            refine l_nil ?_
            refine q_block ?_
            refine q_then ?_
            refine c_region ?_
            first | refine st (y_add_in (b := 1) rfl rfl (by omega)) rfl ?_ | refine st (y_add_i (b := 1) rfl rfl (by omega) (by omega)) rfl ?_
            refine st (y_move rfl) rfl ?_
            refine l_nil ?_
            exact q_round (k + 1) ⟨rfl, by rw [hj]; simp; rfl, rfl, rfl, rfl, trivial⟩ ⟨by omega, hK9.trans hK10 (by simp)⟩ (by omega)
          ·
            have hk00 : k = 0 := by omega
            have hnil : (nums s).take k = [] := by rw [hk00]; rfl
            rw [if_pos hnil] at hj
            refine l_nil ?_
            refine q_then ?_
            refine c_false rfl rfl ?_
            refine c_skip ?_
            refine q_then ?_
            refine c_region ?_
            refine st (y_move rfl) rfl ?_
            refine st (y_move rfl) rfl ?_
            refine sc rfl rfl isfn8 (c_Figures x hx _) rfl ?_
            rintro _ w10 ⟨rfl, hK10⟩
            refine st (y_catS rfl rfl (by rw [str_size, str_size]; simp; omega)) rfl ?_
            rw [← str_append]
            refine st (y_assign rfl) rfl ?_
            refine l_nil ?_
            refine q_block ?_
            refine q_then ?_
            refine c_region ?_
            first | refine st (y_add_in (b := 1) rfl rfl (by omega)) rfl ?_ | refine st (y_add_i (b := 1) rfl rfl (by omega) (by omega)) rfl ?_
            refine st (y_move rfl) rfl ?_
            refine l_nil ?_
            exact q_round (k + 1) ⟨rfl, by rw [hj]; simp; rfl, rfl, rfl, rfl, trivial⟩ ⟨by omega, hK9.trans hK10 (by simp)⟩ (by omega)
        ·
          have hke : (nums s).take k = nums s := List.take_of_length_le (by omega)
          rw [hke] at hjl ⊢
          have hK19 := hK18.trans hK9 (by simp)
          clear hB1
          refine l_nil ?_
          refine q_then ?_
          refine c_seq ?_
          refine c_false rfl rfl ?_
          refine c_exit ?_
          refine q_then_exit ?_
          refine q_then_exit ?_
          refine q_block_hit ?_
          refine q_then ?_
          refine c_seq ?_
          refine c_region ?_
          refine st (y_loadagg rfl agg25 us25 sz25 (by assumption) (by simp) (by rfl)) rfl ?_
          refine sc rfl rfl isfn9 (c_implText L A n c xs _ (hT.keep hK19 (by simp)) (hTp.keep hK19 (by simp)) (hR.keep hK19 (by simp)) (by have := ho.1; omega) (fun x h => by have := ho.2.2 x h; omega)) rfl ?_
          rintro _ w20 ⟨rfl, hK20⟩
          rw [hs]
          have hK21 := hK19.trans hK20 (by simp)
          refine st (y_move rfl) rfl ?_
          refine st (y_catS (b := str [125]) rfl rfl (by rw [str_size, str_size]; simp; omega)) rfl ?_
          rw [← str_append]
          refine st (y_eqST rfl rfl rfl) rfl ?_
          refine st (y_assign rfl) rfl ?_
          refine l_nil ?_
          refine q_then ?_
          refine c_ret ?_
          refine q_end1 (.inl rfl) rfl rfl ?_
          exact ⟨_, rfl, rfl, hK21⟩
    ·
      refine st (y_move rfl) rfl ?_
      refine st (y_extract rfl rfl) rfl ?_
      refine st (y_extract rfl rfl) rfl ?_
      refine st (y_assign rfl) rfl ?_
      refine st (y_assign rfl) rfl ?_
      refine l_nil ?_
      refine q_then ?_
      refine c_seq ?_
      refine c_seq ?_
      refine c_region ?_
      refine st (y_move rfl) rfl ?_
      refine st (y_not rfl) rfl ?_
      refine l_nil ?_
      refine q_then ?_
      refine c_true rfl rfl ?_
      refine c_seq ?_
      refine c_region ?_
      refine st (y_assign rfl) rfl ?_
      refine l_nil ?_
      refine q_then ?_
      refine c_ret ?_
      refine q_then_ret ?_
      refine q_end1 (.inl rfl) rfl rfl ?_
      exact ⟨_, rfl, rfl, hK.trans hK3 (by simp)⟩

end Go.Proofs.YtoheaoihiecgdaaDoor

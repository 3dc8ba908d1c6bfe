/- What is turned round twice is as it was: the statement's own walk. -/
import Derived.Test.YtepmbglaalkbdaaDoorE2
set_option linter.unusedVariables false
set_option linter.unusedSimpArgs false
set_option maxRecDepth 100000
namespace Go.Proofs.YtepmbglaalkbdaaDoor
open Go Go.RowKit

theorem c_FnFlipTwice (L : Nat) (A : Option Addr) (n c : Nat) (xs : List Nat) (i j : Nat) (w : World) (hT : Tb w) (hR : Rd w A n xs) (hi : i < 18446744073709551616) (hj : j < 18446744073709551616) :
    Cal Tryd.prog 7 [aB L A n c, vU i, vU j] w fun v w' => v = vB true ∧ Keep w w' [] := by
  have hT0 := hT.1
  refine go_in' Tryd.func7 rfl Tryd.ntmps7 (Nat.le_of_ble_eq_true rfl) ?_
  refine c_seq ?_
  refine c_region ?_
  refine st_box _ rfl rfl rfl ?_
  intro b1 w1 hb1 hB1 hK1 hS1
  refine st (y_assign rfl) rfl ?_
  refine l_nil ?_
  refine q_then ?_
  refine c_seq ?_
  refine c_seq ?_
  refine c_region ?_
  refine st (y_loadagg rfl agg25 us25 sz25 (by assumption) (by simp) (by rfl)) rfl ?_
  refine sc rfl rfl isfn9 (c_zzFits1 L A n c _) rfl ?_
  rintro _ w2 ⟨rfl, hK2⟩
  have hB1 := hB1.keep hK2 (by simp only [List.mem_cons, List.not_mem_nil, or_false, not_or, not_false_eq_true] <;> omega)
  have hK := hK1.trans hK2 (by simp)
  clear hK1 hK2
  refine st (y_not rfl) rfl ?_
  refine l_nil ?_
  refine q_then ?_
  refine c_ifb rfl (fun hz => ?_) (fun hz => ?_)
  · refine c_seq ?_
    refine c_region ?_
    refine st (y_assign rfl) rfl ?_
    refine l_nil ?_
    refine q_then ?_
    refine c_ret ?_
    refine q_then_ret ?_
    refine q_end1 (.inl rfl) rfl rfl ?_
    exact ⟨_, rfl, rfl, hK⟩
  ·
    refine c_skip ?_
    refine q_then ?_
    refine c_seq ?_
    refine c_region ?_
    refine st (y_loadagg rfl agg25 us25 sz25 (by assumption) (by simp) (by rfl)) rfl ?_
    refine sc rfl rfl isfn10 (c_set L A n c xs _ (hR.keep hK (by simp))) rfl ?_
    rintro _ w3 ⟨hK3, ⟨ho, b, rfl, hBl, hb⟩ | rfl⟩
    · have hB1 := hB1.keep hK3 (by simp only [List.mem_cons, List.not_mem_nil, or_false, not_or, not_false_eq_true] <;> omega)
      have hK' := hK.trans hK3 (by simp)
      have hlen := ho.len
      clear hK hK3
      refine st (y_move rfl) rfl ?_
      refine st (y_extract rfl rfl) rfl ?_
      refine st (y_extract rfl rfl) rfl ?_
      refine st (y_assign rfl) rfl ?_
      refine st (y_assign rfl) rfl ?_
      refine l_nil ?_
      refine q_then ?_
      refine c_seq ?_
      refine c_region ?_
      refine st (y_move rfl) rfl ?_
      refine st (y_not rfl) rfl ?_
      refine st (y_move rfl) rfl ?_
      refine stg rfl rfl (y_move rfl) rfl ?_
      refine stg_if rfl rfl (y_gt_u (b := 3000) rfl rfl) rfl (fun h1 => ?_) (fun h1 => ?_)
      · refine st (y_pickF rfl rfl) rfl ?_
        refine st (y_move rfl) rfl ?_
        refine sno rfl rfl rfl rfl ?_
        refine sno rfl rfl rfl rfl ?_
        refine st (y_pickT rfl rfl) rfl ?_
        refine st (y_move rfl) rfl ?_
        refine sno rfl rfl rfl rfl ?_
        refine sno rfl rfl rfl rfl ?_
        refine sno rfl rfl rfl rfl ?_
        refine sno rfl rfl rfl rfl ?_
        refine sno rfl rfl rfl rfl ?_
        refine sno rfl rfl rfl rfl ?_
        refine sno rfl rfl rfl rfl ?_
        refine sno rfl rfl rfl rfl ?_
        refine sno rfl rfl rfl rfl ?_
        refine sno rfl rfl rfl rfl ?_
        refine snou rfl rfl rfl ?_
        refine sno rfl rfl rfl rfl ?_
        refine st (y_pickT rfl rfl) rfl ?_
        refine st (y_assign rfl) rfl ?_
        refine l_nil ?_
        refine q_then ?_
        refine c_ret ?_
        refine q_end1 (.inl rfl) rfl rfl ?_
        exact ⟨_, rfl, rfl, hK'⟩
      ·
        refine st (y_pickF rfl rfl) rfl ?_
        refine st (y_move rfl) rfl ?_
        refine stg rfl rfl (y_move rfl) rfl ?_
        refine stg_if rfl rfl (y_gt_u (b := 3000) rfl rfl) rfl (fun h2 => ?_) (fun h2 => ?_)
        · refine st (y_pickF rfl rfl) rfl ?_
          refine st (y_move rfl) rfl ?_
          refine sno rfl rfl rfl rfl ?_
          refine sno rfl rfl rfl rfl ?_
          refine sno rfl rfl rfl rfl ?_
          refine sno rfl rfl rfl rfl ?_
          refine sno rfl rfl rfl rfl ?_
          refine sno rfl rfl rfl rfl ?_
          refine sno rfl rfl rfl rfl ?_
          refine sno rfl rfl rfl rfl ?_
          refine sno rfl rfl rfl rfl ?_
          refine sno rfl rfl rfl rfl ?_
          refine snou rfl rfl rfl ?_
          refine sno rfl rfl rfl rfl ?_
          refine st (y_pickT rfl rfl) rfl ?_
          refine st (y_assign rfl) rfl ?_
          refine l_nil ?_
          refine q_then ?_
          refine c_ret ?_
          refine q_end1 (.inl rfl) rfl rfl ?_
          exact ⟨_, rfl, rfl, hK'⟩
        ·
          have hfl := (flipR_len (mkS L xs) i j).1
          refine st (y_pickF rfl rfl) rfl ?_
          refine st (y_move rfl) rfl ?_
          refine stg rfl rfl (y_loadagg rfl agg25 us25 sz25 (by assumption) (by simp) (by rfl)) rfl ?_
          refine stg rfl rfl (y_move rfl) rfl ?_
          refine stg rfl rfl (y_move rfl) rfl ?_
          refine scg rfl rfl rfl rfl isfn24 (c_implFlipRange L A n c xs i j _ (hT.keep hK' (by simp)) (hR.keep hK' (by simp)) (by have := ho.1; omega) (fun x h => by have := ho.2.2 x h; omega) (by omega) (by omega)) rfl ?_
          rintro _ w4 ⟨A4, c4, rfl, hO4, hK4⟩
          have hBl := hBl.keep hK4 (by simp only [List.mem_cons, List.not_mem_nil, or_false, not_or, not_false_eq_true] <;> omega)
          have hK5 := hK'.trans hK4 (by simp)
          refine stg rfl rfl (y_move rfl) rfl ?_
          refine stg rfl rfl (y_move rfl) rfl ?_
          refine scg rfl rfl rfl rfl isfn24 (c_implFlipRange _ A4 _ c4 _ i j _ (hT.keep hK5 (by simp)) hO4.rd' (by omega) (nums_le _ _ (by omega)) (by omega) (by omega)) rfl ?_
          rintro _ w6 ⟨A6, c6, rfl, hO6, hK6⟩
          have hBl := hBl.keep hK6 (by simp only [List.mem_cons, List.not_mem_nil, or_false, not_or, not_false_eq_true] <;> omega)
          have hK7 := hK5.trans hK6 (by simp)
          refine stg rfl rfl (y_move rfl) rfl ?_
          refine scg rfl rfl rfl rfl isfn23 (c_is _ _ _ _ _ _ _ _ _ _ hO6.rd' (hBl.rdB (by omega)) (by omega) (by rw [mkS_nums, flipR_twice])) rfl ?_
          rintro _ w8 ⟨rfl, hK8⟩
          have hK9 := hK7.trans hK8 (by simp)
          refine stg rfl rfl (y_move rfl) rfl ?_
          refine scg rfl rfl rfl rfl isfn13 (c_alive _ (hT.keep hK9 (by simp))) rfl ?_
          rintro _ w10 ⟨rfl, hK10⟩
          refine stg rfl rfl (y_pickT rfl rfl) rfl ?_
          refine st (y_pickF rfl rfl) rfl ?_
          refine st (y_assign rfl) rfl ?_
          refine l_nil ?_
          refine q_then ?_
          refine c_ret ?_
          refine q_end1 (.inl rfl) rfl rfl ?_
          exact ⟨_, rfl, rfl, hK9.trans hK10 (by simp)⟩
    ·
      refine st (y_move rfl) rfl ?_
      refine st (y_extract rfl rfl) rfl ?_
      refine st (y_extract rfl rfl) rfl ?_
      refine st (y_assign rfl) rfl ?_
      refine st (y_assign rfl) rfl ?_
      refine l_nil ?_
      refine q_then ?_
      refine c_seq ?_
      refine c_region ?_
      refine st (y_move rfl) rfl ?_
      refine st (y_not rfl) rfl ?_
      refine st (y_move rfl) rfl ?_
      refine sno rfl rfl rfl rfl ?_
      refine sno rfl rfl rfl rfl ?_
      refine st (y_pickT rfl rfl) rfl ?_
      refine st (y_move rfl) rfl ?_
      refine sno rfl rfl rfl rfl ?_
      refine sno rfl rfl rfl rfl ?_
      refine st (y_pickT rfl rfl) rfl ?_
      refine st (y_move rfl) rfl ?_
      refine sno rfl rfl rfl rfl ?_
      refine sno rfl rfl rfl rfl ?_
      refine sno rfl rfl rfl rfl ?_
      refine sno rfl rfl rfl rfl ?_
      refine sno rfl rfl rfl rfl ?_
      refine sno rfl rfl rfl rfl ?_
      refine sno rfl rfl rfl rfl ?_
      refine sno rfl rfl rfl rfl ?_
      refine sno rfl rfl rfl rfl ?_
      refine sno rfl rfl rfl rfl ?_
      refine snou rfl rfl rfl ?_
      refine sno rfl rfl rfl rfl ?_
      refine st (y_pickT rfl rfl) rfl ?_
      refine st (y_assign rfl) rfl ?_
      refine l_nil ?_
      refine q_then ?_
      refine c_ret ?_
      refine q_end1 (.inl rfl) rfl rfl ?_
      exact ⟨_, rfl, rfl, hK.trans hK3 (by simp)⟩

end Go.Proofs.YtepmbglaalkbdaaDoor

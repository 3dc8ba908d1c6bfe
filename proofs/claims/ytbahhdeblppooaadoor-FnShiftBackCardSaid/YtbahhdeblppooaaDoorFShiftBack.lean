/- What is shifted to the left and back is as it was: the statement's own walk. -/
import Derived.Test.YtbahhdeblppooaaDoorM4
set_option linter.unusedVariables false
set_option linter.unusedSimpArgs false
set_option maxRecDepth 100000
namespace Go.Proofs.YtbahhdeblppooaaDoor
open Go Go.RowKit

theorem nums_back {s t : List Bool} {n : Nat} (h : nums t = (nums s).map (· + n)) : nums (shrS t n) = nums s := by
  rw [nums_shr, h, List.filter_eq_self.2 (by intro x hx; obtain ⟨y, _, rfl⟩ := List.mem_map.1 hx; simp), List.map_map]
  conv => rhs; rw [← List.map_id (nums s)]
  apply List.map_congr_left
  intro x _
  simp

theorem c_FnShiftBack (L : Nat) (A : Option Addr) (n c : Nat) (xs : List Nat) (i : Nat) (w : World) (hT : Tb w) (hR : Rd w A n xs) (hi : i < 18446744073709551616) :
    Cal Tryd.prog 7 [aB L A n c, vU i] w fun v w' => v = vB true ∧ Keep w w' [] := by
  have hT0 := hT.1
  refine go_in' Tryd.func7 rfl Tryd.ntmps7 (Nat.le_of_ble_eq_true rfl) ?_
  refine c_seq ?_
  refine c_region ?_
  refine st_box _ rfl rfl rfl ?_
  intro b1 w1 hb1 hB1 hK1 hS1
  refine st (y_assign rfl) rfl ?_
  refine l_nil ?_
  refine q_then ?_
  refine c_seq ?_
  refine c_seq ?_
  refine c_region ?_
  refine st (y_loadagg rfl agg25 us25 sz25 (by assumption) (by simp) (by rfl)) rfl ?_
  refine sc rfl rfl isfn8 (c_zzFits1 L A n c _) rfl ?_
  rintro _ w2 ⟨rfl, hK2⟩
  have hB1 := hB1.keep hK2 (by simp only [List.mem_cons, List.not_mem_nil, or_false, not_or, not_false_eq_true] <;> omega)
  have hK := hK1.trans hK2 (by simp)
  clear hK1 hK2
  refine st (y_not rfl) rfl ?_
  refine l_nil ?_
  refine q_then ?_
  refine c_ifb rfl (fun hz => ?_) (fun hz => ?_)
  · refine c_seq ?_
    refine c_region ?_
    refine st (y_assign rfl) rfl ?_
    refine l_nil ?_
    refine q_then ?_
    refine c_ret ?_
    refine q_then_ret ?_
    refine q_end1 (.inl rfl) rfl rfl ?_
    exact ⟨_, rfl, rfl, hK⟩
  ·
    refine c_skip ?_
    refine q_then ?_
    refine c_seq ?_
    refine c_region ?_
    refine st (y_loadagg rfl agg25 us25 sz25 (by assumption) (by simp) (by rfl)) rfl ?_
    refine sc rfl rfl isfn9 (c_set L A n c xs _ (hR.keep hK (by simp))) rfl ?_
    rintro _ w3 ⟨hK3, ⟨ho, b, rfl, hBl, hb⟩ | rfl⟩
    · have hB1 := hB1.keep hK3 (by simp only [List.mem_cons, List.not_mem_nil, or_false, not_or, not_false_eq_true] <;> omega)
      have hK' := hK.trans hK3 (by simp)
      have hlen := ho.len
      clear hK hK3
      refine st (y_move rfl) rfl ?_
      refine st (y_extract rfl rfl) rfl ?_
      refine st (y_extract rfl rfl) rfl ?_
      refine st (y_assign rfl) rfl ?_
      refine st (y_assign rfl) rfl ?_
      refine l_nil ?_
      refine q_then ?_
      refine c_seq ?_
      refine c_region ?_
      refine st (y_move rfl) rfl ?_
      refine st (y_not rfl) rfl ?_
      refine st (y_move rfl) rfl ?_
      refine stg rfl rfl (y_move rfl) rfl ?_
      refine stg_if rfl rfl (y_gt_u (b := 1000) rfl rfl) rfl (fun h1 => ?_) (fun h1 => ?_)
      · refine st (y_pickF rfl rfl) rfl ?_
        refine st (y_move rfl) rfl ?_
        refine sno rfl rfl rfl rfl ?_
        refine sno rfl rfl rfl rfl ?_
        refine sno rfl rfl rfl rfl ?_
        refine sno rfl rfl rfl rfl ?_
        refine sno rfl rfl rfl rfl ?_
        refine sno rfl rfl rfl rfl ?_
        refine sno rfl rfl rfl rfl ?_
        refine sno rfl rfl rfl rfl ?_
        refine snou rfl rfl rfl ?_
        refine sno rfl rfl rfl rfl ?_
        refine st (y_pickT rfl rfl) rfl ?_
        refine st (y_assign rfl) rfl ?_
        refine l_nil ?_
        refine q_then ?_
        refine c_ret ?_
        refine q_end1 (.inl rfl) rfl rfl ?_
        exact ⟨_, rfl, rfl, hK'⟩
      ·
        refine st (y_pickF rfl rfl) rfl ?_
        refine st (y_move rfl) rfl ?_
        refine stg rfl rfl (y_loadagg rfl agg25 us25 sz25 (by assumption) (by simp) (by rfl)) rfl ?_
        refine stg rfl rfl (y_move rfl) rfl ?_
        refine scg rfl rfl rfl rfl isfn19 (c_implShift true L A n c xs i _ (hT.keep hK' (by simp)) (hR.keep hK' (by simp)) (by have := ho.1; omega) (fun x h => by have := ho.2.2 x h; omega) (by omega)) rfl ?_
        rintro _ w5 ⟨t, A5, c5, rfl, ht, htl, hO5, hK5⟩
        rw [if_pos rfl] at ht
        have hK6 := hK'.trans hK5 (by simp)
        have hmt := mkS_nums t
        refine stg rfl rfl (y_move rfl) rfl ?_
        refine scg rfl rfl rfl rfl isfn19 (c_implShift false t.length A5 _ c5 (nums t) i _ (hT.keep hK6 (by simp)) hO5.rd' (by omega) (nums_le t 6000 (by omega)) (by omega)) rfl ?_
        rintro _ w7 ⟨t7, A7, c7, rfl, ht7, htl7, hO7, hK7⟩
        rw [hmt, if_neg (by simp), nums_back ht] at ht7
        have hK8 := hK6.trans hK7 (by simp)
        refine stg rfl rfl (y_move rfl) rfl ?_
        have hrb := (((hBl.rdB (by omega)).keep hK5 (by simp)).keep hK7 (by simp))
        refine scg rfl rfl rfl rfl isfn20 (c_is _ _ _ _ _ _ _ _ _ _ hO7.rd' hrb (by omega) ht7) rfl ?_
        rintro _ w9 ⟨rfl, hK9⟩
        have hK10 := hK8.trans hK9 (by simp)
        refine stg rfl rfl (y_move rfl) rfl ?_
        refine scg rfl rfl rfl rfl isfn17 (c_alive _ (hT.keep hK10 (by simp))) rfl ?_
        rintro _ w11 ⟨rfl, hK11⟩
        refine stg rfl rfl (y_pickT rfl rfl) rfl ?_
        refine st (y_pickF rfl rfl) rfl ?_
        refine st (y_assign rfl) rfl ?_
        refine l_nil ?_
        refine q_then ?_
        refine c_ret ?_
        refine q_end1 (.inl rfl) rfl rfl ?_
        exact ⟨_, rfl, rfl, hK10.trans hK11 (by simp)⟩
    ·
      refine st (y_move rfl) rfl ?_
      refine st (y_extract rfl rfl) rfl ?_
      refine st (y_extract rfl rfl) rfl ?_
      refine st (y_assign rfl) rfl ?_
      refine st (y_assign rfl) rfl ?_
      refine l_nil ?_
      refine q_then ?_
      refine c_seq ?_
      refine c_region ?_
      refine st (y_move rfl) rfl ?_
      refine st (y_not rfl) rfl ?_
      refine st (y_move rfl) rfl ?_
      refine sno rfl rfl rfl rfl ?_
      refine sno rfl rfl rfl rfl ?_
      refine st (y_pickT rfl rfl) rfl ?_
      refine st (y_move rfl) rfl ?_
      refine sno rfl rfl rfl rfl ?_
      refine sno rfl rfl rfl rfl ?_
      refine sno rfl rfl rfl rfl ?_
      refine sno rfl rfl rfl rfl ?_
      refine sno rfl rfl rfl rfl ?_
      refine sno rfl rfl rfl rfl ?_
      refine sno rfl rfl rfl rfl ?_
      refine sno rfl rfl rfl rfl ?_
      refine snou rfl rfl rfl ?_
      refine sno rfl rfl rfl rfl ?_
      refine st (y_pickT rfl rfl) rfl ?_
      refine st (y_assign rfl) rfl ?_
      refine l_nil ?_
      refine q_then ?_
      refine c_ret ?_
      refine q_end1 (.inl rfl) rfl rfl ?_
      exact ⟨_, rfl, rfl, hK.trans hK3 (by simp)⟩

end Go.Proofs.YtbahhdeblppooaaDoor

/- All members in order, by three roads: the statement's own walk. -/
import Derived.Test.YtbahhdeblppooaaDoorQ7
import Derived.Test.YtbahhdeblppooaaDoorT2
import Derived.Test.YtbahhdeblppooaaDoorN1
set_option linter.unusedVariables false
set_option linter.unusedSimpArgs false
set_option maxRecDepth 100000
set_option maxHeartbeats 1000000
namespace Go.Proofs.YtbahhdeblppooaaDoor
open Go Go.RowKit

theorem c_FnNumbers (k L : Nat) (A : Option Addr) (n c : Nat) (xs : List Nat) (w : World) (hT : Tb w) (hR : Rd w A n xs) (hk : k < 256) :
    Cal Tryd.prog 5 [.int .u8 (k : Nat), aB L A n c] w fun v w' => v = vB true ∧ Keep w w' [] := by
  have hk3 : k % 3 < 3 := Nat.mod_lt _ (by decide)
  refine go_in' Tryd.func5 rfl Tryd.ntmps5 (Nat.le_of_ble_eq_true rfl) ?_
  refine c_seq ?_
  refine c_region ?_
  refine st_box _ rfl rfl rfl ?_
  intro b1 w1 hb1 hB1 hK1 hS1
  refine st (y_assign rfl) rfl ?_
  refine l_nil ?_
  refine q_then ?_
  refine c_seq ?_
  refine c_seq ?_
  refine c_region ?_
  refine st (y_loadagg rfl agg25 us25 sz25 (by assumption) (by simp) (by rfl)) rfl ?_
  refine sc rfl rfl isfn8 (c_zzFits1 L A n c _) rfl ?_
  rintro _ w2 ⟨rfl, hK2⟩
  have hB1 := hB1.keep hK2 (by simp only [List.mem_cons, List.not_mem_nil, or_false, not_or, not_false_eq_true] <;> omega)
  have hK := hK1.trans hK2 (by simp)
  clear hK1 hK2
  refine st (y_not rfl) rfl ?_
  refine l_nil ?_
  refine q_then ?_
  refine c_ifb rfl (fun hz => ?_) (fun hz => ?_)
  · refine c_seq ?_
    refine c_region ?_
    refine st (y_assign rfl) rfl ?_
    refine l_nil ?_
    refine q_then ?_
    refine c_ret ?_
    refine q_then_ret ?_
    refine q_end1 (.inl rfl) rfl rfl ?_
    exact ⟨_, rfl, rfl, hK⟩
  ·
    refine c_skip ?_
    refine q_then ?_
    refine c_seq ?_
    refine c_region ?_
    refine st (y_loadagg rfl agg25 us25 sz25 (by assumption) (by simp) (by rfl)) rfl ?_
    refine sc rfl rfl isfn9 (c_set L A n c xs _ (hR.keep hK (by simp))) rfl ?_
    rintro _ w3 ⟨hK3, ⟨ho, b, rfl, hBl, hb⟩ | rfl⟩
    · have hB1 := hB1.keep hK3 (by simp only [List.mem_cons, List.not_mem_nil, or_false, not_or, not_false_eq_true] <;> omega)
      have hK' := hK.trans hK3 (by simp)
      have hlen := ho.len
      clear hK hK3
      obtain ⟨s, hs⟩ : ∃ s, mkS L xs = s := ⟨_, rfl⟩
      rw [hs] at hlen hBl ⊢
      obtain ⟨m, hm⟩ : ∃ m, k % 3 = m := ⟨_, rfl⟩
      refine st (y_move rfl) rfl ?_
      refine st (y_extract rfl rfl) rfl ?_
      refine st (y_extract rfl rfl) rfl ?_
      refine st (y_assign rfl) rfl ?_
      refine st (y_assign rfl) rfl ?_
      refine l_nil ?_
      refine q_then ?_
      refine c_seq ?_
      refine c_region ?_
      refine st (y_move rfl) rfl ?_
      refine st (y_not rfl) rfl ?_
      refine st (y_move rfl) rfl ?_
      refine stg rfl rfl (y_move rfl) rfl ?_
      refine stg rfl rfl (y_rem_8 (b := 3) rfl rfl (by omega)) rfl ?_
      rw [hm] at hk3 ⊢
      refine stg rfl rfl (y_conv_8i rfl us5 Tryd.underlying3 (by omega)) rfl ?_
      refine stg rfl rfl (y_loadagg rfl agg25 us25 sz25 (by assumption) (by simp) (by rfl)) rfl ?_
      refine scg rfl rfl rfl rfl isfn18 (c_implNumbers m L A n c xs _ (by omega) (hT.keep hK' (by simp)) (hR.keep hK' (by simp)) (by have := ho.1; omega) (fun x h => by have := ho.2.2 x h; omega)) rfl ?_
      rintro _ w4 ⟨A4, c4, rfl, hR4, hK4⟩
      rw [hs] at hR4 ⊢
      have hBl4 := hBl.keep hK4 (by simp)
      have hK14 := hK'.trans hK4 (by simp)
      refine stg rfl rfl (y_move rfl) rfl ?_
      refine scg rfl rfl rfl rfl isfn14 (c_Numbers b s _ hBl4 (by omega)) rfl ?_
      rintro v5 w5 ⟨hO5, hK5⟩
      obtain ⟨A5, c5, rfl⟩ := hO5.form
      rw [List.length_map] at hO5 ⊢
      have hK15 := hK14.trans hK5 (by simp)
      refine scg rfl rfl rfl rfl isfn16 (c_list _ _ _ _ _ _ _ _ _ (hR4.keep hK5 (by simp)) hO5.rd' rfl) rfl ?_
      rintro _ w6 ⟨rfl, hK6⟩
      have hK16 := hK15.trans hK6 (by simp)
      refine stg rfl rfl (y_move rfl) rfl ?_
      refine scg rfl rfl rfl rfl isfn17 (c_alive _ (hT.keep hK16 (by simp))) rfl ?_
      rintro _ w7 ⟨rfl, hK7⟩
      refine stg rfl rfl (y_pickT rfl rfl) rfl ?_
      refine st (y_pickF rfl rfl) rfl ?_
      refine st (y_assign rfl) rfl ?_
      refine l_nil ?_
      refine q_then ?_
      refine c_ret ?_
      refine q_end1 (.inl rfl) rfl rfl ?_
      exact ⟨_, rfl, rfl, hK16.trans hK7 (by simp)⟩
    ·
      refine st (y_move rfl) rfl ?_
      refine st (y_extract rfl rfl) rfl ?_
      refine st (y_extract rfl rfl) rfl ?_
      refine st (y_assign rfl) rfl ?_
      refine st (y_assign rfl) rfl ?_
      refine l_nil ?_
      refine q_then ?_
      refine c_seq ?_
      refine c_region ?_
      refine st (y_move rfl) rfl ?_
      refine st (y_not rfl) rfl ?_
      refine st (y_move rfl) rfl ?_
      refine sno rfl rfl rfl rfl ?_
      refine sno rfl rfl rfl rfl ?_
      refine sno rfl rfl rfl rfl ?_
      refine sno rfl rfl rfl rfl ?_
      refine sno rfl rfl rfl rfl ?_
      refine sno rfl rfl rfl rfl ?_
      refine sno rfl rfl rfl rfl ?_
      refine sno rfl rfl rfl rfl ?_
      refine sno rfl rfl rfl rfl ?_
      refine snou rfl rfl rfl ?_
      refine sno rfl rfl rfl rfl ?_
      refine st (y_pickT rfl rfl) rfl ?_
      refine st (y_assign rfl) rfl ?_
      refine l_nil ?_
      refine q_then ?_
      refine c_ret ?_
      refine q_end1 (.inl rfl) rfl rfl ?_
      exact ⟨_, rfl, rfl, hK.trans hK3 (by simp)⟩

end Go.Proofs.YtbahhdeblppooaaDoor

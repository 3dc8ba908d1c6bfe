/- The reference's Numbers, by its contract. -/
import Derived.Test.YtepmbglaalkbdaaDoorA5
import Derived.Test.YtepmbglaalkbdaaDoorL5
import Derived.Test.YtepmbglaalkbdaaDoorK7
set_option linter.unusedVariables false
set_option linter.unusedSimpArgs false
set_option maxRecDepth 100000
namespace Go.Proofs.YtepmbglaalkbdaaDoor
open Go Go.RowKit

theorem c_Numbers (b : Nat) (s : List Bool) (w : World) (hB : Bl w b s) (hs : s.length ≤ 100000) :
    Cal Tryd.prog 37 [vS b s.length s.length] w fun v w' => Ow w' w.heap.size 22 v ((nums s).map vU) ∧ Keep w w' [] := by
  have hbl : b < w.heap.size := Blk.lt hB
  refine go_in' Tryd.func37 rfl Tryd.ntmps37 (Nat.le_of_ble_eq_true rfl) ?_
  refine c_seq ?_
  refine c_region ?_
  refine st (y_assign rfl) rfl ?_
  refine l_nil ?_
  refine q_then ?_
  refine c_seq ?_
  refine c_region ?_
  refine st_buildSlice0 Tryd.underlying23 sz22 rfl ?_
  intro b1 w1 hb1 hB1 hK1 hS1
  refine st (y_assign rfl) rfl ?_
  refine l_nil ?_
  refine q_then ?_
  refine c_seq ?_
  refine c_seq ?_
  refine c_region ?_
  refine st (y_move rfl) rfl ?_
  refine st (y_len rfl Tryd.underlying28) rfl ?_
  refine st (y_move (v := vI ((0 : Nat) : Int)) rfl) rfl ?_
  refine l_nil ?_
  refine q_then ?_
  refine c_block ?_
  refine c_loop (fun x : Nat × Value => [(0, vS b s.length s.length), (3, x.2), (7, vS b s.length s.length), (8, vI (s.length : Nat)), (9, vI (x.1 : Nat))]) (fun x w' => x.1 ≤ s.length ∧ Ow w' w.heap.size 22 x.2 ((nums (s.take x.1)).map vU) ∧ Keep w w' []) (fun x => s.length - x.1) (0, vS b1 0 0) ?_ ?_ ?_
  · exact ⟨rfl, rfl, rfl, rfl, rfl, trivial⟩
  · exact ⟨Nat.zero_le _, Ow.empty hB1 (by omega), hK1⟩
  · rintro ⟨k, v⟩ w2 ⟨hk, hO, hKk⟩
    simp only at hk hO hKk ⊢
    have hB2 : Blk w2 b 4 (s.map vB) := Blk.keep hB hKk (by simp)
    refine c_seq ?_
    refine c_region ?_
    refine st_if (y_lt_i rfl rfl) rfl (fun hlt => ?_) (fun hlt => ?_)
    · have hkn : k < s.length := by omega
      have hstep := nums_take_succ s k hkn
      refine l_nil ?_
      refine q_then ?_
      refine c_seq ?_
      refine c_true rfl rfl ?_
      refine c_skip ?_
      refine q_then ?_
      refine c_seq ?_
      refine c_block ?_
      refine c_seq ?_
      refine c_region ?_
      refine st (y_move rfl) rfl ?_
      first | refine st (y_index0 rfl rfl Tryd.underlying28 sz4 (by omega)) rfl ?_ | refine st (y_index rfl rfl Tryd.underlying28 sz4 (by omega)) rfl ?_ | refine st (y_indexA rfl rfl Tryd.underlying28 sz4 (by omega)) rfl ?_
      first | refine st (y_loadM (false) rfl one4 (by assumption) (by first | omega | (simp only [List.length_append, List.length_map, List.length_replicate, List.length_set, List.length_take, List.length_drop]; omega) | (simp; done))) rfl ?_ | refine st (y_load rfl one4 (by assumption)) rfl ?_
      refine st (y_assign rfl) rfl ?_
      refine st (y_assign rfl) rfl ?_
      refine l_nil ?_
      refine q_then ?_
      refine c_seq ?_
      refine c_region ?_
      refine st (y_move rfl) rfl ?_
      refine l_nil ?_
      refine q_then ?_
      refine c_ifb rfl (fun hbit => ?_) (fun hbit => ?_)
      · rw [if_pos hbit] at hstep
        have hlen := nums_length_take s k (by omega)
        have hcl := cnt_le (fun i => s.getD i false) k
        refine c_region ?_
        refine st (y_move rfl) rfl ?_
        refine st (y_move rfl) rfl ?_
        refine st (y_conv_iu rfl us3 Tryd.underlying22 rfl (by omega)) rfl ?_
        refine st_buildSlice [vU k] Tryd.underlying23 sz22 zv22 rfl (by decide) (by decide) (by kernel_rfl) rfl ?_
        intro b3 w3 hb3 hB3 hK3 hS3
        have hO3 := hO.keep hK3 (by simp)
        have hsz := hKk.size
        obtain ⟨i22, hi1, hi2, hi3, hi4⟩ := info_parts inf22
        refine st_append1 rfl rfl Tryd.underlying23 hi1 hi2 hi3 (by omega) rfl rfl (by assumption) (by assumption) (by first | omega | (simp only [List.length_map]; omega)) (by omega) rfl ?_
        clear hi1 hi2 hi3 hi4
        intro v4 w4 L4 hO4 hK4 hL4
        refine st (y_assign rfl) rfl ?_
        refine l_nil ?_
        refine q_block ?_
        refine q_then ?_
        refine c_region ?_
        first | refine st (y_add_in (b := 1) rfl rfl (by omega)) rfl ?_ | refine st (y_add_i (b := 1) rfl rfl (by omega) (by omega)) rfl ?_
        refine st (y_move rfl) rfl ?_
        refine l_nil ?_
        refine q_round (k + 1, v4) ⟨rfl, rfl, rfl, rfl, rfl, trivial⟩ ⟨by simp only; omega, ?_, ?_⟩ (by simp only; omega)
        · simp only
          rw [hstep, List.map_append]
          exact hO4
        · exact (hKk.trans hK3 (by simp)).trans hK4 (fun i hi => .inr (hL4 i hi))
      ·
        have hbit' : ¬ s.getD k false = true := by rw [hbit]; simp
        rw [if_neg hbit', List.append_nil] at hstep
        refine c_skip ?_
        refine q_block ?_
        refine q_then ?_
        refine c_region ?_
        first | refine st (y_add_in (b := 1) rfl rfl (by omega)) rfl ?_ | refine st (y_add_i (b := 1) rfl rfl (by omega) (by omega)) rfl ?_
        refine st (y_move rfl) rfl ?_
        refine l_nil ?_
        refine q_round (k + 1, v) ⟨rfl, rfl, rfl, rfl, rfl, trivial⟩ ⟨by simp only; omega, ?_, hKk⟩ (by simp only; omega)
        simp only
        rw [hstep]
        exact hO
    ·
      have hkn : k = s.length := by omega
      rw [hkn, List.take_length] at hO
      refine l_nil ?_
      refine q_then ?_
      refine c_seq ?_
      refine c_false rfl rfl ?_
      refine c_exit ?_
      refine q_then_exit ?_
      refine q_then_exit ?_
      refine q_block_hit ?_
      refine q_then ?_
      refine c_seq ?_
      refine c_region ?_
      refine st (y_move rfl) rfl ?_
      refine st (y_assign rfl) rfl ?_
      refine l_nil ?_
      refine q_then ?_
      refine c_ret ?_
      refine q_end1 (.inl rfl) rfl rfl ?_
      exact ⟨_, rfl, hO, hKk⟩


end Go.Proofs.YtepmbglaalkbdaaDoor

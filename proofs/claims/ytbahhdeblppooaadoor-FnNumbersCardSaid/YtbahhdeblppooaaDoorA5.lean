/- laws.set: the set of an argument as the reference has it, by its contract. -/
import Derived.Test.YtbahhdeblppooaaDoorA4
set_option linter.unusedVariables false
set_option linter.unusedSimpArgs false
set_option maxRecDepth 100000
namespace Go.Proofs.YtbahhdeblppooaaDoor
open Go Go.RowKit

/-- small enough to be spoken of -/
def Ok (L n : Nat) (xs : List Nat) : Prop := L ≤ 3000 ∧ n ≤ 3000 ∧ ∀ x ∈ xs, x ≤ 3000
theorem Ok.len {L n : Nat} {xs : List Nat} (h : Ok L n xs) : (mkS L xs).length ≤ 3001 := mkS_length_le L 3001 xs (by have := h.1; omega) fun x hx => by have := h.2.2 x hx; omega

/-- a list of truths that the call has made -/
def Bl (w : World) (b : Nat) (s : List Bool) : Prop := Blk w b 4 (s.map vB)
theorem Bl.keep {w w' : World} {b : Nat} {s : List Bool} {l : List Nat} (h : Bl w b s) (k : Keep w w' l) (hn : b ∉ l) : Bl w' b s := Blk.keep h k hn

theorem c_set (L : Nat) (A : Option Addr) (n c : Nat) (xs : List Nat) (w : World) (hR : Rd w A n xs) :
    Cal Tryd.prog 9 [aB L A n c] w fun v w' => Keep w w' [] ∧ ((Ok L n xs ∧ ∃ b, v = vT [vS b (mkS L xs).length (mkS L xs).length, vB true] ∧ Bl w' b (mkS L xs) ∧ w.heap.size ≤ b) ∨ v = vT [.slice none 0 0, vB false]) := by
  have hn := hR.1
  have hn63 := hR.2.1
  refine go_in' Tryd.func9 rfl Tryd.ntmps9 (Nat.le_of_ble_eq_true rfl) ?_
  refine c_seq ?_
  refine c_region ?_
  refine st_box _ rfl rfl rfl ?_
  intro b1 w1 hb1 hB1 hK1 hS1
  refine st (y_assign rfl) rfl ?_
  refine st (y_assign rfl) rfl ?_
  refine l_nil ?_
  refine q_then ?_
  refine c_seq ?_
  refine c_seq ?_
  refine c_region ?_
  refine st (fa25_0 rfl) rfl ?_
  refine st (y_loadb rfl one22 (by assumption) (by rfl)) rfl ?_
  refine st_if (y_gt_u (b := 3000) rfl rfl) rfl (fun hL => ?_) (fun hL => ?_)
  · refine st (y_move rfl) rfl ?_
    refine sno rfl rfl rfl rfl ?_
    refine sno rfl rfl rfl rfl ?_
    refine sno rfl rfl rfl rfl ?_
    refine sno rfl rfl rfl rfl ?_
    refine st (y_pickT rfl rfl) rfl ?_
    refine l_nil ?_
    refine q_then ?_
    refine c_true rfl rfl ?_
    refine c_seq ?_
    refine c_region ?_
    refine st (y_assign rfl) rfl ?_
    refine st (y_assign rfl) rfl ?_
    refine l_nil ?_
    refine q_then ?_
    refine c_ret ?_
    refine q_then_ret ?_
    refine q_end2 (.inl rfl) rfl rfl rfl ?_
    exact ⟨_, rfl, hK1, .inr rfl⟩
  ·
    refine st (y_move rfl) rfl ?_
    refine stg rfl rfl (fa25_1 rfl) rfl ?_
    refine stg rfl rfl (y_loadb rfl one23 (by assumption) (by rfl)) rfl ?_
    refine stg rfl rfl (y_len rfl Tryd.underlying23) rfl ?_
    refine stg_if rfl rfl (y_gt_i (b := 3000) rfl rfl) rfl (fun hN => ?_) (fun hN => ?_)
    · refine st (y_pickF rfl rfl) rfl ?_
      refine l_nil ?_
      refine q_then ?_
      refine c_true rfl rfl ?_
      refine c_seq ?_
      refine c_region ?_
      refine st (y_assign rfl) rfl ?_
      refine st (y_assign rfl) rfl ?_
      refine l_nil ?_
      refine q_then ?_
      refine c_ret ?_
      refine q_then_ret ?_
      refine q_end2 (.inl rfl) rfl rfl rfl ?_
      exact ⟨_, rfl, hK1, .inr rfl⟩
    ·
      refine st (y_pickF rfl rfl) rfl ?_
      refine l_nil ?_
      refine q_then ?_
      refine c_false rfl rfl ?_
      refine c_skip ?_
      refine q_then ?_
      refine c_seq ?_
      refine c_seq ?_
      refine c_region ?_
      refine st (fa25_1 rfl) rfl ?_
      refine st (y_loadb rfl one23 (by assumption) (by rfl)) rfl ?_
      refine st (y_len rfl Tryd.underlying23) rfl ?_
      refine st (y_move (v := vI ((0 : Nat) : Int)) rfl) rfl ?_
      refine l_nil ?_
      refine q_then ?_
      refine c_block ?_
      have hR1 := hR.keep hK1 (by simp)
      refine c_loop (fun k : Nat => [(1, vP b1), (16, .slice A n c), (17, vI (n : Nat)), (18, vI (k : Nat))]) (fun k w' => k ≤ n ∧ w1 = w' ∧ ∀ x ∈ xs.take k, x ≤ 3000) (fun k => n - k) 0 ?_ ?_ ?_
      · exact ⟨rfl, rfl, rfl, rfl, trivial⟩
      · exact ⟨Nat.zero_le _, rfl, by simp⟩
      · rintro k w2 ⟨hk, rfl, hx⟩
        refine c_seq ?_
        refine c_region ?_
        refine st_if (y_lt_i rfl rfl) rfl (fun hlt => ?_) (fun hlt => ?_)
        · obtain ⟨ad, rfl, had, hcell⟩ := hR1.2.2 (by omega)
          have hc := hcell k (by omega)
          refine l_nil ?_
          refine q_then ?_
          refine c_seq ?_
          refine c_true rfl rfl ?_
          refine c_skip ?_
          refine q_then ?_
          refine c_seq ?_
          refine c_block ?_
          refine c_seq ?_
          refine c_region ?_
          first | refine st (y_index0 rfl rfl Tryd.underlying23 sz22 (by omega)) rfl ?_ | refine st (y_index rfl rfl Tryd.underlying23 sz22 (by omega)) rfl ?_ | refine st (y_indexA rfl rfl Tryd.underlying23 sz22 (by omega)) rfl ?_
          first | refine st (y_loadM (0) rfl one22 (by assumption) (by first | omega | (simp only [List.length_append, List.length_map, List.length_replicate, List.length_set, List.length_take, List.length_drop]; omega) | (simp; done))) rfl ?_ | refine st (y_load rfl one22 (by assumption)) rfl ?_
          refine st (y_assign rfl) rfl ?_
          refine l_nil ?_
          refine q_then ?_
          refine c_seq ?_
          refine c_region ?_
          refine st (y_move rfl) rfl ?_
          refine st_if (y_gt_u (b := 3000) rfl rfl) rfl (fun hbig => ?_) (fun hbig => ?_)
          · refine l_nil ?_
            refine q_then ?_
            refine c_true rfl rfl ?_
            refine c_seq ?_
            refine c_region ?_
            refine st (y_assign rfl) rfl ?_
            refine st (y_assign rfl) rfl ?_
            refine l_nil ?_
            refine q_then ?_
            refine c_ret ?_
            refine q_block_ret ?_
            refine q_then_ret ?_
            refine q_then_ret ?_
            refine q_block_ret ?_
            refine q_then_ret ?_
            refine q_end2 (.inl rfl) rfl rfl rfl ?_
            exact ⟨_, rfl, hK1, .inr rfl⟩
          ·
            refine l_nil ?_
            refine q_then ?_
            refine c_false rfl rfl ?_
            refine c_skip ?_
            refine q_block ?_
            refine q_then ?_
            refine c_region ?_
            first | refine st (y_add_in (b := 1) rfl rfl (by omega)) rfl ?_ | refine st (y_add_i (b := 1) rfl rfl (by omega) (by omega)) rfl ?_
            refine st (y_move rfl) rfl ?_
            refine l_nil ?_
            refine q_round (k + 1) ⟨rfl, rfl, rfl, rfl, trivial⟩ ⟨by omega, rfl, ?_⟩ (by omega)
            rw [take_succ_getD xs k (by omega)]
            intro x h
            rcases List.mem_append.1 h with h | h
            · exact hx x h
            · simp only [List.mem_singleton] at h; subst h; omega
        ·
          have hkn : k = n := by omega
          rw [hkn, ← hn, List.take_length] at hx
          refine l_nil ?_
          refine q_then ?_
          refine c_seq ?_
          refine c_false rfl rfl ?_
          refine c_exit ?_
          refine q_then_exit ?_
          refine q_then_exit ?_
          refine q_block_hit ?_
          refine q_then ?_
          refine c_seq ?_
          refine c_region ?_
          refine st (fa25_0 rfl) rfl ?_
          refine st (y_loadb rfl one22 (by assumption) (by rfl)) rfl ?_
          refine st (fa25_1 rfl) rfl ?_
          refine st (y_loadb rfl one23 (by assumption) (by rfl)) rfl ?_
          refine sc rfl rfl isfn21 (c_Made L A n c xs _ hR1 (by omega) (fun x h => by have := hx x h; omega)) rfl ?_
          rintro _ w3 ⟨b, rfl, hB, hb, hK⟩
          refine st (y_assign rfl) rfl ?_
          refine st (y_assign rfl) rfl ?_
          refine l_nil ?_
          refine q_then ?_
          refine c_ret ?_
          refine q_end2 (.inl rfl) rfl rfl rfl ?_
          exact ⟨_, rfl, hK1.trans hK (by simp), .inl ⟨⟨by omega, by omega, hx⟩, b, rfl, hB, by have := hK1.size; omega⟩⟩

end Go.Proofs.YtbahhdeblppooaaDoor

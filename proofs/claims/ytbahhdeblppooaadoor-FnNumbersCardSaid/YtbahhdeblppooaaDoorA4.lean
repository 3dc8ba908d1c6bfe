/- The statements' own helpers and the reference's Has and Made, each by its contract; impl.Test. -/
import Derived.Test.YtbahhdeblppooaaDoorA3
set_option linter.unusedVariables false
set_option linter.unusedSimpArgs false
set_option maxRecDepth 100000
namespace Go.Proofs.YtbahhdeblppooaaDoor
open Go Go.RowKit

/-- a set as an argument: its length and a slice of numbers that is read -/
abbrev aB (L : Nat) (A : Option Addr) (n c : Nat) : Value := .agg #[vU L, .slice A n c]

theorem c_zzFits1 (L : Nat) (A : Option Addr) (n c : Nat) (w : World) : Cal Tryd.prog 8 [aB L A n c] w fun v w' => v = vB (decide (n ≤ 2147483647)) ∧ Keep w w' [] := by
  refine go_in' Tryd.func8 rfl Tryd.ntmps8 (Nat.le_of_ble_eq_true rfl) ?_
  refine c_seq ?_
  refine c_region ?_
  refine st_box _ rfl rfl rfl ?_
  intro b1 w1 hb1 hB1 hK1 hS1
  refine st (y_assign rfl) rfl ?_
  refine l_nil ?_
  refine q_then ?_
  refine c_seq ?_
  refine c_seq ?_
  refine c_region ?_
  refine st (fa25_1 rfl) rfl ?_
  refine st (y_loadb rfl one23 (by assumption) (by rfl)) rfl ?_
  refine st (y_len rfl Tryd.underlying23) rfl ?_
  refine st_if (y_gt_i (b := 2147483647) rfl rfl) rfl (fun h => ?_) (fun h => ?_)
  · refine l_nil ?_
    refine q_then ?_
    refine c_true rfl rfl ?_
    refine c_seq ?_
    refine c_region ?_
    refine st (y_assign rfl) rfl ?_
    refine l_nil ?_
    refine q_then ?_
    refine c_ret ?_
    refine q_then_ret ?_
    refine q_end1 (.inl rfl) rfl rfl ?_
    exact ⟨_, rfl, by rw [decide_eq_false (by omega)], hK1⟩
  ·
    refine l_nil ?_
    refine q_then ?_
    refine c_false rfl rfl ?_
    refine c_skip ?_
    refine q_then ?_
    refine c_seq ?_
    refine c_region ?_
    refine st (y_assign rfl) rfl ?_
    refine l_nil ?_
    refine q_then ?_
    refine c_ret ?_
    refine q_end1 (.inl rfl) rfl rfl ?_
    exact ⟨_, rfl, by rw [decide_eq_true (by omega)], hK1⟩

theorem c_Has (b : Nat) (s : List Bool) (i : Nat) (w : World) (hB : Blk w b 4 (s.map vB)) (hs : s.length ≤ 1000000) :
    Cal Tryd.prog 27 [vS b s.length s.length, vI (i : Nat)] w fun v w' => v = vB (s.getD i false) ∧ w = w' := by
  refine go_in' Tryd.func27 rfl Tryd.ntmps27 (Nat.le_of_ble_eq_true rfl) ?_
  refine c_seq ?_
  refine c_region ?_
  refine st (y_assign rfl) rfl ?_
  refine l_nil ?_
  refine q_then ?_
  refine c_seq ?_
  refine c_region ?_
  refine st (y_move rfl) rfl ?_
  refine st_t (y_ge_i (b := 0) rfl rfl) (by omega) rfl ?_
  refine st (y_move rfl) rfl ?_
  refine stg rfl rfl (y_move rfl) rfl ?_
  refine stg rfl rfl (y_move rfl) rfl ?_
  refine stg rfl rfl (y_len rfl Tryd.underlying28) rfl ?_
  refine stg_if rfl rfl (y_lt_i rfl rfl) rfl (fun h => ?_) (fun h => ?_)
  · have hi : i < s.length := by omega
    refine st (y_pickT rfl rfl) rfl ?_
    refine st (y_move rfl) rfl ?_
    refine stg rfl rfl (y_move rfl) rfl ?_
    refine stg rfl rfl (y_move rfl) rfl ?_
    first | refine stg rfl rfl (y_index0 rfl rfl Tryd.underlying28 sz4 (by omega)) rfl ?_ | refine stg rfl rfl (y_index rfl rfl Tryd.underlying28 sz4 (by omega)) rfl ?_ | refine stg rfl rfl (y_indexA rfl rfl Tryd.underlying28 sz4 (by omega)) rfl ?_
    first | refine stg rfl rfl (y_loadM (false) rfl one4 (by assumption) (by first | omega | (simp only [List.length_append, List.length_map, List.length_replicate, List.length_set, List.length_take, List.length_drop]; omega) | (simp; done))) rfl ?_ | refine stg rfl rfl (y_load rfl one4 (by assumption)) rfl ?_
    refine st (y_pickT rfl rfl) rfl ?_
    refine st (y_assign rfl) rfl ?_
    refine l_nil ?_
    refine q_then ?_
    refine c_ret ?_
    refine q_end1 (.inl rfl) rfl rfl ?_
    exact ⟨_, rfl, rfl, rfl⟩
  ·
    refine st (y_pickT rfl rfl) rfl ?_
    refine st (y_move rfl) rfl ?_
    refine sno rfl rfl rfl rfl ?_
    refine sno rfl rfl rfl rfl ?_
    refine sno rfl rfl rfl rfl ?_
    refine sno rfl rfl rfl rfl ?_
    refine st (y_pickF rfl rfl) rfl ?_
    refine st (y_assign rfl) rfl ?_
    refine l_nil ?_
    refine q_then ?_
    refine c_ret ?_
    refine q_end1 (.inl rfl) rfl rfl ?_
    exact ⟨_, rfl, by rw [getD_ge s false (by omega)], rfl⟩

theorem c_three (w : World) : Cal Tryd.prog 13 [] w fun v w' => ∃ b, v = aB 9 (some ⟨b, 0, none⟩) 3 3 ∧ Rd w' (some ⟨b, 0, none⟩) 3 [1, 2, 5] ∧ w.heap.size ≤ b ∧ Keep w w' [] := by
  refine go_in' Tryd.func13 rfl Tryd.ntmps13 (Nat.le_of_ble_eq_true rfl) ?_
  refine c_seq ?_
  refine c_region ?_
  refine st_alloc [.int .u64 0, .slice none 0 0] zv25 rfl rfl ?_
  intro b1 w1 hb1 hB1 hK1 hS1
  refine l_nil ?_
  refine q_then ?_
  refine c_seq ?_
  refine c_region ?_
  refine st_buildSlice [vU 1, vU 2, vU 5] Tryd.underlying23 sz22 zv22 rfl (by decide) (by decide) (by kernel_rfl) rfl ?_
  intro b2 w2 hb2 hB2 hK2 hS2
  have hB1 := hB1.keep hK2 (by simp only [List.mem_cons, List.not_mem_nil, or_false, not_or, not_false_eq_true] <;> omega)
  refine st (bld25_0_1 rfl rfl) rfl ?_
  refine st_storeagg rfl rfl (by simp [Value.oneCell']) sz25 rfl (by assumption) (by simp) rfl ?_
  intro w3 hB3 hK3 hS3
  have hB2 := hB2.keep hK3 (by simp only [List.mem_cons, List.not_mem_nil, or_false, not_or, not_false_eq_true] <;> omega)
  refine l_nil ?_
  refine q_then ?_
  refine c_ret ?_
  refine q_endc (.inl rfl) rfl rfl agg25 us25 sz25 (by assumption) (by rfl) ?_
  have hK : Keep w _ [] := ((((Keep.refl w []).trans hK1 (by intro i; simp only [List.mem_cons, List.not_mem_nil, or_false, false_or, false_implies] <;> omega)).trans hK2 (by intro i; simp only [List.mem_cons, List.not_mem_nil, or_false, false_or, false_implies] <;> omega)).trans hK3 (by intro i; simp only [List.mem_cons, List.not_mem_nil, or_false, false_or, false_implies] <;> omega))
  refine ⟨_, rfl, b2, rfl, ⟨rfl, by omega, fun _ => ⟨_, rfl, hB2.lt, ?_⟩⟩, by omega, hK⟩
  intro j hj
  rw [add_pt]
  have h3 : j = 0 ∨ j = 1 ∨ j = 2 := by omega
  rcases h3 with rfl | rfl | rfl <;> exact hB2.cell rfl

theorem c_Made (L : Nat) (A : Option Addr) (n c : Nat) (xs : List Nat) (w : World) (hR : Rd w A n xs) (hL : L ≤ 6000) (hx : ∀ x ∈ xs, x ≤ 6000) :
    Cal Tryd.prog 21 [vU L, .slice A n c] w fun v w' => ∃ b, v = vS b (mkS L xs).length (mkS L xs).length ∧ Blk w' b 4 ((mkS L xs).map vB) ∧ w.heap.size ≤ b ∧ Keep w w' [] := by
  have hn := hR.1
  have hn63 := hR.2.1
  refine go_in' Tryd.func21 rfl Tryd.ntmps21 (Nat.le_of_ble_eq_true rfl) ?_
  refine c_seq ?_
  refine c_region ?_
  refine st (y_assign rfl) rfl ?_
  refine l_nil ?_
  refine q_then ?_
  refine c_seq ?_
  refine c_region ?_
  refine st (y_move rfl) rfl ?_
  refine st (y_assign rfl) rfl ?_
  refine l_nil ?_
  refine q_then ?_
  refine c_seq ?_
  refine c_seq ?_
  refine c_region ?_
  refine st (y_move rfl) rfl ?_
  refine st (y_len rfl Tryd.underlying23) rfl ?_
  refine st (y_move (v := vI ((0 : Nat) : Int)) rfl) rfl ?_
  refine l_nil ?_
  refine q_then ?_
  refine c_block ?_
  refine c_loop (fun k : Nat => [(0, vU L), (1, .slice A n c), (5, vU (mkN L (xs.take k))), (12, .slice A n c), (13, vI (n : Nat)), (14, vI (k : Nat))]) (fun k w' => k ≤ n ∧ w = w') (fun k => n - k) 0 ?_ ?_ ?_
  · exact ⟨rfl, rfl, rfl, rfl, rfl, rfl, trivial⟩
  · exact ⟨Nat.zero_le _, rfl⟩
  · rintro k w' ⟨hk, rfl⟩
    have hN := mkN_le L 6001 (xs.take k) (by omega) (fun x h => by have := hx x (List.mem_of_mem_take h); omega)
    refine c_seq ?_
    refine c_region ?_
    refine st_if (y_lt_i rfl rfl) rfl (fun hlt => ?_) (fun hlt => ?_)
    · obtain ⟨ad, rfl, had, hcell⟩ := hR.2.2 (by omega)
      have hkn : k < n := by omega
      have hc := hcell k hkn
      have hxk : xs.getD k 0 ≤ 6000 := by
        rw [List.getD_eq_getElem?_getD, List.getElem?_eq_getElem (by omega)]
        exact hx _ (List.getElem_mem _)
      refine l_nil ?_
      refine q_then ?_
      refine c_seq ?_
      refine c_true rfl rfl ?_
      refine c_skip ?_
      refine q_then ?_
      refine c_seq ?_
      refine c_block ?_
      refine c_seq ?_
      refine c_region ?_
      first | refine st (y_index0 rfl rfl Tryd.underlying23 sz22 (by omega)) rfl ?_ | refine st (y_index rfl rfl Tryd.underlying23 sz22 (by omega)) rfl ?_ | refine st (y_indexA rfl rfl Tryd.underlying23 sz22 (by omega)) rfl ?_
      first | refine st (y_loadM (0) rfl one22 (by assumption) (by first | omega | (simp only [List.length_append, List.length_map, List.length_replicate, List.length_set, List.length_take, List.length_drop]; omega) | (simp; done))) rfl ?_ | refine st (y_load rfl one22 (by assumption)) rfl ?_
      refine st (y_assign rfl) rfl ?_
      refine l_nil ?_
      refine q_then ?_
      refine c_region ?_
      refine st (y_move rfl) rfl ?_
      refine st (y_move rfl) rfl ?_
      refine st (y_add_u (b := 1) rfl rfl (by omega)) rfl ?_
      refine st (y_max_u rfl rfl Tryd.underlying22) rfl ?_
      refine st (y_assign rfl) rfl ?_
      refine l_nil ?_
      refine q_block ?_
      refine q_then ?_
      refine c_region ?_
      first | refine st (y_add_in (b := 1) rfl rfl (by omega)) rfl ?_ | refine st (y_add_i (b := 1) rfl rfl (by omega) (by omega)) rfl ?_
      refine st (y_move rfl) rfl ?_
      refine l_nil ?_
      refine q_round (k + 1) ⟨rfl, rfl, ?_, rfl, rfl, rfl, trivial⟩ ⟨by omega, rfl⟩ (by omega)
      rw [take_succ_getD xs k (by omega), mkN_snoc]
      rfl
    ·
      have hkn : k = n := by omega
      subst hkn
      refine l_nil ?_
      refine q_then ?_
      refine c_seq ?_
      refine c_false rfl rfl ?_
      refine c_exit ?_
      refine q_then_exit ?_
      refine q_then_exit ?_
      refine q_block_hit ?_
      refine q_then ?_
      refine c_seq ?_
      refine c_region ?_
      refine st (y_move rfl) rfl ?_
      obtain ⟨N, hN1⟩ : ∃ N, mkN L (xs.take k) = N := ⟨_, rfl⟩
      rw [hN1] at hN ⊢
      refine mk28 rfl rfl (by omega) (by omega) rfl ?_
      intro b1 w1 hb1 hB1 hK1 hS1
      have hR1 := hR.keep hK1 (by simp)
      have hNx := (mkN_ge L xs).2
      have hN2 : mkN L xs = N := by rw [← hN1, ← hn, List.take_length]
      refine st (y_assign rfl) rfl ?_
      refine l_nil ?_
      refine q_then ?_
      refine c_seq ?_
      refine c_seq ?_
      refine c_region ?_
      refine st (y_move rfl) rfl ?_
      refine st (y_len rfl Tryd.underlying23) rfl ?_
      refine st (y_move (v := vI ((0 : Nat) : Int)) rfl) rfl ?_
      refine l_nil ?_
      refine q_then ?_
      refine c_block ?_
      refine c_loop (fun j : Nat => [(8, vS b1 N N), (25, .slice A k c), (26, vI (k : Nat)), (27, vI (j : Nat))]) (fun j w' => j ≤ k ∧ Blk w' b1 4 ((setAll (List.replicate N false) (xs.take j)).map vB) ∧ Keep w1 w' [b1]) (fun j => k - j) 0 ?_ ?_ ?_
      · exact ⟨rfl, rfl, rfl, rfl, trivial⟩
      · exact ⟨Nat.zero_le _, by simpa [setAll] using hB1, Keep.refl _ _⟩
      · intro j w2 ⟨hj, hBj, hKj⟩
        have hK2 : Keep w w2 [] := hK1.trans hKj (by intro x; simp only [List.mem_cons, List.not_mem_nil, or_false, false_or]; omega)
        have hR2 := hR.keep hK2 (by simp)
        have hsl := setAll_length (List.replicate N false) (xs.take j)
        rw [List.length_replicate] at hsl
        refine c_seq ?_
        refine c_region ?_
        refine st_if (y_lt_i rfl rfl) rfl (fun hlt => ?_) (fun hlt => ?_)
        · obtain ⟨ad, rfl, had, hcell⟩ := hR2.2.2 (by omega)
          have hc := hcell j (by omega)
          have hxj : xs.getD j 0 < N := by
            rw [← hN2, List.getD_eq_getElem?_getD, List.getElem?_eq_getElem (by omega)]
            exact hNx _ (List.getElem_mem _)
          refine l_nil ?_
          refine q_then ?_
          refine c_seq ?_
          refine c_true rfl rfl ?_
          refine c_skip ?_
          refine q_then ?_
          refine c_seq ?_
          refine c_block ?_
          refine c_seq ?_
          refine c_region ?_
          first | refine st (y_index0 rfl rfl Tryd.underlying23 sz22 (by omega)) rfl ?_ | refine st (y_index rfl rfl Tryd.underlying23 sz22 (by omega)) rfl ?_ | refine st (y_indexA rfl rfl Tryd.underlying23 sz22 (by omega)) rfl ?_
          first | refine st (y_loadM (0) rfl one22 (by assumption) (by first | omega | (simp only [List.length_append, List.length_map, List.length_replicate, List.length_set, List.length_take, List.length_drop]; omega) | (simp; done))) rfl ?_ | refine st (y_load rfl one22 (by assumption)) rfl ?_
          refine st (y_assign rfl) rfl ?_
          refine l_nil ?_
          refine q_then ?_
          refine c_region ?_
          refine st (y_move rfl) rfl ?_
          refine st (y_move rfl) rfl ?_
          first | refine st (y_index0 rfl rfl Tryd.underlying28 sz4 (by omega)) rfl ?_ | refine st (y_index rfl rfl Tryd.underlying28 sz4 (by omega)) rfl ?_ | refine st (y_indexA rfl rfl Tryd.underlying28 sz4 (by omega)) rfl ?_
          refine st_storeM vB rfl rfl rfl sz4 (by assumption) (by first | omega | (simp only [List.length_append, List.length_map, List.length_replicate, List.length_set, List.length_take, List.length_drop]; omega)) rfl ?_
          intro w3 hB3 hK3 hS3
          refine l_nil ?_
          refine q_block ?_
          refine q_then ?_
          refine c_region ?_
          first | refine st (y_add_in (b := 1) rfl rfl (by omega)) rfl ?_ | refine st (y_add_i (b := 1) rfl rfl (by omega) (by omega)) rfl ?_
          refine st (y_move rfl) rfl ?_
          refine l_nil ?_
          refine q_round (j + 1) ⟨rfl, rfl, rfl, rfl, trivial⟩ ⟨by omega, ?_, hKj.trans hK3 (fun i h => .inl h)⟩ (by omega)
          rw [take_succ_getD xs j (by omega), setAll_snoc]
          exact hB3
        ·
          have hjk : j = k := by omega
          refine l_nil ?_
          refine q_then ?_
          refine c_seq ?_
          refine c_false rfl rfl ?_
          refine c_exit ?_
          refine q_then_exit ?_
          refine q_then_exit ?_
          refine q_block_hit ?_
          refine q_then ?_
          refine c_seq ?_
          refine c_region ?_
          refine st (y_move rfl) rfl ?_
          refine st (y_assign rfl) rfl ?_
          refine l_nil ?_
          refine q_then ?_
          refine c_ret ?_
          refine q_end1 (.inl rfl) rfl rfl ?_
          refine ⟨_, rfl, b1, ?_, ?_, by omega, hK2⟩
          · rw [mkS_length, hN2]
          · rw [← setAll_eq, hN2]
            rw [hjk, ← hn, List.take_length] at hBj
            exact hBj

end Go.Proofs.YtbahhdeblppooaaDoor

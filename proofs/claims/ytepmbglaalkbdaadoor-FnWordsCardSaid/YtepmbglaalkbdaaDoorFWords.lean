/- A set of words has the numbers of their bits, and tells these words: the statement's own walk. -/
import Derived.Test.YtepmbglaalkbdaaDoorA6
import Derived.Test.YtepmbglaalkbdaaDoorK11
set_option linter.unusedVariables false
set_option linter.unusedSimpArgs false
set_option maxRecDepth 100000
set_option maxHeartbeats 1000000
namespace Go.Proofs.YtepmbglaalkbdaaDoor
open Go Go.RowKit

theorem c_FnWords (A : Option Addr) (n c : Nat) (xs : List Nat) (w : World) (hT : Tb w) (hA : A = none → c = 0) (hx : ∀ x ∈ xs, x < 18446744073709551616) (hR : Rd w A n xs) :
    Cal Tryd.prog 4 [.slice A n c] w fun v w' => v = vB true ∧ Keep w w' [] := by
  have hT0 := hT.1
  have hl := hR.1
  have hn63 := hR.2.1
  have hol := ofW_length xs
  have hpo := pack_ofW hx
  have hms := mkS_nums (ofW xs)
  refine go_in' Tryd.func4 rfl Tryd.ntmps4 (Nat.le_of_ble_eq_true rfl) ?_
  refine c_seq ?_
  refine c_region ?_
  refine st (y_assign rfl) rfl ?_
  refine l_nil ?_
  refine q_then ?_
  refine c_seq ?_
  refine c_seq ?_
  refine c_region ?_
  refine st (y_move rfl) rfl ?_
  refine st (y_len rfl Tryd.underlying34) rfl ?_
  refine st_if (y_gt_i (b := 2147483647) rfl rfl) rfl (fun h1 => ?_) (fun h1 => ?_)
  · refine l_nil ?_
    refine q_then ?_
    refine c_true rfl rfl ?_
    refine c_seq ?_
    refine c_region ?_
    refine st (y_assign rfl) rfl ?_
    refine l_nil ?_
    refine q_then ?_
    refine c_ret ?_
    refine q_then_ret ?_
    refine q_end1 (.inl rfl) rfl rfl ?_
    exact ⟨_, rfl, rfl, Keep.refl _ _⟩
  ·
    refine l_nil ?_
    refine q_then ?_
    refine c_false rfl rfl ?_
    refine c_skip ?_
    refine q_then ?_
    refine c_seq ?_
    refine c_seq ?_
    refine c_region ?_
    refine st (y_move rfl) rfl ?_
    refine st (y_len rfl Tryd.underlying34) rfl ?_
    refine st_if (y_gt_i (b := 50) rfl rfl) rfl (fun h2 => ?_) (fun h2 => ?_)
    · refine l_nil ?_
      refine q_then ?_
      refine c_true rfl rfl ?_
      refine c_seq ?_
      refine c_region ?_
      refine st (y_assign rfl) rfl ?_
      refine l_nil ?_
      refine q_then ?_
      refine c_ret ?_
      refine q_then_ret ?_
      refine q_end1 (.inl rfl) rfl rfl ?_
      exact ⟨_, rfl, rfl, Keep.refl _ _⟩
    ·
      have hn : n ≤ 50 := by omega
      refine l_nil ?_
      refine q_then ?_
      refine c_false rfl rfl ?_
      refine c_skip ?_
      refine q_then ?_
      refine c_seq ?_
      refine c_region ?_
      refine st (y_move rfl) rfl ?_
      refine sc rfl rfl isfn14 (c_implFromWords A n c xs hA hn hx _ hT hR) rfl ?_
      rintro _ w1 ⟨A1, c1, rfl, hO1, hK1⟩
      have hR1 := hR.keep hK1 (by simp)
      have hnl := nums_le (ofW xs) 3300 (by omega)
      refine st_alloc [.int .u64 0, .slice none 0 0] zv25 rfl rfl ?_
      intro b3 w2 hb3 hB2 hK2 hS2
      refine st_storeagg rfl rfl (by simp [Value.oneCell']) sz25 rfl (by assumption) (by simp) rfl ?_
      intro w3 hB3' hK3 hS3
      have hB3 : Blk w3 b3 25 [vU (ofW xs).length, .slice A1 (nums (ofW xs)).length c1] := hB3'
      clear hB3' hB2
      have hK13 := (hK1.trans hK2 (by simp)).trans hK3 (fun i hi => by simp only [List.mem_singleton] at hi; have := hK1.size; exact .inr (by omega))
      have hRn : Rd w3 A1 (nums (ofW xs)).length (nums (ofW xs)) := by
        refine ⟨hO1.rd'.1, hO1.rd'.2.1, fun h0 => ?_⟩
        obtain ⟨ad, e, hadl, hc⟩ := hO1.rd'.2.2 h0
        have e2 : ∀ j, (ad.add j).block = ad.block := fun j => by unfold Addr.add; split <;> rfl
        refine ⟨ad, e, by omega, fun j hj => ?_⟩
        rw [← hc j hj]
        refine World.cell?_of_block ?_
        rw [hK3.same _ (by rw [e2]; omega) (by rw [e2]; simp only [List.mem_singleton]; omega)]
        exact hK2.same _ (by rw [e2]; omega) (by simp)
      refine l_nil ?_
      refine q_then ?_
      refine c_seq ?_
      refine c_region ?_
      refine st (y_loadagg rfl agg25 us25 sz25 (by assumption) (by simp) (by rfl)) rfl ?_
      refine sc rfl rfl isfn15 (c_implWords (ofW xs).length A1 _ c1 (nums (ofW xs)) _ hRn (by omega) (fun x h => by have := hnl x h; omega)) rfl ?_
      rintro _ w4 ⟨A4, c4, rfl, hR4, hK4⟩
      rw [hms, hpo, hl] at hR4 ⊢
      have hB3 := hB3.keep hK4 (by simp only [List.mem_cons, List.not_mem_nil, or_false, not_or, not_false_eq_true] <;> omega)
      have hK14 := hK13.trans hK4 (by simp)
      have hK14d := hK14.trans (Keep.drew w4 []) (by simp)
      have hRd := hR.keep hK14d (by simp)
      have hRn4 := (hRn.keep hK4 (by simp)).keep (Keep.drew w4 []) (by simp)
      have hR4d := hR4.keep (Keep.drew w4 []) (by simp)
      refine st (y_assign rfl) rfl ?_
      refine l_nil ?_
      refine q_then ?_
      refine c_seq ?_
      refine c_seq ?_
      refine c_moves ((fun w' => Blk w' b3 25 [vU (ofW xs).length, .slice A1 (nums (ofW xs)).length c1])) (.take 0 (.take 1 (.one 2 (.one 3 (.take 4 (.take 5 (.take 6 (.take 7 (.take 8 (.take 9 (.take 10 (.take 11 .nil)))))))))))) mixed (by kernel_rfl) rfl (by kernel_rfl) (hB3.drew) ?_
      show wpM _ _ _ _ _ _ _ _ _
      refine mt rfl (fun w' hS => y_loadagg rfl agg25 us25 sz25 (by first | assumption | exact hS.1 | exact hS.2 | exact hS.2.1 | exact hS.2.2) (by simp) (by rfl)) rfl rfl ?_
      refine mt rfl (fun w' hS => y_move rfl) rfl rfl ?_
      refine mh rfl ?_
      refine sc rfl rfl isfn16 (c_Of A n c xs (by omega) hx _ hRd) rfl ?_
      rintro _ w5 ⟨b5, rfl, hBl5, hb5, hK5⟩
      have hK15 := hK14d.trans hK5 (by simp)
      refine l_nil ?_
      refine mh_end ((hB3.drew.keep hK5 (by simp))) ?_
      refine mh rfl ?_
      refine sc rfl rfl isfn11 (c_exactly _ _ _ _ _ _ _ _ _ _ (hRn4.keep hK5 (by simp)) (hBl5.rdB (by omega)) (by omega) rfl rfl) rfl ?_
      rintro _ w6 ⟨rfl, hK6⟩
      have hK16 := hK15.trans hK6 (by simp)
      refine l_nil ?_
      refine mh_end (((hB3.drew.keep hK5 (by simp)).keep hK6 (by simp))) ?_
      refine mt rfl (fun w' hS => y_not rfl) rfl rfl ?_
      refine mt rfl (fun w' hS => y_move rfl) rfl rfl ?_
      refine mtg rfl rfl rfl (fun w' hS => y_move rfl) rfl rfl ?_
      refine mtg rfl rfl rfl (fun w' hS => y_len rfl Tryd.underlying34) rfl rfl ?_
      refine mtg rfl rfl rfl (fun w' hS => y_move rfl) rfl rfl ?_
      refine mtg rfl rfl rfl (fun w' hS => y_len rfl Tryd.underlying34) rfl rfl ?_
      refine mtg_f rfl rfl rfl (fun w' hS => y_ne_i rfl rfl) ((by omega)) rfl ?_
      refine mt rfl (fun w' hS => y_pickF rfl rfl) rfl rfl ?_
      refine m_nil ?_
      refine q_then ?_
      refine c_false rfl rfl ?_
      refine c_skip ?_
      refine q_then ?_
      refine c_seq ?_
      refine c_seq ?_
      refine c_region ?_
      refine st (y_move rfl) rfl ?_
      refine st (y_len rfl Tryd.underlying34) rfl ?_
      refine st (y_move (v := vI ((0 : Nat) : Int)) rfl) rfl ?_
      refine l_nil ?_
      refine q_then ?_
      refine c_block ?_
      have hR6 := (hR4d.keep hK5 (by simp)).keep hK6 (by simp)
      have hRx6 := hR.keep hK16 (by simp)
      have hT6 := hT.keep hK16 (by simp)
      have hn6 := hR6.2.1
      refine c_loop (fun k : Nat => [(0, .slice A n c), (4, .slice A4 n c4), (29, vI (n : Nat)), (30, vI (k : Nat))]) (fun k w' => k ≤ n ∧ Keep w6 w' []) (fun k => n - k) 0 ?_ ?_ ?_
      · exact ⟨rfl, rfl, rfl, rfl, trivial⟩
      · exact ⟨Nat.zero_le _, Keep.refl _ _⟩
      · rintro k w7 ⟨hk, hK7⟩
        refine c_seq ?_
        refine c_region ?_
        refine st_if (y_lt_i rfl rfl) rfl (fun hlt => ?_) (fun hlt => ?_)
        · have hK7d := hK7.trans (Keep.drew w7 []) (by simp)
          obtain ⟨ad, rfl, had, hcell⟩ := (hRx6.keep hK7d (by simp)).2.2 (by omega)
          obtain ⟨ad2, rfl, had2, hcell2⟩ := (hR6.keep hK7d (by simp)).2.2 (by omega)
          have hc := hcell k (by omega)
          have hc2 := hcell2 k (by omega)
          refine l_nil ?_
          refine q_then ?_
          refine c_seq ?_
          refine c_true rfl rfl ?_
          refine c_skip ?_
          refine q_then ?_
          refine c_seq ?_
          refine c_block ?_
          refine c_seq ?_
          refine c_region ?_
          refine st (y_move rfl) rfl ?_
          refine st (y_assign rfl) rfl ?_
          refine l_nil ?_
          refine q_then ?_
          refine c_seq ?_
          refine c_still mixed (by kernel_rfl) ?_
          refine ss (y_move rfl) rfl ?_
          refine ss (y_move rfl) rfl ?_
          first | refine ss (y_index0 rfl rfl Tryd.underlying34 sz38 (by omega)) rfl ?_ | refine ss (y_index rfl rfl Tryd.underlying34 sz38 (by omega)) rfl ?_ | refine ss (y_indexA rfl rfl Tryd.underlying34 sz38 (by omega)) rfl ?_
          refine ss (y_load rfl one38 (by assumption)) rfl ?_
          refine ss (y_move rfl) rfl ?_
          refine ss (y_move rfl) rfl ?_
          first | refine ss (y_index0 rfl rfl Tryd.underlying34 sz38 (by omega)) rfl ?_ | refine ss (y_index rfl rfl Tryd.underlying34 sz38 (by omega)) rfl ?_ | refine ss (y_indexA rfl rfl Tryd.underlying34 sz38 (by omega)) rfl ?_
          refine ss (y_load rfl one38 (by assumption)) rfl ?_
          refine ss_f (y_ne_u rfl rfl) (by omega) rfl ?_
          refine s_nil ?_
          refine q_then ?_
          refine c_false rfl rfl ?_
          refine c_skip ?_
          refine q_block ?_
          refine q_then ?_
          refine c_region ?_
          first | refine st (y_add_in (b := 1) rfl rfl (by omega)) rfl ?_ | refine st (y_add_i (b := 1) rfl rfl (by omega) (by omega)) rfl ?_
          refine st (y_move rfl) rfl ?_
          refine l_nil ?_
          exact q_round (k + 1) ⟨rfl, rfl, rfl, rfl, trivial⟩ ⟨by omega, hK7d⟩ (by omega)
        ·
          refine l_nil ?_
          refine q_then ?_
          refine c_seq ?_
          refine c_false rfl rfl ?_
          refine c_exit ?_
          refine q_then_exit ?_
          refine q_then_exit ?_
          refine q_block_hit ?_
          refine q_then ?_
          refine c_seq ?_
          refine c_region ?_
          refine sc rfl rfl isfn13 (c_alive _ (hT6.keep hK7 (by simp))) rfl ?_
          rintro _ w8 ⟨rfl, hK8⟩
          refine st (y_assign rfl) rfl ?_
          refine l_nil ?_
          refine q_then ?_
          refine c_ret ?_
          refine q_end1 (.inl rfl) rfl rfl ?_
          exact ⟨_, rfl, rfl, (hK16.trans hK7 (by simp)).trans hK8 (by simp)⟩

end Go.Proofs.YtepmbglaalkbdaaDoor

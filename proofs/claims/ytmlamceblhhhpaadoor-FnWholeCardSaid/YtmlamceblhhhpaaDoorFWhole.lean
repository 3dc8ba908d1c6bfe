/- A set made small, cleared, filled: Compact, impl.Change for these, and the statement's own walk. -/
import Derived.Test.YtmlamceblhhhpaaDoorT2
import Derived.Test.YtmlamceblhhhpaaDoorG2
set_option linter.unusedVariables false
set_option linter.unusedSimpArgs false
set_option maxRecDepth 100000
namespace Go.Proofs.YtmlamceblhhhpaaDoor
open Go Go.RowKit

theorem c_Compact (p q : Nat) (s : List Bool) (w : World) (hB : BSet w p q s) (hs : s.length ≤ 100001) :
    Cal Tryd.prog 27 [vP p] w fun v w' => v = vP p ∧ ∃ q' t, nums t = nums s ∧ t.length ≤ s.length ∧ BSet w' p q' t ∧ (q' = q ∨ w.heap.size ≤ q') ∧ Keep w w' [p, q] := by
  obtain ⟨tl, hBW⟩ := id hB
  have hst := hBW.st
  have hwd := hBW.wd
  have hlen := pack_length s
  have hnn : (pack s).length ≤ 2000 := by rw [hlen]; unfold nW; omega
  refine go_in' Tryd.func27 rfl Tryd.ntmps27 (Nat.le_of_ble_eq_true rfl) ?_
  refine c_seq ?_
  refine c_region ?_
  refine st (y_assign rfl) rfl ?_
  refine l_nil ?_
  refine q_then ?_
  refine c_seq ?_
  refine c_region ?_
  refine st (y_move rfl) rfl ?_
  refine st (y_nil rfl) rfl ?_
  refine st (fa53_1 rfl) rfl ?_
  refine st (y_loadb rfl one51 (by assumption) (by rfl)) rfl ?_
  refine st (y_len rfl Tryd.underlying51) rfl ?_
  refine st (y_sub_i (b := 1) rfl rfl (by omega) (by omega)) rfl ?_
  refine st (y_assign rfl) rfl ?_
  refine l_nil ?_
  refine q_then ?_
  refine c_cut (fun k : Nat => [(0, vP p), (3, vI ((k : Int) - 1))]) (fun k w' => w = w' ∧ k ≤ (pack s).length ∧ ∀ i, 64 * k ≤ i → s.getD i false = false) ?_ ?_
  · refine c_block ?_
    refine c_loop (fun k : Nat => [(0, vP p), (3, vI ((k : Int) - 1))]) (fun k w' => w = w' ∧ k ≤ (pack s).length ∧ ∀ i, 64 * k ≤ i → s.getD i false = false) (fun k => k) (pack s).length ?_ ?_ ?_
    · exact ⟨rfl, rfl, trivial⟩
    · exact ⟨rfl, Nat.le_refl _, fun i hi => getD_ge s false (by unfold nW at hlen; omega)⟩
    · rintro k w1 ⟨rfl, hk, hz⟩
      refine c_seq ?_
      refine c_seq ?_
      refine c_region ?_
      refine st (y_move rfl) rfl ?_
      refine st_if (y_ge_i (b := 0) rfl rfl) rfl (fun h0 => ?_) (fun h0 => ?_)
      · have hk0 : 0 < k := by omega
        have hj : k - 1 < (pack s).length := by omega
        have hg := getD_app (tl := tl) hj
        have hw64 := pack_getD_lt s (k - 1)
        rw [show ((k : Int) - 1) = ((k - 1 : Nat) : Int) by omega]
        refine st (y_move rfl) rfl ?_
        refine stg rfl rfl (y_move rfl) rfl ?_
        refine stg rfl rfl (y_nil rfl) rfl ?_
        refine stg rfl rfl (fa53_1 rfl) rfl ?_
        refine stg rfl rfl (y_loadb rfl one51 (by assumption) (by rfl)) rfl ?_
        refine stg rfl rfl (y_move rfl) rfl ?_
        first | refine stg rfl rfl (y_index0 rfl rfl Tryd.underlying51 sz55 (by omega)) rfl ?_ | refine stg rfl rfl (y_index rfl rfl Tryd.underlying51 sz55 (by omega)) rfl ?_ | refine stg rfl rfl (y_indexA rfl rfl Tryd.underlying51 sz55 (by omega)) rfl ?_
        first | refine stg rfl rfl (y_loadM (0) rfl one55 (by assumption) (by first | omega | (simp only [List.length_append, List.length_map, List.length_replicate, List.length_set, List.length_take, List.length_drop]; omega) | (simp; done))) rfl ?_ | refine stg rfl rfl (y_load rfl one55 (by assumption)) rfl ?_
        rw [hg]
        refine stg_if rfl rfl (y_eq_u (b := 0) rfl rfl) rfl (fun hw => ?_) (fun hw => ?_)
        · rw [pack_getD] at hw
          refine st (y_pickT rfl rfl) rfl ?_
          refine l_nil ?_
          refine q_then ?_
          refine c_true rfl rfl ?_
          refine c_skip ?_
          refine q_then ?_
          refine c_seq ?_
          refine c_block ?_
          refine c_skip ?_
          refine q_block ?_
          refine q_then ?_
          refine c_region ?_
          refine st (y_move rfl) rfl ?_
          refine st (y_sub_i (b := 1) rfl rfl (by omega) (by omega)) rfl ?_
          refine st (y_assign rfl) rfl ?_
          refine l_nil ?_
          refine q_round (k - 1) ⟨rfl, rfl, trivial⟩ ⟨rfl, by omega, fun i hi => ?_⟩ (by omega)
          rcases Nat.lt_or_ge i (64 * k) with h | h
          · exact non_word (s := s) (i := 64 * (k - 1)) (k := k - 1) (fun j h1 h2 => absurd h1 (by omega)) hw i hi (by omega)
          · exact hz i h
        ·
          refine st (y_pickT rfl rfl) rfl ?_
          refine l_nil ?_
          refine q_then ?_
          refine c_false rfl rfl ?_
          refine c_exit ?_
          refine q_then_exit ?_
          refine q_then_exit ?_
          refine q_block_hit ?_
          refine q_meet k ⟨rfl, ?_, trivial⟩ ⟨rfl, hk, hz⟩
          rw [show ((k - 1 : Nat) : Int) = (k : Int) - 1 by omega]; rfl
      ·
        refine st (y_move rfl) rfl ?_
        refine sno rfl rfl rfl rfl ?_
        refine sno rfl rfl rfl rfl ?_
        refine sno rfl rfl rfl rfl ?_
        refine sno rfl rfl rfl rfl ?_
        refine sno rfl rfl rfl rfl ?_
        refine sno rfl rfl rfl rfl ?_
        refine sno rfl rfl rfl rfl ?_
        refine sno rfl rfl rfl rfl ?_
        refine st (y_pickF rfl rfl) rfl ?_
        refine l_nil ?_
        refine q_then ?_
        refine c_false rfl rfl ?_
        refine c_exit ?_
        refine q_then_exit ?_
        refine q_then_exit ?_
        refine q_block_hit ?_
        exact q_meet k ⟨rfl, rfl, trivial⟩ ⟨rfl, hk, hz⟩
  ·
    rintro k w1 ⟨rfl, hk, hz⟩
    have hnum : nums (s.take (64 * k)) = nums s := by
      rcases Nat.lt_or_ge (64 * k) s.length with h | h
      · have := nums_gap (s := s) (a := 64 * k) (b := s.length) (by omega) (Nat.le_refl _) (fun j h1 _ => hz j h1)
        rw [List.take_length] at this; exact this.symm
      · rw [List.take_of_length_le h]
    refine c_seq ?_
    refine c_region ?_
    refine st (y_move rfl) rfl ?_
    refine st (y_add_i (b := 1) rfl rfl (by omega) (by omega)) rfl ?_
    rw [show ((k : Int) - 1 + 1) = (k : Int) by omega]
    refine st (y_shl_i (k := 6) rfl rfl (by omega) (by omega) (by omega)) rfl ?_
    rw [show ((k : Int) * 2 ^ 6) = ((64 * k : Nat) : Int) by omega]
    refine st (y_conv_iu rfl us3 Tryd.underlying22 rfl (by omega)) rfl ?_
    refine st (y_assign rfl) rfl ?_
    refine l_nil ?_
    refine q_then ?_
    refine c_seq ?_
    refine c_seq ?_
    refine c_region ?_
    refine st (y_move rfl) rfl ?_
    refine st (y_move rfl) rfl ?_
    refine st (y_nil rfl) rfl ?_
    refine st (fa53_0 rfl) rfl ?_
    refine st (y_loadb rfl one22 (by assumption) (by rfl)) rfl ?_
    refine st_if (y_ge_u rfl rfl) rfl (fun hge => ?_) (fun hge => ?_)
    · refine l_nil ?_
      refine q_then ?_
      refine c_true rfl rfl ?_
      refine c_seq ?_
      refine c_region ?_
      refine st (y_move rfl) rfl ?_
      refine st (y_assign rfl) rfl ?_
      refine l_nil ?_
      refine q_then ?_
      refine c_ret ?_
      refine q_then_ret ?_
      refine q_end1 (.inl rfl) rfl rfl ?_
      exact ⟨_, rfl, rfl, q, s, rfl, Nat.le_refl _, hB, .inl rfl, Keep.refl _ _⟩
    ·
      refine l_nil ?_
      refine q_then ?_
      refine c_false rfl rfl ?_
      refine c_skip ?_
      refine q_then ?_
      refine c_seq ?_
      refine c_seq ?_
      refine c_region ?_
      refine st (y_move rfl) rfl ?_
      refine st_if (y_gt_u (b := 0) rfl rfl) rfl (fun h1 => ?_) (fun h1 => ?_)
      · refine l_nil ?_
        refine q_then ?_
        refine c_true rfl rfl ?_
        refine c_seq ?_
        refine c_region ?_
        refine st (y_move rfl) rfl ?_
        refine st (y_move rfl) rfl ?_
        refine st (y_sub_u (b := 1) rfl rfl (by omega) (by omega)) rfl ?_
        refine sc rfl rfl isfn26 (c_Shrink p q s (64 * k - 1) _ hB (by omega) hs) rfl ?_
        rintro _ w2 ⟨rfl, q2, hB2, hq2, hK2⟩
        rw [show 64 * k - 1 + 1 = 64 * k by omega] at hB2
        refine st (y_assign rfl) rfl ?_
        refine l_nil ?_
        refine q_then ?_
        refine c_ret ?_
        refine q_then_ret ?_
        refine q_end1 (.inl rfl) rfl rfl ?_
        exact ⟨_, rfl, rfl, q2, _, hnum, by simp; omega, hB2, hq2, hK2⟩
      ·
        have hk0 : k = 0 := by omega
        subst hk0
        refine l_nil ?_
        refine q_then ?_
        refine c_false rfl rfl ?_
        refine c_skip ?_
        refine q_then ?_
        refine c_seq ?_
        refine c_region ?_
        refine st (y_move rfl) rfl ?_
        refine sc rfl rfl isfn26 (c_Shrink p q s 63 _ hB (by omega) hs) rfl ?_
        rintro _ w2 ⟨rfl, q2, hB2, hq2, hK2⟩
        refine st (y_assign rfl) rfl ?_
        refine l_nil ?_
        refine q_then ?_
        refine c_ret ?_
        refine q_end1 (.inl rfl) rfl rfl ?_
        refine ⟨_, rfl, rfl, q2, _, nums_congr fun i => ?_, by simp; omega, hB2, hq2, hK2⟩
        rw [take_getD, hz i (by omega), Bool.and_false]

theorem c_change8 (L : Nat) (A : Option Addr) (n c : Nat) (xs : List Nat) (i : Nat) (w : World) (hT : Tb w) (hR : Rd w A n xs) (hL : L ≤ 6000) (hx : ∀ x ∈ xs, x ≤ 6000) (hi : i ≤ 6000) :
    Cal Tryd.prog 14 [vI ((8 : Nat) : Int), aB L A n c, vU i] w fun v w' => ∃ t A' c', v = aB t.length A' (nums t).length c' ∧ (nums t = nums (mkS L xs)) ∧ t.length ≤ 6002 ∧ Ow w' w.heap.size 22 (.slice A' (nums t).length c') ((nums t).map vU) ∧ Keep w w' [] := by
  have hlen : (mkS L xs).length ≤ 6001 := mkS_length_le L 6001 xs (by omega) fun x h => by have := hx x h; omega
  have hT0 := hT.1
  refine go_in' Tryd.func14 rfl Tryd.ntmps14 (Nat.le_of_ble_eq_true rfl) ?_
  refine c_seq ?_
  refine c_region ?_
  refine st_box _ rfl rfl rfl ?_
  intro b1 w1 hb1 hB1 hK1 hS1
  refine st_alloc [.int .u64 0, .slice none 0 0] zv25 rfl rfl ?_
  intro b2 w2 hb2 hB2 hK2 hS2
  have hB1 := hB1.keep hK2 (by simp only [List.mem_cons, List.not_mem_nil, or_false, not_or, not_false_eq_true] <;> omega)
  have hK12 := hK1.trans hK2 (by simp)
  refine l_nil ?_
  refine q_then ?_
  refine c_seq ?_
  refine c_region ?_
  refine st (y_loadagg rfl agg25 us25 sz25 (by assumption) (by simp) (by rfl)) rfl ?_
  refine sc rfl rfl isfn19 (c_made L A n c xs _ (hR.keep hK12 (by simp)) hL hx) rfl ?_
  rintro _ w3 ⟨p, q, rfl, hp, hq, hS, hK3⟩
  have hB2 := hB2.keep hK3 (by simp only [List.mem_cons, List.not_mem_nil, or_false, not_or, not_false_eq_true] <;> omega)
  have hK13 := hK12.trans hK3 (by simp)
  have hlt3 := hS.lts
  refine st (y_move rfl) rfl ?_
  refine st (y_extract rfl rfl) rfl ?_
  refine st (y_extract rfl rfl) rfl ?_
  refine st (y_assign rfl) rfl ?_
  refine st (y_assign rfl) rfl ?_
  refine l_nil ?_
  refine q_then ?_
  refine c_seq ?_
  refine c_seq ?_
  refine c_region ?_
  refine st (y_move rfl) rfl ?_
  refine st (y_not rfl) rfl ?_
  refine st (y_move rfl) rfl ?_
  refine stg rfl rfl (y_move rfl) rfl ?_
  refine stg_f rfl rfl (y_gt_u (b := 6000) rfl rfl) (by omega) rfl ?_
  refine st (y_pickF rfl rfl) rfl ?_
  refine l_nil ?_
  refine q_then ?_
  refine c_false rfl rfl ?_
  refine c_skip ?_
  refine q_then ?_
  refine c_cut (fun _ : List Bool => [(6, vP b2), (7, vP p)]) (fun t w4 => ∃ q4, (nums t = nums (mkS L xs)) ∧ t.length ≤ 6002 ∧ BSet w4 p q4 t ∧ (q4 = q ∨ w3.heap.size ≤ q4) ∧ Keep w3 w4 [p, q]) ?_ ?_
  · refine c_seq ?_
    refine c_region ?_
    refine st (y_move rfl) rfl ?_
    refine l_nil ?_
    refine q_then ?_
    refine c_block ?_
    refine c_seq ?_
    refine c_region ?_
    refine st_f (y_eq_i (b := 0) rfl rfl) (by omega) rfl ?_
    refine st (y_assign rfl) rfl ?_
    refine l_nil ?_
    refine q_then ?_
    refine c_false rfl rfl ?_
    refine c_seq ?_
    refine c_region ?_
    refine st_f (y_eq_i (b := 1) rfl rfl) (by omega) rfl ?_
    refine st (y_assign rfl) rfl ?_
    refine l_nil ?_
    refine q_then ?_
    refine c_false rfl rfl ?_
    refine c_seq ?_
    refine c_region ?_
    refine st_f (y_eq_i (b := 2) rfl rfl) (by omega) rfl ?_
    refine st (y_assign rfl) rfl ?_
    refine l_nil ?_
    refine q_then ?_
    refine c_false rfl rfl ?_
    refine c_seq ?_
    refine c_region ?_
    refine st_f (y_eq_i (b := 3) rfl rfl) (by omega) rfl ?_
    refine st (y_assign rfl) rfl ?_
    refine l_nil ?_
    refine q_then ?_
    refine c_false rfl rfl ?_
    refine c_seq ?_
    refine c_region ?_
    refine st_f (y_eq_i (b := 4) rfl rfl) (by omega) rfl ?_
    refine st (y_assign rfl) rfl ?_
    refine l_nil ?_
    refine q_then ?_
    refine c_false rfl rfl ?_
    refine c_seq ?_
    refine c_region ?_
    refine st_f (y_eq_i (b := 5) rfl rfl) (by omega) rfl ?_
    refine st (y_assign rfl) rfl ?_
    refine l_nil ?_
    refine q_then ?_
    refine c_false rfl rfl ?_
    refine c_seq ?_
    refine c_region ?_
    refine st_f (y_eq_i (b := 6) rfl rfl) (by omega) rfl ?_
    refine st (y_assign rfl) rfl ?_
    refine l_nil ?_
    refine q_then ?_
    refine c_false rfl rfl ?_
    refine c_seq ?_
    refine c_region ?_
    refine st_f (y_eq_i (b := 7) rfl rfl) (by omega) rfl ?_
    refine st (y_assign rfl) rfl ?_
    refine l_nil ?_
    refine q_then ?_
    refine c_false rfl rfl ?_
    refine c_seq ?_
    refine c_region ?_
    refine st_t (y_eq_i (b := 8) rfl rfl) (by omega) rfl ?_
    refine st (y_assign rfl) rfl ?_
    refine l_nil ?_
    refine q_then ?_
    refine c_true rfl rfl ?_
    refine c_region ?_
    refine st (y_move rfl) rfl ?_
    refine sc rfl rfl isfn27 (c_Compact p q _ _ hS (by omega)) rfl ?_
    rintro _ w4 ⟨rfl, q4, t, hnt, htl, hS4, hq4, hK4⟩
    refine l_nil ?_
    refine q_block ?_
    exact q_meet t ⟨rfl, rfl, trivial⟩ ⟨q4, hnt, by omega, hS4, hq4, hK4⟩
  ·
    rintro t w4 ⟨q4, hres, htl, hS4, hq4, hK4⟩
    have hsz3 := hK3.size
    have hB24 := hB2.keep hK4 (by simp only [List.mem_cons, List.not_mem_nil, or_false]; omega)
    have hK14 := hK13.trans hK4 (fun i hi => by simp only [List.mem_cons, List.not_mem_nil, or_false] at hi; exact .inr (by have := hK12.size; omega))
    refine c_seq ?_
    refine c_region ?_
    refine st (y_move rfl) rfl ?_
    refine sc rfl rfl isfn30 (c_told p q4 _ _ (hT.keep hK14 (by simp)) hS4 (by omega)) rfl ?_
    rintro _ w5 ⟨A5, c5, rfl, hO5, hK5⟩
    have hB24 := hB24.keep hK5 (by simp only [List.mem_cons, List.not_mem_nil, or_false, not_or, not_false_eq_true] <;> omega)
    have hK15 := hK14.trans hK5 (by simp)
    refine st_storeagg rfl rfl (by simp [Value.oneCell']) sz25 rfl (by assumption) (by simp) rfl ?_
    intro w6 hB6 hK6 hS6
    refine l_nil ?_
    refine q_then ?_
    refine c_ret ?_
    refine q_endc (.inl rfl) rfl rfl agg25 us25 sz25 (by assumption) (by rfl) ?_
    have hsz4 := hK4.size
    exact ⟨_, rfl, t, A5, c5, rfl, hres, htl, (hO5.keep hK6 (fun i hi => by simp only [List.mem_singleton] at hi; left; omega)).base (by omega), hK15.trans hK6 (fun i hi => by simp only [List.mem_singleton] at hi; exact .inr (by omega))⟩

theorem c_change9 (L : Nat) (A : Option Addr) (n c : Nat) (xs : List Nat) (i : Nat) (w : World) (hT : Tb w) (hR : Rd w A n xs) (hL : L ≤ 6000) (hx : ∀ x ∈ xs, x ≤ 6000) (hi : i ≤ 6000) :
    Cal Tryd.prog 14 [vI ((9 : Nat) : Int), aB L A n c, vU i] w fun v w' => ∃ t A' c', v = aB t.length A' (nums t).length c' ∧ (t = List.replicate (mkS L xs).length false) ∧ t.length ≤ 6002 ∧ Ow w' w.heap.size 22 (.slice A' (nums t).length c') ((nums t).map vU) ∧ Keep w w' [] := by
  have hlen : (mkS L xs).length ≤ 6001 := mkS_length_le L 6001 xs (by omega) fun x h => by have := hx x h; omega
  have hT0 := hT.1
  refine go_in' Tryd.func14 rfl Tryd.ntmps14 (Nat.le_of_ble_eq_true rfl) ?_
  refine c_seq ?_
  refine c_region ?_
  refine st_box _ rfl rfl rfl ?_
  intro b1 w1 hb1 hB1 hK1 hS1
  refine st_alloc [.int .u64 0, .slice none 0 0] zv25 rfl rfl ?_
  intro b2 w2 hb2 hB2 hK2 hS2
  have hB1 := hB1.keep hK2 (by simp only [List.mem_cons, List.not_mem_nil, or_false, not_or, not_false_eq_true] <;> omega)
  have hK12 := hK1.trans hK2 (by simp)
  refine l_nil ?_
  refine q_then ?_
  refine c_seq ?_
  refine c_region ?_
  refine st (y_loadagg rfl agg25 us25 sz25 (by assumption) (by simp) (by rfl)) rfl ?_
  refine sc rfl rfl isfn19 (c_made L A n c xs _ (hR.keep hK12 (by simp)) hL hx) rfl ?_
  rintro _ w3 ⟨p, q, rfl, hp, hq, hS, hK3⟩
  have hB2 := hB2.keep hK3 (by simp only [List.mem_cons, List.not_mem_nil, or_false, not_or, not_false_eq_true] <;> omega)
  have hK13 := hK12.trans hK3 (by simp)
  have hlt3 := hS.lts
  refine st (y_move rfl) rfl ?_
  refine st (y_extract rfl rfl) rfl ?_
  refine st (y_extract rfl rfl) rfl ?_
  refine st (y_assign rfl) rfl ?_
  refine st (y_assign rfl) rfl ?_
  refine l_nil ?_
  refine q_then ?_
  refine c_seq ?_
  refine c_seq ?_
  refine c_region ?_
  refine st (y_move rfl) rfl ?_
  refine st (y_not rfl) rfl ?_
  refine st (y_move rfl) rfl ?_
  refine stg rfl rfl (y_move rfl) rfl ?_
  refine stg_f rfl rfl (y_gt_u (b := 6000) rfl rfl) (by omega) rfl ?_
  refine st (y_pickF rfl rfl) rfl ?_
  refine l_nil ?_
  refine q_then ?_
  refine c_false rfl rfl ?_
  refine c_skip ?_
  refine q_then ?_
  refine c_cut (fun _ : List Bool => [(6, vP b2), (7, vP p)]) (fun t w4 => ∃ q4, (t = List.replicate (mkS L xs).length false) ∧ t.length ≤ 6002 ∧ BSet w4 p q4 t ∧ (q4 = q ∨ w3.heap.size ≤ q4) ∧ Keep w3 w4 [p, q]) ?_ ?_
  · refine c_seq ?_
    refine c_region ?_
    refine st (y_move rfl) rfl ?_
    refine l_nil ?_
    refine q_then ?_
    refine c_block ?_
    refine c_seq ?_
    refine c_region ?_
    refine st_f (y_eq_i (b := 0) rfl rfl) (by omega) rfl ?_
    refine st (y_assign rfl) rfl ?_
    refine l_nil ?_
    refine q_then ?_
    refine c_false rfl rfl ?_
    refine c_seq ?_
    refine c_region ?_
    refine st_f (y_eq_i (b := 1) rfl rfl) (by omega) rfl ?_
    refine st (y_assign rfl) rfl ?_
    refine l_nil ?_
    refine q_then ?_
    refine c_false rfl rfl ?_
    refine c_seq ?_
    refine c_region ?_
    refine st_f (y_eq_i (b := 2) rfl rfl) (by omega) rfl ?_
    refine st (y_assign rfl) rfl ?_
    refine l_nil ?_
    refine q_then ?_
    refine c_false rfl rfl ?_
    refine c_seq ?_
    refine c_region ?_
    refine st_f (y_eq_i (b := 3) rfl rfl) (by omega) rfl ?_
    refine st (y_assign rfl) rfl ?_
    refine l_nil ?_
    refine q_then ?_
    refine c_false rfl rfl ?_
    refine c_seq ?_
    refine c_region ?_
    refine st_f (y_eq_i (b := 4) rfl rfl) (by omega) rfl ?_
    refine st (y_assign rfl) rfl ?_
    refine l_nil ?_
    refine q_then ?_
    refine c_false rfl rfl ?_
    refine c_seq ?_
    refine c_region ?_
    refine st_f (y_eq_i (b := 5) rfl rfl) (by omega) rfl ?_
    refine st (y_assign rfl) rfl ?_
    refine l_nil ?_
    refine q_then ?_
    refine c_false rfl rfl ?_
    refine c_seq ?_
    refine c_region ?_
    refine st_f (y_eq_i (b := 6) rfl rfl) (by omega) rfl ?_
    refine st (y_assign rfl) rfl ?_
    refine l_nil ?_
    refine q_then ?_
    refine c_false rfl rfl ?_
    refine c_seq ?_
    refine c_region ?_
    refine st_f (y_eq_i (b := 7) rfl rfl) (by omega) rfl ?_
    refine st (y_assign rfl) rfl ?_
    refine l_nil ?_
    refine q_then ?_
    refine c_false rfl rfl ?_
    refine c_seq ?_
    refine c_region ?_
    refine st_f (y_eq_i (b := 8) rfl rfl) (by omega) rfl ?_
    refine st (y_assign rfl) rfl ?_
    refine l_nil ?_
    refine q_then ?_
    refine c_false rfl rfl ?_
    refine c_seq ?_
    refine c_region ?_
    refine st_t (y_eq_i (b := 9) rfl rfl) (by omega) rfl ?_
    refine st (y_assign rfl) rfl ?_
    refine l_nil ?_
    refine q_then ?_
    refine c_true rfl rfl ?_
    refine c_region ?_
    refine st (y_move rfl) rfl ?_
    refine sc rfl rfl isfn28 (c_ClearAll p q _ _ hS (by omega)) rfl ?_
    rintro _ w4 ⟨rfl, hS4, hK4⟩
    refine l_nil ?_
    refine q_block ?_
    exact q_meet _ ⟨rfl, rfl, trivial⟩ ⟨q, rfl, by simp; omega, hS4, .inl rfl, hK4⟩
  ·
    rintro t w4 ⟨q4, hres, htl, hS4, hq4, hK4⟩
    have hsz3 := hK3.size
    have hB24 := hB2.keep hK4 (by simp only [List.mem_cons, List.not_mem_nil, or_false]; omega)
    have hK14 := hK13.trans hK4 (fun i hi => by simp only [List.mem_cons, List.not_mem_nil, or_false] at hi; exact .inr (by have := hK12.size; omega))
    refine c_seq ?_
    refine c_region ?_
    refine st (y_move rfl) rfl ?_
    refine sc rfl rfl isfn30 (c_told p q4 _ _ (hT.keep hK14 (by simp)) hS4 (by omega)) rfl ?_
    rintro _ w5 ⟨A5, c5, rfl, hO5, hK5⟩
    have hB24 := hB24.keep hK5 (by simp only [List.mem_cons, List.not_mem_nil, or_false, not_or, not_false_eq_true] <;> omega)
    have hK15 := hK14.trans hK5 (by simp)
    refine st_storeagg rfl rfl (by simp [Value.oneCell']) sz25 rfl (by assumption) (by simp) rfl ?_
    intro w6 hB6 hK6 hS6
    refine l_nil ?_
    refine q_then ?_
    refine c_ret ?_
    refine q_endc (.inl rfl) rfl rfl agg25 us25 sz25 (by assumption) (by rfl) ?_
    have hsz4 := hK4.size
    exact ⟨_, rfl, t, A5, c5, rfl, hres, htl, (hO5.keep hK6 (fun i hi => by simp only [List.mem_singleton] at hi; left; omega)).base (by omega), hK15.trans hK6 (fun i hi => by simp only [List.mem_singleton] at hi; exact .inr (by omega))⟩

theorem c_change10 (L : Nat) (A : Option Addr) (n c : Nat) (xs : List Nat) (i : Nat) (w : World) (hT : Tb w) (hR : Rd w A n xs) (hL : L ≤ 6000) (hx : ∀ x ∈ xs, x ≤ 6000) (hi : i ≤ 6000) :
    Cal Tryd.prog 14 [vI ((10 : Nat) : Int), aB L A n c, vU i] w fun v w' => ∃ t A' c', v = aB t.length A' (nums t).length c' ∧ (t = List.replicate (mkS L xs).length true) ∧ t.length ≤ 6002 ∧ Ow w' w.heap.size 22 (.slice A' (nums t).length c') ((nums t).map vU) ∧ Keep w w' [] := by
  have hlen : (mkS L xs).length ≤ 6001 := mkS_length_le L 6001 xs (by omega) fun x h => by have := hx x h; omega
  have hT0 := hT.1
  refine go_in' Tryd.func14 rfl Tryd.ntmps14 (Nat.le_of_ble_eq_true rfl) ?_
  refine c_seq ?_
  refine c_region ?_
  refine st_box _ rfl rfl rfl ?_
  intro b1 w1 hb1 hB1 hK1 hS1
  refine st_alloc [.int .u64 0, .slice none 0 0] zv25 rfl rfl ?_
  intro b2 w2 hb2 hB2 hK2 hS2
  have hB1 := hB1.keep hK2 (by simp only [List.mem_cons, List.not_mem_nil, or_false, not_or, not_false_eq_true] <;> omega)
  have hK12 := hK1.trans hK2 (by simp)
  refine l_nil ?_
  refine q_then ?_
  refine c_seq ?_
  refine c_region ?_
  refine st (y_loadagg rfl agg25 us25 sz25 (by assumption) (by simp) (by rfl)) rfl ?_
  refine sc rfl rfl isfn19 (c_made L A n c xs _ (hR.keep hK12 (by simp)) hL hx) rfl ?_
  rintro _ w3 ⟨p, q, rfl, hp, hq, hS, hK3⟩
  have hB2 := hB2.keep hK3 (by simp only [List.mem_cons, List.not_mem_nil, or_false, not_or, not_false_eq_true] <;> omega)
  have hK13 := hK12.trans hK3 (by simp)
  have hlt3 := hS.lts
  refine st (y_move rfl) rfl ?_
  refine st (y_extract rfl rfl) rfl ?_
  refine st (y_extract rfl rfl) rfl ?_
  refine st (y_assign rfl) rfl ?_
  refine st (y_assign rfl) rfl ?_
  refine l_nil ?_
  refine q_then ?_
  refine c_seq ?_
  refine c_seq ?_
  refine c_region ?_
  refine st (y_move rfl) rfl ?_
  refine st (y_not rfl) rfl ?_
  refine st (y_move rfl) rfl ?_
  refine stg rfl rfl (y_move rfl) rfl ?_
  refine stg_f rfl rfl (y_gt_u (b := 6000) rfl rfl) (by omega) rfl ?_
  refine st (y_pickF rfl rfl) rfl ?_
  refine l_nil ?_
  refine q_then ?_
  refine c_false rfl rfl ?_
  refine c_skip ?_
  refine q_then ?_
  refine c_cut (fun _ : List Bool => [(6, vP b2), (7, vP p)]) (fun t w4 => ∃ q4, (t = List.replicate (mkS L xs).length true) ∧ t.length ≤ 6002 ∧ BSet w4 p q4 t ∧ (q4 = q ∨ w3.heap.size ≤ q4) ∧ Keep w3 w4 [p, q]) ?_ ?_
  · refine c_seq ?_
    refine c_region ?_
    refine st (y_move rfl) rfl ?_
    refine l_nil ?_
    refine q_then ?_
    refine c_block ?_
    refine c_seq ?_
    refine c_region ?_
    refine st_f (y_eq_i (b := 0) rfl rfl) (by omega) rfl ?_
    refine st (y_assign rfl) rfl ?_
    refine l_nil ?_
    refine q_then ?_
    refine c_false rfl rfl ?_
    refine c_seq ?_
    refine c_region ?_
    refine st_f (y_eq_i (b := 1) rfl rfl) (by omega) rfl ?_
    refine st (y_assign rfl) rfl ?_
    refine l_nil ?_
    refine q_then ?_
    refine c_false rfl rfl ?_
    refine c_seq ?_
    refine c_region ?_
    refine st_f (y_eq_i (b := 2) rfl rfl) (by omega) rfl ?_
    refine st (y_assign rfl) rfl ?_
    refine l_nil ?_
    refine q_then ?_
    refine c_false rfl rfl ?_
    refine c_seq ?_
    refine c_region ?_
    refine st_f (y_eq_i (b := 3) rfl rfl) (by omega) rfl ?_
    refine st (y_assign rfl) rfl ?_
    refine l_nil ?_
    refine q_then ?_
    refine c_false rfl rfl ?_
    refine c_seq ?_
    refine c_region ?_
    refine st_f (y_eq_i (b := 4) rfl rfl) (by omega) rfl ?_
    refine st (y_assign rfl) rfl ?_
    refine l_nil ?_
    refine q_then ?_
    refine c_false rfl rfl ?_
    refine c_seq ?_
    refine c_region ?_
    refine st_f (y_eq_i (b := 5) rfl rfl) (by omega) rfl ?_
    refine st (y_assign rfl) rfl ?_
    refine l_nil ?_
    refine q_then ?_
    refine c_false rfl rfl ?_
    refine c_seq ?_
    refine c_region ?_
    refine st_f (y_eq_i (b := 6) rfl rfl) (by omega) rfl ?_
    refine st (y_assign rfl) rfl ?_
    refine l_nil ?_
    refine q_then ?_
    refine c_false rfl rfl ?_
    refine c_seq ?_
    refine c_region ?_
    refine st_f (y_eq_i (b := 7) rfl rfl) (by omega) rfl ?_
    refine st (y_assign rfl) rfl ?_
    refine l_nil ?_
    refine q_then ?_
    refine c_false rfl rfl ?_
    refine c_seq ?_
    refine c_region ?_
    refine st_f (y_eq_i (b := 8) rfl rfl) (by omega) rfl ?_
    refine st (y_assign rfl) rfl ?_
    refine l_nil ?_
    refine q_then ?_
    refine c_false rfl rfl ?_
    refine c_seq ?_
    refine c_region ?_
    refine st_f (y_eq_i (b := 9) rfl rfl) (by omega) rfl ?_
    refine st (y_assign rfl) rfl ?_
    refine l_nil ?_
    refine q_then ?_
    refine c_false rfl rfl ?_
    refine c_seq ?_
    refine c_region ?_
    refine st_t (y_eq_i (b := 10) rfl rfl) (by omega) rfl ?_
    refine st (y_assign rfl) rfl ?_
    refine l_nil ?_
    refine q_then ?_
    refine c_true rfl rfl ?_
    refine c_region ?_
    refine st (y_move rfl) rfl ?_
    refine sc rfl rfl isfn29 (c_SetAll p q _ _ hS (by omega)) rfl ?_
    rintro _ w4 ⟨rfl, hS4, hK4⟩
    refine l_nil ?_
    refine q_block ?_
    exact q_meet _ ⟨rfl, rfl, trivial⟩ ⟨q, rfl, by simp; omega, hS4, .inl rfl, hK4⟩
  ·
    rintro t w4 ⟨q4, hres, htl, hS4, hq4, hK4⟩
    have hsz3 := hK3.size
    have hB24 := hB2.keep hK4 (by simp only [List.mem_cons, List.not_mem_nil, or_false]; omega)
    have hK14 := hK13.trans hK4 (fun i hi => by simp only [List.mem_cons, List.not_mem_nil, or_false] at hi; exact .inr (by have := hK12.size; omega))
    refine c_seq ?_
    refine c_region ?_
    refine st (y_move rfl) rfl ?_
    refine sc rfl rfl isfn30 (c_told p q4 _ _ (hT.keep hK14 (by simp)) hS4 (by omega)) rfl ?_
    rintro _ w5 ⟨A5, c5, rfl, hO5, hK5⟩
    have hB24 := hB24.keep hK5 (by simp only [List.mem_cons, List.not_mem_nil, or_false, not_or, not_false_eq_true] <;> omega)
    have hK15 := hK14.trans hK5 (by simp)
    refine st_storeagg rfl rfl (by simp [Value.oneCell']) sz25 rfl (by assumption) (by simp) rfl ?_
    intro w6 hB6 hK6 hS6
    refine l_nil ?_
    refine q_then ?_
    refine c_ret ?_
    refine q_endc (.inl rfl) rfl rfl agg25 us25 sz25 (by assumption) (by rfl) ?_
    have hsz4 := hK4.size
    exact ⟨_, rfl, t, A5, c5, rfl, hres, htl, (hO5.keep hK6 (fun i hi => by simp only [List.mem_singleton] at hi; left; omega)).base (by omega), hK15.trans hK6 (fun i hi => by simp only [List.mem_singleton] at hi; exact .inr (by omega))⟩

theorem c_FnWhole (L : Nat) (A : Option Addr) (n c : Nat) (xs : List Nat) (w : World) (hT : Tb w) (hR : Rd w A n xs) :
    Cal Tryd.prog 8 [aB L A n c] w fun v w' => v = vB true ∧ Keep w w' [] := by
  have hT0 := hT.1
  refine go_in' Tryd.func8 rfl Tryd.ntmps8 (Nat.le_of_ble_eq_true rfl) ?_
  refine c_seq ?_
  refine c_region ?_
  refine st_box _ rfl rfl rfl ?_
  intro b1 w1 hb1 hB1 hK1 hS1
  refine st (y_assign rfl) rfl ?_
  refine l_nil ?_
  refine q_then ?_
  refine c_seq ?_
  refine c_seq ?_
  refine c_region ?_
  refine st (y_loadagg rfl agg25 us25 sz25 (by assumption) (by simp) (by rfl)) rfl ?_
  refine sc rfl rfl isfn9 (c_zzFits1 L A n c _) rfl ?_
  rintro _ w2 ⟨rfl, hK2⟩
  have hB1 := hB1.keep hK2 (by simp only [List.mem_cons, List.not_mem_nil, or_false, not_or, not_false_eq_true] <;> omega)
  have hK := hK1.trans hK2 (by simp)
  clear hK1 hK2
  refine st (y_not rfl) rfl ?_
  refine l_nil ?_
  refine q_then ?_
  refine c_ifb rfl (fun hz => ?_) (fun hz => ?_)
  · refine c_seq ?_
    refine c_region ?_
    refine st (y_assign rfl) rfl ?_
    refine l_nil ?_
    refine q_then ?_
    refine c_ret ?_
    refine q_then_ret ?_
    refine q_end1 (.inl rfl) rfl rfl ?_
    exact ⟨_, rfl, rfl, hK⟩
  ·
    refine c_skip ?_
    refine q_then ?_
    refine c_seq ?_
    refine c_region ?_
    refine st (y_loadagg rfl agg25 us25 sz25 (by assumption) (by simp) (by rfl)) rfl ?_
    refine sc rfl rfl isfn10 (c_set L A n c xs _ (hR.keep hK (by simp))) rfl ?_
    rintro _ w3 ⟨hK3, ⟨ho, b, rfl, hBl, hb⟩ | rfl⟩
    · have hB1 := hB1.keep hK3 (by simp only [List.mem_cons, List.not_mem_nil, or_false, not_or, not_false_eq_true] <;> omega)
      have hK' := hK.trans hK3 (by simp)
      have hlen := ho.len
      have hL6 : L ≤ 6000 := by have := ho.1; omega
      have hx6 : ∀ x ∈ xs, x ≤ 6000 := fun x h => by have := ho.2.2 x h; omega
      clear hK hK3
      refine st (y_move rfl) rfl ?_
      refine st (y_extract rfl rfl) rfl ?_
      refine st (y_extract rfl rfl) rfl ?_
      refine st (y_assign rfl) rfl ?_
      refine st (y_assign rfl) rfl ?_
      refine l_nil ?_
      refine q_then ?_
      refine c_seq ?_
      refine c_seq ?_
      refine c_region ?_
      refine st (y_move rfl) rfl ?_
      refine st (y_not rfl) rfl ?_
      refine l_nil ?_
      refine q_then ?_
      refine c_false rfl rfl ?_
      refine c_skip ?_
      refine q_then ?_
      refine c_seq ?_
      refine c_region ?_
      refine st (y_loadagg rfl agg25 us25 sz25 (by assumption) (by simp) (by rfl)) rfl ?_
      refine sc rfl rfl isfn14 (c_change8 L A n c xs 0 _ (hT.keep hK' (by simp)) (hR.keep hK' (by simp)) hL6 hx6 (by omega)) rfl ?_
      rintro _ w4 ⟨t, A4, c4, rfl, hnt, htl, hO4, hK4⟩
      have hB1 := hB1.keep hK4 (by simp only [List.mem_cons, List.not_mem_nil, or_false, not_or, not_false_eq_true] <;> omega)
      have hBl := hBl.keep hK4 (by simp only [List.mem_cons, List.not_mem_nil, or_false, not_or, not_false_eq_true] <;> omega)
      have hK5 := hK'.trans hK4 (by simp)
      have hR4 := hO4.rd'
      have hbl4 := Blk.lt hBl
      have hb14 := Blk.lt hB1
      refine st_alloc [.int .u64 0, .slice none 0 0] zv25 rfl rfl ?_
      intro b5 w5 hb5 hB5 hK6 hS5
      have hB1 := hB1.keep hK6 (by simp only [List.mem_cons, List.not_mem_nil, or_false, not_or, not_false_eq_true] <;> omega)
      have hBl := hBl.keep hK6 (by simp only [List.mem_cons, List.not_mem_nil, or_false, not_or, not_false_eq_true] <;> omega)
      refine st_storeagg rfl rfl (by simp [Value.oneCell']) sz25 rfl (by assumption) (by simp) rfl ?_
      intro w6 hB6 hK8 hS6
      replace hB6 : Blk w6 b5 25 [vU t.length, .slice A4 (nums t).length c4] := hB6
      have hB1 := hB1.keep hK8 (by simp only [List.mem_cons, List.not_mem_nil, or_false, not_or, not_false_eq_true] <;> omega)
      have hBl := hBl.keep hK8 (by simp only [List.mem_cons, List.not_mem_nil, or_false, not_or, not_false_eq_true] <;> omega)
      have hK46 : Keep w4 w6 [b5] := (hK6.mono (by simp)).trans hK8 (fun i hi => .inl hi)
      have hR6 := hR4.keep hK46 (by simp; omega)
      have hK9 := hK5.trans hK46 (fun i hi => by simp only [List.mem_singleton] at hi; exact .inr (by have := hK5.size; omega))
      clear hB5 hK6 hK8 hK46 hK5 hK'
      obtain ⟨s, hs⟩ : ∃ s, mkS L xs = s := ⟨_, rfl⟩
      rw [hs] at hlen hBl hnt ⊢
      refine l_nil ?_
      refine q_then ?_
      refine c_seq ?_
      refine c_region ?_
      refine st (y_move rfl) rfl ?_
      refine st (y_len rfl Tryd.underlying28) rfl ?_
      refine mk28 rfl rfl (by omega) (by omega) rfl ?_
      intro b7 w7 hb7 hB7 hK7 hS7
      have hB1 := hB1.keep hK7 (by simp only [List.mem_cons, List.not_mem_nil, or_false, not_or, not_false_eq_true] <;> omega)
      have hBl := hBl.keep hK7 (by simp only [List.mem_cons, List.not_mem_nil, or_false, not_or, not_false_eq_true] <;> omega)
      have hB6 := hB6.keep hK7 (by simp only [List.mem_cons, List.not_mem_nil, or_false, not_or, not_false_eq_true] <;> omega)
      refine st (y_assign rfl) rfl ?_
      refine l_nil ?_
      refine q_then ?_
      refine c_seq ?_
      refine c_region ?_
      refine st (y_move rfl) rfl ?_
      refine st (y_len rfl Tryd.underlying28) rfl ?_
      refine mk28 rfl rfl (by omega) (by omega) rfl ?_
      intro b8 w8 hb8 hB8 hK8 hS8
      have hB1 := hB1.keep hK8 (by simp only [List.mem_cons, List.not_mem_nil, or_false, not_or, not_false_eq_true] <;> omega)
      have hBl := hBl.keep hK8 (by simp only [List.mem_cons, List.not_mem_nil, or_false, not_or, not_false_eq_true] <;> omega)
      have hB6 := hB6.keep hK8 (by simp only [List.mem_cons, List.not_mem_nil, or_false, not_or, not_false_eq_true] <;> omega)
      have hB7 := hB7.keep hK8 (by simp only [List.mem_cons, List.not_mem_nil, or_false, not_or, not_false_eq_true] <;> omega)
      have hK18 := (hK9.trans hK7 (by simp)).trans hK8 (by simp)
      have hR8 := (hR6.keep hK7 (by simp)).keep hK8 (by simp)
      have hlts : b1 < w8.heap.size ∧ b < b7 ∧ b5 < b7 ∧ b7 < b8 ∧ b1 < b7 := by
        have h1 := Blk.lt hB1
        have h2 := hS6
        omega
      refine st (y_assign rfl) rfl ?_
      refine l_nil ?_
      refine q_then ?_
      refine c_seq ?_
      refine c_seq ?_
      refine c_region ?_
      refine st (y_move rfl) rfl ?_
      refine st (y_len rfl Tryd.underlying28) rfl ?_
      refine st (y_move (v := vI ((0 : Nat) : Int)) rfl) rfl ?_
      refine l_nil ?_
      refine q_then ?_
      refine c_block ?_
      refine c_loop (fun k : Nat => [(1, vP b1), (3, vS b s.length s.length), (5, vP b5), (6, vS b7 s.length s.length), (7, vS b8 s.length s.length), (28, vI (s.length : Nat)), (29, vI (k : Nat))]) (fun k w' => k ≤ s.length ∧ Keep w8 w' [b8] ∧ ∃ u : List Bool, u.length = s.length ∧ Blk w' b8 4 (u.map vB) ∧ ∀ j, j < k → u.getD j false = true) (fun k => s.length - k) 0 ?_ ?_ ?_
      · exact ⟨rfl, rfl, rfl, rfl, rfl, rfl, rfl, trivial⟩
      · exact ⟨Nat.zero_le _, Keep.refl _ _, List.replicate s.length false, by simp, hB8, fun j hj => absurd hj (by omega)⟩
      · rintro k w9 ⟨hk, hK10, u, hul, hBu, hu⟩
        refine c_seq ?_
        refine c_region ?_
        refine st_if (y_lt_i rfl rfl) rfl (fun hlt => ?_) (fun hlt => ?_)
        · refine l_nil ?_
          refine q_then ?_
          refine c_seq ?_
          refine c_true rfl rfl ?_
          refine c_skip ?_
          refine q_then ?_
          refine c_seq ?_
          refine c_block ?_
          refine c_seq ?_
          refine c_region ?_
          refine st (y_move rfl) rfl ?_
          refine st (y_assign rfl) rfl ?_
          refine l_nil ?_
          refine q_then ?_
          refine c_region ?_
          refine st (y_move rfl) rfl ?_
          refine st (y_move rfl) rfl ?_
          first | refine st (y_index0 rfl rfl Tryd.underlying28 sz4 (by omega)) rfl ?_ | refine st (y_index rfl rfl Tryd.underlying28 sz4 (by omega)) rfl ?_ | refine st (y_indexA rfl rfl Tryd.underlying28 sz4 (by omega)) rfl ?_
          refine st_storeM vB rfl rfl rfl sz4 (by assumption) (by first | omega | (simp only [List.length_append, List.length_map, List.length_replicate, List.length_set, List.length_take, List.length_drop]; omega)) rfl ?_
          intro w10 hB10 hK11 hS10
          refine l_nil ?_
          refine q_block ?_
          refine q_then ?_
          refine c_region ?_
          first | refine st (y_add_in (b := 1) rfl rfl (by omega)) rfl ?_ | refine st (y_add_i (b := 1) rfl rfl (by omega) (by omega)) rfl ?_
          refine st (y_move rfl) rfl ?_
          refine l_nil ?_
          refine q_round (k + 1) ⟨rfl, rfl, rfl, rfl, rfl, rfl, rfl, trivial⟩ ⟨by omega, hK10.trans hK11 (fun i hi => .inl hi), _, by simpa using hul, hB10, fun j hj => ?_⟩ (by omega)
          rw [set_getD _ _ _ _ (by omega)]
          by_cases e : j = k
          · rw [if_pos e]
          · rw [if_neg e]; exact hu j (by omega)
        ·
          have hke : k = s.length := by omega
          have eu : u = List.replicate s.length true := bool_ext (by simpa using hul) fun j hj => by
            rw [hu j (by omega)]
            have : j < s.length := by omega
            simp [List.getD_eq_getElem?_getD, this]
          rw [eu] at hBu
          have hBl9 : Bl w9 b s := hBl.keep hK10 (by simp; omega)
          have hB19 := hB1.keep hK10 (by simp; omega)
          have hB69 := hB6.keep hK10 (by simp; omega)
          have hB79 : Bl w9 b7 (List.replicate s.length false) := hB7.keep hK10 (by simp; omega)
          have hBu9 : Bl w9 b8 (List.replicate s.length true) := hBu
          have hrb := hBl9.rdB (by omega)
          have hrn := hB79.rdB (by simp; omega)
          have hra := hBu9.rdB (by simp; omega)
          simp only [List.length_replicate] at hrn hra
          have hR9 := (hR6.keep hK7 (by simp)).keep ((hK8.mono (by simp)).trans hK10 (fun i hi => .inl hi)) (by simp; omega)
          have hK19 := hK18.trans hK10 (fun i hi => by simp only [List.mem_singleton] at hi; exact .inr (by have := hK9.size; omega))
          refine l_nil ?_
          refine q_then ?_
          refine c_seq ?_
          refine c_false rfl rfl ?_
          refine c_exit ?_
          refine q_then_exit ?_
          refine q_then_exit ?_
          refine q_block_hit ?_
          refine q_then ?_
          refine c_seq ?_
          refine c_region ?_
          refine st (y_loadagg rfl agg25 us25 sz25 (by assumption) (by simp) (by rfl)) rfl ?_
          refine st (y_move rfl) rfl ?_
          refine sc rfl rfl isfn16 (c_is _ _ _ _ _ _ _ _ _ _ hR9 hrb (by omega) hnt) rfl ?_
          rintro _ w11 ⟨rfl, hK11⟩
          have hB19 := hB19.keep hK11 (by simp only [List.mem_cons, List.not_mem_nil, or_false, not_or, not_false_eq_true] <;> omega)
          have hK20 := hK19.trans hK11 (by simp)
          refine st (y_move rfl) rfl ?_
          refine stg rfl rfl (y_loadagg rfl agg25 us25 sz25 (by assumption) (by simp) (by rfl)) rfl ?_
          refine scg rfl rfl rfl rfl isfn14 (c_change9 L A n c xs 0 _ (hT.keep hK20 (by simp)) (hR.keep hK20 (by simp)) hL6 hx6 (by omega)) rfl ?_
          rintro _ w12 ⟨t2, A12, c12, rfl, ht2, htl2, hO12, hK12⟩
          have hB19 := hB19.keep hK12 (by simp only [List.mem_cons, List.not_mem_nil, or_false, not_or, not_false_eq_true] <;> omega)
          have hK21 := hK20.trans hK12 (by simp)
          refine stg rfl rfl (y_move rfl) rfl ?_
          refine scg rfl rfl rfl rfl isfn13 (c_exactly _ _ _ _ _ _ _ _ _ _ hO12.rd' ((hrn.keep hK11 (by simp)).keep hK12 (by simp)) (by simp; omega) (by rw [ht2, hs]) (by rw [ht2, hs])) rfl ?_
          rintro _ w13 ⟨rfl, hK13⟩
          have hB19 := hB19.keep hK13 (by simp only [List.mem_cons, List.not_mem_nil, or_false, not_or, not_false_eq_true] <;> omega)
          have hK22 := hK21.trans hK13 (by simp)
          refine st (y_pickT rfl rfl) rfl ?_
          refine st (y_move rfl) rfl ?_
          refine stg rfl rfl (y_loadagg rfl agg25 us25 sz25 (by assumption) (by simp) (by rfl)) rfl ?_
          refine scg rfl rfl rfl rfl isfn14 (c_change10 L A n c xs 0 _ (hT.keep hK22 (by simp)) (hR.keep hK22 (by simp)) hL6 hx6 (by omega)) rfl ?_
          rintro _ w14 ⟨t3, A14, c14, rfl, ht3, htl3, hO14, hK14⟩
          have hK23 := hK22.trans hK14 (by simp)
          refine stg rfl rfl (y_move rfl) rfl ?_
          refine scg rfl rfl rfl rfl isfn13 (c_exactly _ _ _ _ _ _ _ _ _ _ hO14.rd' ((((hra.keep hK11 (by simp)).keep hK12 (by simp)).keep hK13 (by simp)).keep hK14 (by simp)) (by simp; omega) (by rw [ht3, hs]) (by rw [ht3, hs])) rfl ?_
          rintro _ w15 ⟨rfl, hK15⟩
          have hK24 := hK23.trans hK15 (by simp)
          refine st (y_pickT rfl rfl) rfl ?_
          refine st (y_move rfl) rfl ?_
          refine scg rfl rfl rfl rfl isfn15 (c_alive _ (hT.keep hK24 (by simp))) rfl ?_
          rintro _ w16 ⟨rfl, hK16⟩
          refine st (y_pickT rfl rfl) rfl ?_
          refine st (y_assign rfl) rfl ?_
          refine l_nil ?_
          refine q_then ?_
          refine c_ret ?_
          refine q_end1 (.inl rfl) rfl rfl ?_
          exact ⟨_, rfl, rfl, hK24.trans hK16 (by simp)⟩
    ·
      refine st (y_move rfl) rfl ?_
      refine st (y_extract rfl rfl) rfl ?_
      refine st (y_extract rfl rfl) rfl ?_
      refine st (y_assign rfl) rfl ?_
      refine st (y_assign rfl) rfl ?_
      refine l_nil ?_
      refine q_then ?_
      refine c_seq ?_
      refine c_seq ?_
      refine c_region ?_
      refine st (y_move rfl) rfl ?_
      refine st (y_not rfl) rfl ?_
      refine l_nil ?_
      refine q_then ?_
      refine c_true rfl rfl ?_
      refine c_seq ?_
      refine c_region ?_
      refine st (y_assign rfl) rfl ?_
      refine l_nil ?_
      refine q_then ?_
      refine c_ret ?_
      refine q_then_ret ?_
      refine q_end1 (.inl rfl) rfl rfl ?_
      exact ⟨_, rfl, rfl, hK.trans hK3 (by simp)⟩

end Go.Proofs.YtmlamceblhhhpaaDoor

/- impl.Change for InsertAt and DeleteAt, each by its contract. -/
import Derived.Test.YtmlamceblhhhpaaDoorT2
import Derived.Test.YtmlamceblhhhpaaDoorG3
import Derived.Test.YtmlamceblhhhpaaDoorG4
set_option linter.unusedVariables false
set_option linter.unusedSimpArgs false
set_option maxRecDepth 100000
namespace Go.Proofs.YtmlamceblhhhpaaDoor
open Go Go.RowKit

theorem c_change5 (L : Nat) (A : Option Addr) (n c : Nat) (xs : List Nat) (i : Nat) (w : World) (hT : Tb w) (hR : Rd w A n xs) (hL : L ≤ 6000) (hx : ∀ x ∈ xs, x ≤ 6000) (hi : i ≤ 6000) (hlt : i < (mkS L xs).length) :
    Cal Tryd.prog 14 [vI ((5 : Nat) : Int), aB L A n c, vU i] w fun v w' => ∃ t A' c', v = aB t.length A' (nums t).length c' ∧ (t = insB (mkS L xs) i) ∧ t.length ≤ 6002 ∧ Ow w' w.heap.size 22 (.slice A' (nums t).length c') ((nums t).map vU) ∧ Keep w w' [] := by
  have hlen : (mkS L xs).length ≤ 6001 := mkS_length_le L 6001 xs (by omega) fun x h => by have := hx x h; omega
  have hT0 := hT.1
  refine go_in' Tryd.func14 rfl Tryd.ntmps14 (Nat.le_of_ble_eq_true rfl) ?_
  refine c_seq ?_
  refine c_region ?_
  refine st_box _ rfl rfl rfl ?_
  intro b1 w1 hb1 hB1 hK1 hS1
  refine st_alloc [.int .u64 0, .slice none 0 0] zv25 rfl rfl ?_
  intro b2 w2 hb2 hB2 hK2 hS2
  have hB1 := hB1.keep hK2 (by simp only [List.mem_cons, List.not_mem_nil, or_false, not_or, not_false_eq_true] <;> omega)
  have hK12 := hK1.trans hK2 (by simp)
  refine l_nil ?_
  refine q_then ?_
  refine c_seq ?_
  refine c_region ?_
  refine st (y_loadagg rfl agg25 us25 sz25 (by assumption) (by simp) (by rfl)) rfl ?_
  refine sc rfl rfl isfn19 (c_made L A n c xs _ (hR.keep hK12 (by simp)) hL hx) rfl ?_
  rintro _ w3 ⟨p, q, rfl, hp, hq, hS, hK3⟩
  have hB2 := hB2.keep hK3 (by simp only [List.mem_cons, List.not_mem_nil, or_false, not_or, not_false_eq_true] <;> omega)
  have hK13 := hK12.trans hK3 (by simp)
  have hlt3 := hS.lts
  refine st (y_move rfl) rfl ?_
  refine st (y_extract rfl rfl) rfl ?_
  refine st (y_extract rfl rfl) rfl ?_
  refine st (y_assign rfl) rfl ?_
  refine st (y_assign rfl) rfl ?_
  refine l_nil ?_
  refine q_then ?_
  refine c_seq ?_
  refine c_seq ?_
  refine c_region ?_
  refine st (y_move rfl) rfl ?_
  refine st (y_not rfl) rfl ?_
  refine st (y_move rfl) rfl ?_
  refine stg rfl rfl (y_move rfl) rfl ?_
  refine stg_f rfl rfl (y_gt_u (b := 6000) rfl rfl) (by omega) rfl ?_
  refine st (y_pickF rfl rfl) rfl ?_
  refine l_nil ?_
  refine q_then ?_
  refine c_false rfl rfl ?_
  refine c_skip ?_
  refine q_then ?_
  refine c_cut (fun _ : List Bool => [(6, vP b2), (7, vP p)]) (fun t w4 => ∃ q4, (t = insB (mkS L xs) i) ∧ t.length ≤ 6002 ∧ BSet w4 p q4 t ∧ (q4 = q ∨ w3.heap.size ≤ q4) ∧ Keep w3 w4 [p, q]) ?_ ?_
  · refine c_seq ?_
    refine c_region ?_
    refine st (y_move rfl) rfl ?_
    refine l_nil ?_
    refine q_then ?_
    refine c_block ?_
    refine c_seq ?_
    refine c_region ?_
    refine st_f (y_eq_i (b := 0) rfl rfl) (by omega) rfl ?_
    refine st (y_assign rfl) rfl ?_
    refine l_nil ?_
    refine q_then ?_
    refine c_false rfl rfl ?_
    refine c_seq ?_
    refine c_region ?_
    refine st_f (y_eq_i (b := 1) rfl rfl) (by omega) rfl ?_
    refine st (y_assign rfl) rfl ?_
    refine l_nil ?_
    refine q_then ?_
    refine c_false rfl rfl ?_
    refine c_seq ?_
    refine c_region ?_
    refine st_f (y_eq_i (b := 2) rfl rfl) (by omega) rfl ?_
    refine st (y_assign rfl) rfl ?_
    refine l_nil ?_
    refine q_then ?_
    refine c_false rfl rfl ?_
    refine c_seq ?_
    refine c_region ?_
    refine st_f (y_eq_i (b := 3) rfl rfl) (by omega) rfl ?_
    refine st (y_assign rfl) rfl ?_
    refine l_nil ?_
    refine q_then ?_
    refine c_false rfl rfl ?_
    refine c_seq ?_
    refine c_region ?_
    refine st_f (y_eq_i (b := 4) rfl rfl) (by omega) rfl ?_
    refine st (y_assign rfl) rfl ?_
    refine l_nil ?_
    refine q_then ?_
    refine c_false rfl rfl ?_
    refine c_seq ?_
    refine c_region ?_
    refine st_t (y_eq_i (b := 5) rfl rfl) (by omega) rfl ?_
    refine st (y_assign rfl) rfl ?_
    refine l_nil ?_
    refine q_then ?_
    refine c_true rfl rfl ?_
    refine c_region ?_
    refine st (y_move rfl) rfl ?_
    refine st (y_move rfl) rfl ?_
    refine sc rfl rfl isfn24 (c_InsertAt p q _ i _ hS hlt (by omega)) rfl ?_
    rintro _ w4 ⟨rfl, q4, hS4, hq4, hK4⟩
    refine l_nil ?_
    refine q_block ?_
    exact q_meet _ ⟨rfl, rfl, trivial⟩ ⟨q4, rfl, by rw [insB_length (by omega)]; omega, hS4, hq4, hK4⟩
  ·
    rintro t w4 ⟨q4, hres, htl, hS4, hq4, hK4⟩
    have hsz3 := hK3.size
    have hB24 := hB2.keep hK4 (by simp only [List.mem_cons, List.not_mem_nil, or_false]; omega)
    have hK14 := hK13.trans hK4 (fun i hi => by simp only [List.mem_cons, List.not_mem_nil, or_false] at hi; exact .inr (by have := hK12.size; omega))
    refine c_seq ?_
    refine c_region ?_
    refine st (y_move rfl) rfl ?_
    refine sc rfl rfl isfn30 (c_told p q4 _ _ (hT.keep hK14 (by simp)) hS4 (by omega)) rfl ?_
    rintro _ w5 ⟨A5, c5, rfl, hO5, hK5⟩
    have hB24 := hB24.keep hK5 (by simp only [List.mem_cons, List.not_mem_nil, or_false, not_or, not_false_eq_true] <;> omega)
    have hK15 := hK14.trans hK5 (by simp)
    refine st_storeagg rfl rfl (by simp [Value.oneCell']) sz25 rfl (by assumption) (by simp) rfl ?_
    intro w6 hB6 hK6 hS6
    refine l_nil ?_
    refine q_then ?_
    refine c_ret ?_
    refine q_endc (.inl rfl) rfl rfl agg25 us25 sz25 (by assumption) (by rfl) ?_
    have hsz4 := hK4.size
    exact ⟨_, rfl, t, A5, c5, rfl, hres, htl, (hO5.keep hK6 (fun i hi => by simp only [List.mem_singleton] at hi; left; omega)).base (by omega), hK15.trans hK6 (fun i hi => by simp only [List.mem_singleton] at hi; exact .inr (by omega))⟩

theorem c_change6 (L : Nat) (A : Option Addr) (n c : Nat) (xs : List Nat) (i : Nat) (w : World) (hT : Tb w) (hR : Rd w A n xs) (hL : L ≤ 6000) (hx : ∀ x ∈ xs, x ≤ 6000) (hi : i ≤ 6000) (hlt : i < (mkS L xs).length) :
    Cal Tryd.prog 14 [vI ((6 : Nat) : Int), aB L A n c, vU i] w fun v w' => ∃ t A' c', v = aB t.length A' (nums t).length c' ∧ (t = delB (mkS L xs) i) ∧ t.length ≤ 6002 ∧ Ow w' w.heap.size 22 (.slice A' (nums t).length c') ((nums t).map vU) ∧ Keep w w' [] := by
  have hlen : (mkS L xs).length ≤ 6001 := mkS_length_le L 6001 xs (by omega) fun x h => by have := hx x h; omega
  have hT0 := hT.1
  refine go_in' Tryd.func14 rfl Tryd.ntmps14 (Nat.le_of_ble_eq_true rfl) ?_
  refine c_seq ?_
  refine c_region ?_
  refine st_box _ rfl rfl rfl ?_
  intro b1 w1 hb1 hB1 hK1 hS1
  refine st_alloc [.int .u64 0, .slice none 0 0] zv25 rfl rfl ?_
  intro b2 w2 hb2 hB2 hK2 hS2
  have hB1 := hB1.keep hK2 (by simp only [List.mem_cons, List.not_mem_nil, or_false, not_or, not_false_eq_true] <;> omega)
  have hK12 := hK1.trans hK2 (by simp)
  refine l_nil ?_
  refine q_then ?_
  refine c_seq ?_
  refine c_region ?_
  refine st (y_loadagg rfl agg25 us25 sz25 (by assumption) (by simp) (by rfl)) rfl ?_
  refine sc rfl rfl isfn19 (c_made L A n c xs _ (hR.keep hK12 (by simp)) hL hx) rfl ?_
  rintro _ w3 ⟨p, q, rfl, hp, hq, hS, hK3⟩
  have hB2 := hB2.keep hK3 (by simp only [List.mem_cons, List.not_mem_nil, or_false, not_or, not_false_eq_true] <;> omega)
  have hK13 := hK12.trans hK3 (by simp)
  have hlt3 := hS.lts
  refine st (y_move rfl) rfl ?_
  refine st (y_extract rfl rfl) rfl ?_
  refine st (y_extract rfl rfl) rfl ?_
  refine st (y_assign rfl) rfl ?_
  refine st (y_assign rfl) rfl ?_
  refine l_nil ?_
  refine q_then ?_
  refine c_seq ?_
  refine c_seq ?_
  refine c_region ?_
  refine st (y_move rfl) rfl ?_
  refine st (y_not rfl) rfl ?_
  refine st (y_move rfl) rfl ?_
  refine stg rfl rfl (y_move rfl) rfl ?_
  refine stg_f rfl rfl (y_gt_u (b := 6000) rfl rfl) (by omega) rfl ?_
  refine st (y_pickF rfl rfl) rfl ?_
  refine l_nil ?_
  refine q_then ?_
  refine c_false rfl rfl ?_
  refine c_skip ?_
  refine q_then ?_
  refine c_cut (fun _ : List Bool => [(6, vP b2), (7, vP p)]) (fun t w4 => ∃ q4, (t = delB (mkS L xs) i) ∧ t.length ≤ 6002 ∧ BSet w4 p q4 t ∧ (q4 = q ∨ w3.heap.size ≤ q4) ∧ Keep w3 w4 [p, q]) ?_ ?_
  · refine c_seq ?_
    refine c_region ?_
    refine st (y_move rfl) rfl ?_
    refine l_nil ?_
    refine q_then ?_
    refine c_block ?_
    refine c_seq ?_
    refine c_region ?_
    refine st_f (y_eq_i (b := 0) rfl rfl) (by omega) rfl ?_
    refine st (y_assign rfl) rfl ?_
    refine l_nil ?_
    refine q_then ?_
    refine c_false rfl rfl ?_
    refine c_seq ?_
    refine c_region ?_
    refine st_f (y_eq_i (b := 1) rfl rfl) (by omega) rfl ?_
    refine st (y_assign rfl) rfl ?_
    refine l_nil ?_
    refine q_then ?_
    refine c_false rfl rfl ?_
    refine c_seq ?_
    refine c_region ?_
    refine st_f (y_eq_i (b := 2) rfl rfl) (by omega) rfl ?_
    refine st (y_assign rfl) rfl ?_
    refine l_nil ?_
    refine q_then ?_
    refine c_false rfl rfl ?_
    refine c_seq ?_
    refine c_region ?_
    refine st_f (y_eq_i (b := 3) rfl rfl) (by omega) rfl ?_
    refine st (y_assign rfl) rfl ?_
    refine l_nil ?_
    refine q_then ?_
    refine c_false rfl rfl ?_
    refine c_seq ?_
    refine c_region ?_
    refine st_f (y_eq_i (b := 4) rfl rfl) (by omega) rfl ?_
    refine st (y_assign rfl) rfl ?_
    refine l_nil ?_
    refine q_then ?_
    refine c_false rfl rfl ?_
    refine c_seq ?_
    refine c_region ?_
    refine st_f (y_eq_i (b := 5) rfl rfl) (by omega) rfl ?_
    refine st (y_assign rfl) rfl ?_
    refine l_nil ?_
    refine q_then ?_
    refine c_false rfl rfl ?_
    refine c_seq ?_
    refine c_region ?_
    refine st_t (y_eq_i (b := 6) rfl rfl) (by omega) rfl ?_
    refine st (y_assign rfl) rfl ?_
    refine l_nil ?_
    refine q_then ?_
    refine c_true rfl rfl ?_
    refine c_region ?_
    refine st (y_move rfl) rfl ?_
    refine st (y_move rfl) rfl ?_
    refine sc rfl rfl isfn25 (c_DeleteAt p q _ i _ hS hlt (by omega)) rfl ?_
    rintro _ w4 ⟨rfl, hS4, hK4⟩
    refine l_nil ?_
    refine q_block ?_
    exact q_meet _ ⟨rfl, rfl, trivial⟩ ⟨q, rfl, by rw [delB_length hlt]; omega, hS4, .inl rfl, hK4⟩
  ·
    rintro t w4 ⟨q4, hres, htl, hS4, hq4, hK4⟩
    have hsz3 := hK3.size
    have hB24 := hB2.keep hK4 (by simp only [List.mem_cons, List.not_mem_nil, or_false]; omega)
    have hK14 := hK13.trans hK4 (fun i hi => by simp only [List.mem_cons, List.not_mem_nil, or_false] at hi; exact .inr (by have := hK12.size; omega))
    refine c_seq ?_
    refine c_region ?_
    refine st (y_move rfl) rfl ?_
    refine sc rfl rfl isfn30 (c_told p q4 _ _ (hT.keep hK14 (by simp)) hS4 (by omega)) rfl ?_
    rintro _ w5 ⟨A5, c5, rfl, hO5, hK5⟩
    have hB24 := hB24.keep hK5 (by simp only [List.mem_cons, List.not_mem_nil, or_false, not_or, not_false_eq_true] <;> omega)
    have hK15 := hK14.trans hK5 (by simp)
    refine st_storeagg rfl rfl (by simp [Value.oneCell']) sz25 rfl (by assumption) (by simp) rfl ?_
    intro w6 hB6 hK6 hS6
    refine l_nil ?_
    refine q_then ?_
    refine c_ret ?_
    refine q_endc (.inl rfl) rfl rfl agg25 us25 sz25 (by assumption) (by rfl) ?_
    have hsz4 := hK4.size
    exact ⟨_, rfl, t, A5, c5, rfl, hres, htl, (hO5.keep hK6 (fun i hi => by simp only [List.mem_singleton] at hi; left; omega)).base (by omega), hK15.trans hK6 (fun i hi => by simp only [List.mem_singleton] at hi; exact .inr (by omega))⟩
end Go.Proofs.YtmlamceblhhhpaaDoor

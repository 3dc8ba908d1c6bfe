/- impl.FlipRange and impl.SetRange, each by its contract. -/
import Derived.Test.YtepmbglaalkbdaaDoorT2
import Derived.Test.YtepmbglaalkbdaaDoorE1
import Derived.Test.YtepmbglaalkbdaaDoorL13
set_option linter.unusedVariables false
set_option linter.unusedSimpArgs false
set_option maxRecDepth 100000
namespace Go.Proofs.YtepmbglaalkbdaaDoor
open Go Go.RowKit

theorem c_implFlipRange (L : Nat) (A : Option Addr) (n c : Nat) (xs : List Nat) (a b : Nat) (w : World) (hT : Tb w) (hR : Rd w A n xs) (hL : L ≤ 6000) (hx : ∀ x ∈ xs, x ≤ 6000) (ha : a ≤ 6000) (hb : b ≤ 6000) :
    Cal Tryd.prog 24 [aB L A n c, vU a, vU b] w fun v w' => ∃ A' c', v = aB (flipR (mkS L xs) a b).length A' (nums (flipR (mkS L xs) a b)).length c' ∧ Ow w' w.heap.size 22 (.slice A' (nums (flipR (mkS L xs) a b)).length c') ((nums (flipR (mkS L xs) a b)).map vU) ∧ Keep w w' [] := by
  have hlen : (mkS L xs).length ≤ 6001 := mkS_length_le L 6001 xs (by omega) fun x h => by have := hx x h; omega
  have hfl : (flipR (mkS L xs) a b).length ≤ 6001 := by have := (flipR_len (mkS L xs) a b).1; omega
  have hT0 := hT.1
  refine go_in' Tryd.func24 rfl Tryd.ntmps24 (Nat.le_of_ble_eq_true rfl) ?_
  refine c_seq ?_
  refine c_region ?_
  refine st_box _ rfl rfl rfl ?_
  intro b1 w1 hb1 hB1 hK1 hS1
  refine st_alloc [.int .u64 0, .slice none 0 0] zv25 rfl rfl ?_
  intro b2 w2 hb2 hB2 hK2 hS2
  have hB1 := hB1.keep hK2 (by simp only [List.mem_cons, List.not_mem_nil, or_false, not_or, not_false_eq_true] <;> omega)
  have hK12 := hK1.trans hK2 (by simp)
  refine l_nil ?_
  refine q_then ?_
  refine c_seq ?_
  refine c_region ?_
  refine st (y_loadagg rfl agg25 us25 sz25 (by assumption) (by simp) (by rfl)) rfl ?_
  refine sc rfl rfl isfn27 (c_made L A n c xs _ (hR.keep hK12 (by simp)) hL hx) rfl ?_
  rintro _ w3 ⟨p, q, rfl, hp, hq, hS, hK3⟩
  have hB2 := hB2.keep hK3 (by simp only [List.mem_cons, List.not_mem_nil, or_false, not_or, not_false_eq_true] <;> omega)
  have hK13 := hK12.trans hK3 (by simp)
  refine st (y_move rfl) rfl ?_
  refine st (y_extract rfl rfl) rfl ?_
  refine st (y_extract rfl rfl) rfl ?_
  refine st (y_assign rfl) rfl ?_
  refine st (y_assign rfl) rfl ?_
  refine l_nil ?_
  refine q_then ?_
  refine c_seq ?_
  refine c_seq ?_
  refine c_region ?_
  refine st (y_move rfl) rfl ?_
  refine st (y_not rfl) rfl ?_
  refine st (y_move rfl) rfl ?_
  refine stg rfl rfl (y_move rfl) rfl ?_
  refine stg_f rfl rfl (y_gt_u (b := 6000) rfl rfl) (by omega) rfl ?_
  refine st (y_pickF rfl rfl) rfl ?_
  refine st (y_move rfl) rfl ?_
  refine stg rfl rfl (y_move rfl) rfl ?_
  refine stg_f rfl rfl (y_gt_u (b := 6000) rfl rfl) (by omega) rfl ?_
  refine st (y_pickF rfl rfl) rfl ?_
  refine l_nil ?_
  refine q_then ?_
  refine c_false rfl rfl ?_
  refine c_skip ?_
  refine q_then ?_
  refine c_seq ?_
  refine c_region ?_
  refine st (y_move rfl) rfl ?_
  refine st (y_move rfl) rfl ?_
  refine st (y_move rfl) rfl ?_
  refine sc rfl rfl isfn38 (c_FlipRange p q _ a b _ hS ha hb (by omega)) rfl ?_
  rintro _ w4 ⟨rfl, q4, hS4, hq4, hK4⟩
  have hlt3 := hS.lts
  have hB2 := hB2.keep hK4 (by simp only [List.mem_cons, List.not_mem_nil, or_false, not_or, not_false_eq_true] <;> omega)
  have hK14 := hK13.trans hK4 (fun i hi => by simp only [List.mem_cons, List.not_mem_nil, or_false] at hi; exact .inr (by have := hK12.size; omega))
  refine l_nil ?_
  refine q_then ?_
  refine c_seq ?_
  refine c_region ?_
  refine st (y_move rfl) rfl ?_
  refine sc rfl rfl isfn28 (c_told p q4 _ _ (hT.keep hK14 (by simp)) hS4 (by omega)) rfl ?_
  rintro _ w5 ⟨A5, c5, rfl, hO5, hK5⟩
  have hB2 := hB2.keep hK5 (by simp only [List.mem_cons, List.not_mem_nil, or_false, not_or, not_false_eq_true] <;> omega)
  have hK15 := hK14.trans hK5 (by simp)
  refine st_storeagg rfl rfl (by simp [Value.oneCell']) sz25 rfl (by assumption) (by simp) rfl ?_
  intro w6 hB6 hK6 hS6
  refine l_nil ?_
  refine q_then ?_
  refine c_ret ?_
  refine q_endc (.inl rfl) rfl rfl agg25 us25 sz25 (by assumption) (by rfl) ?_
  have hsz3 := hK3.size
  have hsz4 := hK4.size
  exact ⟨_, rfl, A5, c5, rfl, (hO5.keep hK6 (fun i hi => by simp only [List.mem_singleton] at hi; left; omega)).base (by omega), hK15.trans hK6 (fun i hi => by simp only [List.mem_singleton] at hi; exact .inr (by omega))⟩

theorem c_implSetRange (L : Nat) (A : Option Addr) (n c : Nat) (xs : List Nat) (a b : Nat) (w : World) (hT : Tb w) (hR : Rd w A n xs) (hL : L ≤ 6000) (hx : ∀ x ∈ xs, x ≤ 6000) (ha : a ≤ 6000) (hb : b ≤ 6000) :
    Cal Tryd.prog 26 [aB L A n c, vU a, vU b] w fun v w' => ∃ A' c', v = aB (setR (mkS L xs) a b).length A' (nums (setR (mkS L xs) a b)).length c' ∧ Ow w' w.heap.size 22 (.slice A' (nums (setR (mkS L xs) a b)).length c') ((nums (setR (mkS L xs) a b)).map vU) ∧ Keep w w' [] := by
  have hlen : (mkS L xs).length ≤ 6001 := mkS_length_le L 6001 xs (by omega) fun x h => by have := hx x h; omega
  have hfl : (setR (mkS L xs) a b).length ≤ 6001 := by have := setR_len (mkS L xs) a b; omega
  have hT0 := hT.1
  refine go_in' Tryd.func26 rfl Tryd.ntmps26 (Nat.le_of_ble_eq_true rfl) ?_
  refine c_seq ?_
  refine c_region ?_
  refine st_box _ rfl rfl rfl ?_
  intro b1 w1 hb1 hB1 hK1 hS1
  refine st_alloc [.int .u64 0, .slice none 0 0] zv25 rfl rfl ?_
  intro b2 w2 hb2 hB2 hK2 hS2
  have hB1 := hB1.keep hK2 (by simp only [List.mem_cons, List.not_mem_nil, or_false, not_or, not_false_eq_true] <;> omega)
  have hK12 := hK1.trans hK2 (by simp)
  refine l_nil ?_
  refine q_then ?_
  refine c_seq ?_
  refine c_region ?_
  refine st (y_loadagg rfl agg25 us25 sz25 (by assumption) (by simp) (by rfl)) rfl ?_
  refine sc rfl rfl isfn27 (c_made L A n c xs _ (hR.keep hK12 (by simp)) hL hx) rfl ?_
  rintro _ w3 ⟨p, q, rfl, hp, hq, hS, hK3⟩
  have hB2 := hB2.keep hK3 (by simp only [List.mem_cons, List.not_mem_nil, or_false, not_or, not_false_eq_true] <;> omega)
  have hK13 := hK12.trans hK3 (by simp)
  refine st (y_move rfl) rfl ?_
  refine st (y_extract rfl rfl) rfl ?_
  refine st (y_extract rfl rfl) rfl ?_
  refine st (y_assign rfl) rfl ?_
  refine st (y_assign rfl) rfl ?_
  refine l_nil ?_
  refine q_then ?_
  refine c_seq ?_
  refine c_seq ?_
  refine c_region ?_
  refine st (y_move rfl) rfl ?_
  refine st (y_not rfl) rfl ?_
  refine st (y_move rfl) rfl ?_
  refine stg rfl rfl (y_move rfl) rfl ?_
  refine stg_f rfl rfl (y_gt_u (b := 6000) rfl rfl) (by omega) rfl ?_
  refine st (y_pickF rfl rfl) rfl ?_
  refine st (y_move rfl) rfl ?_
  refine stg rfl rfl (y_move rfl) rfl ?_
  refine stg_f rfl rfl (y_gt_u (b := 6000) rfl rfl) (by omega) rfl ?_
  refine st (y_pickF rfl rfl) rfl ?_
  refine l_nil ?_
  refine q_then ?_
  refine c_false rfl rfl ?_
  refine c_skip ?_
  refine q_then ?_
  refine c_seq ?_
  refine c_region ?_
  refine st (y_move rfl) rfl ?_
  refine st (y_move rfl) rfl ?_
  refine st (y_move rfl) rfl ?_
  refine sc rfl rfl isfn39 (c_SetRange p q _ a b _ hS ha hb (by omega)) rfl ?_
  rintro _ w4 ⟨rfl, q4, hS4, hq4, hK4⟩
  have hlt3 := hS.lts
  have hB2 := hB2.keep hK4 (by simp only [List.mem_cons, List.not_mem_nil, or_false, not_or, not_false_eq_true] <;> omega)
  have hK14 := hK13.trans hK4 (fun i hi => by simp only [List.mem_cons, List.not_mem_nil, or_false] at hi; exact .inr (by have := hK12.size; omega))
  refine l_nil ?_
  refine q_then ?_
  refine c_seq ?_
  refine c_region ?_
  refine st (y_move rfl) rfl ?_
  refine sc rfl rfl isfn28 (c_told p q4 _ _ (hT.keep hK14 (by simp)) hS4 (by omega)) rfl ?_
  rintro _ w5 ⟨A5, c5, rfl, hO5, hK5⟩
  have hB2 := hB2.keep hK5 (by simp only [List.mem_cons, List.not_mem_nil, or_false, not_or, not_false_eq_true] <;> omega)
  have hK15 := hK14.trans hK5 (by simp)
  refine st_storeagg rfl rfl (by simp [Value.oneCell']) sz25 rfl (by assumption) (by simp) rfl ?_
  intro w6 hB6 hK6 hS6
  refine l_nil ?_
  refine q_then ?_
  refine c_ret ?_
  refine q_endc (.inl rfl) rfl rfl agg25 us25 sz25 (by assumption) (by rfl) ?_
  have hsz3 := hK3.size
  have hsz4 := hK4.size
  exact ⟨_, rfl, A5, c5, rfl, (hO5.keep hK6 (fun i hi => by simp only [List.mem_singleton] at hi; left; omega)).base (by omega), hK15.trans hK6 (fun i hi => by simp only [List.mem_singleton] at hi; exact .inr (by omega))⟩

end Go.Proofs.YtepmbglaalkbdaaDoor

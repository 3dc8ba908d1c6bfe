/- Both sets made at once: the thin package's, the statements'; each by its contract. -/
import Derived.Test.YtefhjchhfpjciaaDoorA5
set_option linter.unusedVariables false
set_option linter.unusedSimpArgs false
set_option maxRecDepth 100000
namespace Go.Proofs.YtefhjchhfpjciaaDoor
open Go Go.RowKit

theorem c_implBoth (L : Nat) (A : Option Addr) (n c : Nat) (xs : List Nat) (M : Nat) (B : Option Addr) (m d : Nat) (ys : List Nat) (w : World) (hRx : Rd w A n xs) (hRy : Rd w B m ys) (ho : Ok L n xs) (ho2 : Ok M m ys) :
    Cal Tryd.prog 14 [aB L A n c, aB M B m d] w fun v w' => ∃ p q p2 q2, v = vT [vP p, vP p2, vB true] ∧ BSet w' p q (mkS L xs) ∧ BSet w' p2 q2 (mkS M ys) ∧ Keep w w' [] := by
  refine go_in' Tryd.func14 rfl Tryd.ntmps14 (Nat.le_of_ble_eq_true rfl) ?_
  refine c_seq ?_
  refine c_region ?_
  refine st_box _ rfl rfl rfl ?_
  intro b1 w1 hb1 hB1 hK1 hS1
  refine st_box _ rfl rfl rfl ?_
  intro b2 w2 hb2 hB2 hK2 hS2
  have hB1 := hB1.keep hK2 (by simp only [List.mem_cons, List.not_mem_nil, or_false, not_or, not_false_eq_true] <;> omega)
  have hK12 := hK1.trans hK2 (by simp)
  refine st (y_assign rfl) rfl ?_
  refine st (y_assign rfl) rfl ?_
  refine st (y_assign rfl) rfl ?_
  refine l_nil ?_
  refine q_then ?_
  refine c_seq ?_
  refine c_region ?_
  refine st (y_loadagg rfl agg25 us25 sz25 (by assumption) (by simp) (by rfl)) rfl ?_
  refine sc rfl rfl isfn28 (c_made L A n c xs _ (hRx.keep hK12 (by simp)) (by have := ho.1; omega) (fun x h => by have := ho.2.2 x h; omega)) rfl ?_
  rintro _ w3 ⟨p, q, rfl, hp, hq, hS, hK3⟩
  have hB1 := hB1.keep hK3 (by simp only [List.mem_cons, List.not_mem_nil, or_false, not_or, not_false_eq_true] <;> omega)
  have hB2 := hB2.keep hK3 (by simp only [List.mem_cons, List.not_mem_nil, or_false, not_or, not_false_eq_true] <;> omega)
  have hK13 := hK12.trans hK3 (by simp)
  refine st (y_move rfl) rfl ?_
  refine st (y_extract rfl rfl) rfl ?_
  refine st (y_extract rfl rfl) rfl ?_
  refine st (y_assign rfl) rfl ?_
  refine st (y_assign rfl) rfl ?_
  refine l_nil ?_
  refine q_then ?_
  refine c_seq ?_
  refine c_region ?_
  refine st (y_loadagg rfl agg25 us25 sz25 (by assumption) (by simp) (by rfl)) rfl ?_
  refine sc rfl rfl isfn28 (c_made M B m d ys _ (hRy.keep hK13 (by simp)) (by have := ho2.1; omega) (fun x h => by have := ho2.2.2 x h; omega)) rfl ?_
  rintro _ w4 ⟨p2, q2, rfl, hp2, hq2, hT, hK4⟩
  refine st (y_move rfl) rfl ?_
  refine st (y_extract rfl rfl) rfl ?_
  refine st (y_extract rfl rfl) rfl ?_
  refine st (y_assign rfl) rfl ?_
  refine st (y_assign rfl) rfl ?_
  refine l_nil ?_
  refine q_then ?_
  refine c_seq ?_
  refine c_region ?_
  refine st (y_move rfl) rfl ?_
  refine st (y_move rfl) rfl ?_
  refine st (y_move rfl) rfl ?_
  refine st (y_move rfl) rfl ?_
  refine stg rfl rfl (y_move rfl) rfl ?_
  refine st (y_pickT rfl rfl) rfl ?_
  refine st (y_assign rfl) rfl ?_
  refine st (y_assign rfl) rfl ?_
  refine st (y_assign rfl) rfl ?_
  refine l_nil ?_
  refine q_then ?_
  refine c_ret ?_
  refine q_end3 (.inl rfl) rfl rfl rfl rfl ?_
  exact ⟨_, rfl, p, q, p2, q2, rfl, hS.keep hK4 (by simp) (by simp), hT, hK13.trans hK4 (by simp)⟩

theorem c_lawsBoth (L : Nat) (A : Option Addr) (n c : Nat) (xs : List Nat) (M : Nat) (B : Option Addr) (m d : Nat) (ys : List Nat) (w : World) (hRx : Rd w A n xs) (hRy : Rd w B m ys) :
    Cal Tryd.prog 5 [aB L A n c, aB M B m d] w fun v w' => Keep w w' [] ∧ ((Ok L n xs ∧ Ok M m ys ∧ ∃ b b2, v = vT [vS b (mkS L xs).length (mkS L xs).length, vS b2 (mkS M ys).length (mkS M ys).length, vB true] ∧ Bl w' b (mkS L xs) ∧ Bl w' b2 (mkS M ys) ∧ w.heap.size ≤ b ∧ w.heap.size ≤ b2) ∨ ∃ x y, v = vT [x, y, vB false]) := by
  refine go_in' Tryd.func5 rfl Tryd.ntmps5 (Nat.le_of_ble_eq_true rfl) ?_
  refine c_seq ?_
  refine c_region ?_
  refine st_box _ rfl rfl rfl ?_
  intro b1 w1 hb1 hB1 hK1 hS1
  refine st_box _ rfl rfl rfl ?_
  intro b2 w2 hb2 hB2 hK2 hS2
  have hB1 := hB1.keep hK2 (by simp only [List.mem_cons, List.not_mem_nil, or_false, not_or, not_false_eq_true] <;> omega)
  have hK12 := hK1.trans hK2 (by simp)
  refine st (y_assign rfl) rfl ?_
  refine st (y_assign rfl) rfl ?_
  refine st (y_assign rfl) rfl ?_
  refine l_nil ?_
  refine q_then ?_
  refine c_seq ?_
  refine c_region ?_
  refine st (y_loadagg rfl agg25 us25 sz25 (by assumption) (by simp) (by rfl)) rfl ?_
  refine sc rfl rfl isfn11 (c_set L A n c xs _ (hRx.keep hK12 (by simp))) rfl ?_
  rintro _ w3 ⟨hK3, ⟨ho, b, rfl, hBl, hb⟩ | rfl⟩
  · have hB1 := hB1.keep hK3 (by simp only [List.mem_cons, List.not_mem_nil, or_false, not_or, not_false_eq_true] <;> omega)
    have hB2 := hB2.keep hK3 (by simp only [List.mem_cons, List.not_mem_nil, or_false, not_or, not_false_eq_true] <;> omega)
    have hK13 := hK12.trans hK3 (by simp)
    refine st (y_move rfl) rfl ?_
    refine st (y_extract rfl rfl) rfl ?_
    refine st (y_extract rfl rfl) rfl ?_
    refine st (y_assign rfl) rfl ?_
    refine st (y_assign rfl) rfl ?_
    refine l_nil ?_
    refine q_then ?_
    refine c_seq ?_
    refine c_region ?_
    refine st (y_loadagg rfl agg25 us25 sz25 (by assumption) (by simp) (by rfl)) rfl ?_
    refine sc rfl rfl isfn11 (c_set M B m d ys _ (hRy.keep hK13 (by simp))) rfl ?_
    rintro _ w4 ⟨hK4, ⟨ho2, b', rfl, hBl2, hb'⟩ | rfl⟩
    · refine st (y_move rfl) rfl ?_
      refine st (y_extract rfl rfl) rfl ?_
      refine st (y_extract rfl rfl) rfl ?_
      refine st (y_assign rfl) rfl ?_
      refine st (y_assign rfl) rfl ?_
      refine l_nil ?_
      refine q_then ?_
      refine c_seq ?_
      refine c_region ?_
      refine st (y_move rfl) rfl ?_
      refine st (y_move rfl) rfl ?_
      refine st (y_move rfl) rfl ?_
      refine st (y_move rfl) rfl ?_
      refine stg rfl rfl (y_move rfl) rfl ?_
      refine st (y_pickT rfl rfl) rfl ?_
      refine st (y_assign rfl) rfl ?_
      refine st (y_assign rfl) rfl ?_
      refine st (y_assign rfl) rfl ?_
      refine l_nil ?_
      refine q_then ?_
      refine c_ret ?_
      refine q_end3 (.inl rfl) rfl rfl rfl rfl ?_
      have hs13 := hK12.size
      have hs14 := hK13.size
      exact ⟨_, rfl, hK13.trans hK4 (by simp), .inl ⟨ho, ho2, b, b', rfl, hBl.keep hK4 (by simp), hBl2, by omega, by omega⟩⟩
    ·
      refine st (y_move rfl) rfl ?_
      refine st (y_extract rfl rfl) rfl ?_
      refine st (y_extract rfl rfl) rfl ?_
      refine st (y_assign rfl) rfl ?_
      refine st (y_assign rfl) rfl ?_
      refine l_nil ?_
      refine q_then ?_
      refine c_seq ?_
      refine c_region ?_
      refine st (y_move rfl) rfl ?_
      refine st (y_move rfl) rfl ?_
      refine st (y_move rfl) rfl ?_
      refine st (y_move rfl) rfl ?_
      refine stg rfl rfl (y_move rfl) rfl ?_
      refine st (y_pickT rfl rfl) rfl ?_
      refine st (y_assign rfl) rfl ?_
      refine st (y_assign rfl) rfl ?_
      refine st (y_assign rfl) rfl ?_
      refine l_nil ?_
      refine q_then ?_
      refine c_ret ?_
      refine q_end3 (.inl rfl) rfl rfl rfl rfl ?_
      exact ⟨_, rfl, hK13.trans hK4 (by simp), .inr ⟨_, _, rfl⟩⟩
  ·
    have hB1 := hB1.keep hK3 (by simp only [List.mem_cons, List.not_mem_nil, or_false, not_or, not_false_eq_true] <;> omega)
    have hB2 := hB2.keep hK3 (by simp only [List.mem_cons, List.not_mem_nil, or_false, not_or, not_false_eq_true] <;> omega)
    have hK13 := hK12.trans hK3 (by simp)
    refine st (y_move rfl) rfl ?_
    refine st (y_extract rfl rfl) rfl ?_
    refine st (y_extract rfl rfl) rfl ?_
    refine st (y_assign rfl) rfl ?_
    refine st (y_assign rfl) rfl ?_
    refine l_nil ?_
    refine q_then ?_
    refine c_seq ?_
    refine c_region ?_
    refine st (y_loadagg rfl agg25 us25 sz25 (by assumption) (by simp) (by rfl)) rfl ?_
    refine sc rfl rfl isfn11 (c_set M B m d ys _ (hRy.keep hK13 (by simp))) rfl ?_
    rintro _ w4 ⟨hK4, ⟨ho2, b', rfl, hBl2, hb'⟩ | rfl⟩
    · refine st (y_move rfl) rfl ?_
      refine st (y_extract rfl rfl) rfl ?_
      refine st (y_extract rfl rfl) rfl ?_
      refine st (y_assign rfl) rfl ?_
      refine st (y_assign rfl) rfl ?_
      refine l_nil ?_
      refine q_then ?_
      refine c_seq ?_
      refine c_region ?_
      refine st (y_move rfl) rfl ?_
      refine st (y_move rfl) rfl ?_
      refine st (y_move rfl) rfl ?_
      refine st (y_move rfl) rfl ?_
      refine sno rfl rfl rfl rfl ?_
      refine st (y_pickF rfl rfl) rfl ?_
      refine st (y_assign rfl) rfl ?_
      refine st (y_assign rfl) rfl ?_
      refine st (y_assign rfl) rfl ?_
      refine l_nil ?_
      refine q_then ?_
      refine c_ret ?_
      refine q_end3 (.inl rfl) rfl rfl rfl rfl ?_
      exact ⟨_, rfl, hK13.trans hK4 (by simp), .inr ⟨_, _, rfl⟩⟩
    ·
      refine st (y_move rfl) rfl ?_
      refine st (y_extract rfl rfl) rfl ?_
      refine st (y_extract rfl rfl) rfl ?_
      refine st (y_assign rfl) rfl ?_
      refine st (y_assign rfl) rfl ?_
      refine l_nil ?_
      refine q_then ?_
      refine c_seq ?_
      refine c_region ?_
      refine st (y_move rfl) rfl ?_
      refine st (y_move rfl) rfl ?_
      refine st (y_move rfl) rfl ?_
      refine st (y_move rfl) rfl ?_
      refine sno rfl rfl rfl rfl ?_
      refine st (y_pickF rfl rfl) rfl ?_
      refine st (y_assign rfl) rfl ?_
      refine st (y_assign rfl) rfl ?_
      refine st (y_assign rfl) rfl ?_
      refine l_nil ?_
      refine q_then ?_
      refine c_ret ?_
      refine q_end3 (.inl rfl) rfl rfl rfl rfl ?_
      exact ⟨_, rfl, hK13.trans hK4 (by simp), .inr ⟨_, _, rfl⟩⟩

end Go.Proofs.YtefhjchhfpjciaaDoor

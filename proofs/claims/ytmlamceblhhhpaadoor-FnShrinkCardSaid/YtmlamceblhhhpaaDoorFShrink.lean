/- The numbers up to one stay: impl.Change for Shrink, and the statement's own walk. -/
import Derived.Test.YtmlamceblhhhpaaDoorT2
import Derived.Test.YtmlamceblhhhpaaDoorG2
import Derived.Test.YtmlamceblhhhpaaDoorK11
set_option linter.unusedVariables false
set_option linter.unusedSimpArgs false
set_option maxRecDepth 100000
namespace Go.Proofs.YtmlamceblhhhpaaDoor
open Go Go.RowKit

theorem c_change7 (L : Nat) (A : Option Addr) (n c : Nat) (xs : List Nat) (i : Nat) (w : World) (hT : Tb w) (hR : Rd w A n xs) (hL : L ≤ 6000) (hx : ∀ x ∈ xs, x ≤ 6000) (hi : i ≤ 6000) :
    Cal Tryd.prog 14 [vI ((7 : Nat) : Int), aB L A n c, vU i] w fun v w' => ∃ t A' c', v = aB t.length A' (nums t).length c' ∧ (t = (mkS L xs).take (i + 1)) ∧ t.length ≤ 6002 ∧ Ow w' w.heap.size 22 (.slice A' (nums t).length c') ((nums t).map vU) ∧ Keep w w' [] := by
  have hlen : (mkS L xs).length ≤ 6001 := mkS_length_le L 6001 xs (by omega) fun x h => by have := hx x h; omega
  have hT0 := hT.1
  refine go_in' Tryd.func14 rfl Tryd.ntmps14 (Nat.le_of_ble_eq_true rfl) ?_
  refine c_seq ?_
  refine c_region ?_
  refine st_box _ rfl rfl rfl ?_
  intro b1 w1 hb1 hB1 hK1 hS1
  refine st_alloc [.int .u64 0, .slice none 0 0] zv25 rfl rfl ?_
  intro b2 w2 hb2 hB2 hK2 hS2
  have hB1 := hB1.keep hK2 (by simp only [List.mem_cons, List.not_mem_nil, or_false, not_or, not_false_eq_true] <;> omega)
  have hK12 := hK1.trans hK2 (by simp)
  refine l_nil ?_
  refine q_then ?_
  refine c_seq ?_
  refine c_region ?_
  refine st (y_loadagg rfl agg25 us25 sz25 (by assumption) (by simp) (by rfl)) rfl ?_
  refine sc rfl rfl isfn19 (c_made L A n c xs _ (hR.keep hK12 (by simp)) hL hx) rfl ?_
  rintro _ w3 ⟨p, q, rfl, hp, hq, hS, hK3⟩
  have hB2 := hB2.keep hK3 (by simp only [List.mem_cons, List.not_mem_nil, or_false, not_or, not_false_eq_true] <;> omega)
  have hK13 := hK12.trans hK3 (by simp)
  have hlt3 := hS.lts
  refine st (y_move rfl) rfl ?_
  refine st (y_extract rfl rfl) rfl ?_
  refine st (y_extract rfl rfl) rfl ?_
  refine st (y_assign rfl) rfl ?_
  refine st (y_assign rfl) rfl ?_
  refine l_nil ?_
  refine q_then ?_
  refine c_seq ?_
  refine c_seq ?_
  refine c_region ?_
  refine st (y_move rfl) rfl ?_
  refine st (y_not rfl) rfl ?_
  refine st (y_move rfl) rfl ?_
  refine stg rfl rfl (y_move rfl) rfl ?_
  refine stg_f rfl rfl (y_gt_u (b := 6000) rfl rfl) (by omega) rfl ?_
  refine st (y_pickF rfl rfl) rfl ?_
  refine l_nil ?_
  refine q_then ?_
  refine c_false rfl rfl ?_
  refine c_skip ?_
  refine q_then ?_
  refine c_cut (fun _ : List Bool => [(6, vP b2), (7, vP p)]) (fun t w4 => ∃ q4, (t = (mkS L xs).take (i + 1)) ∧ t.length ≤ 6002 ∧ BSet w4 p q4 t ∧ (q4 = q ∨ w3.heap.size ≤ q4) ∧ Keep w3 w4 [p, q]) ?_ ?_
  · refine c_seq ?_
    refine c_region ?_
    refine st (y_move rfl) rfl ?_
    refine l_nil ?_
    refine q_then ?_
    refine c_block ?_
    refine c_seq ?_
    refine c_region ?_
    refine st_f (y_eq_i (b := 0) rfl rfl) (by omega) rfl ?_
    refine st (y_assign rfl) rfl ?_
    refine l_nil ?_
    refine q_then ?_
    refine c_false rfl rfl ?_
    refine c_seq ?_
    refine c_region ?_
    refine st_f (y_eq_i (b := 1) rfl rfl) (by omega) rfl ?_
    refine st (y_assign rfl) rfl ?_
    refine l_nil ?_
    refine q_then ?_
    refine c_false rfl rfl ?_
    refine c_seq ?_
    refine c_region ?_
    refine st_f (y_eq_i (b := 2) rfl rfl) (by omega) rfl ?_
    refine st (y_assign rfl) rfl ?_
    refine l_nil ?_
    refine q_then ?_
    refine c_false rfl rfl ?_
    refine c_seq ?_
    refine c_region ?_
    refine st_f (y_eq_i (b := 3) rfl rfl) (by omega) rfl ?_
    refine st (y_assign rfl) rfl ?_
    refine l_nil ?_
    refine q_then ?_
    refine c_false rfl rfl ?_
    refine c_seq ?_
    refine c_region ?_
    refine st_f (y_eq_i (b := 4) rfl rfl) (by omega) rfl ?_
    refine st (y_assign rfl) rfl ?_
    refine l_nil ?_
    refine q_then ?_
    refine c_false rfl rfl ?_
    refine c_seq ?_
    refine c_region ?_
    refine st_f (y_eq_i (b := 5) rfl rfl) (by omega) rfl ?_
    refine st (y_assign rfl) rfl ?_
    refine l_nil ?_
    refine q_then ?_
    refine c_false rfl rfl ?_
    refine c_seq ?_
    refine c_region ?_
    refine st_f (y_eq_i (b := 6) rfl rfl) (by omega) rfl ?_
    refine st (y_assign rfl) rfl ?_
    refine l_nil ?_
    refine q_then ?_
    refine c_false rfl rfl ?_
    refine c_seq ?_
    refine c_region ?_
    refine st_t (y_eq_i (b := 7) rfl rfl) (by omega) rfl ?_
    refine st (y_assign rfl) rfl ?_
    refine l_nil ?_
    refine q_then ?_
    refine c_true rfl rfl ?_
    refine c_region ?_
    refine st (y_move rfl) rfl ?_
    refine st (y_move rfl) rfl ?_
    refine sc rfl rfl isfn26 (c_Shrink p q _ i _ hS (by omega) (by omega)) rfl ?_
    rintro _ w4 ⟨rfl, q4, hS4, hq4, hK4⟩
    refine l_nil ?_
    refine q_block ?_
    exact q_meet _ ⟨rfl, rfl, trivial⟩ ⟨q4, rfl, by simp; omega, hS4, hq4, hK4⟩
  ·
    rintro t w4 ⟨q4, hres, htl, hS4, hq4, hK4⟩
    have hsz3 := hK3.size
    have hB24 := hB2.keep hK4 (by simp only [List.mem_cons, List.not_mem_nil, or_false]; omega)
    have hK14 := hK13.trans hK4 (fun i hi => by simp only [List.mem_cons, List.not_mem_nil, or_false] at hi; exact .inr (by have := hK12.size; omega))
    refine c_seq ?_
    refine c_region ?_
    refine st (y_move rfl) rfl ?_
    refine sc rfl rfl isfn30 (c_told p q4 _ _ (hT.keep hK14 (by simp)) hS4 (by omega)) rfl ?_
    rintro _ w5 ⟨A5, c5, rfl, hO5, hK5⟩
    have hB24 := hB24.keep hK5 (by simp only [List.mem_cons, List.not_mem_nil, or_false, not_or, not_false_eq_true] <;> omega)
    have hK15 := hK14.trans hK5 (by simp)
    refine st_storeagg rfl rfl (by simp [Value.oneCell']) sz25 rfl (by assumption) (by simp) rfl ?_
    intro w6 hB6 hK6 hS6
    refine l_nil ?_
    refine q_then ?_
    refine c_ret ?_
    refine q_endc (.inl rfl) rfl rfl agg25 us25 sz25 (by assumption) (by rfl) ?_
    have hsz4 := hK4.size
    exact ⟨_, rfl, t, A5, c5, rfl, hres, htl, (hO5.keep hK6 (fun i hi => by simp only [List.mem_singleton] at hi; left; omega)).base (by omega), hK15.trans hK6 (fun i hi => by simp only [List.mem_singleton] at hi; exact .inr (by omega))⟩

theorem RdB.take {w : World} {A : Option Addr} {n m : Nat} {s : List Bool} (h : RdB w A n s) (hm : m ≤ n) : RdB w A m (s.take m) := by
  have hl := h.1
  refine ⟨by simp; omega, by have := h.2.1; omega, fun h0 => ?_⟩
  obtain ⟨ad, e, hb, hc⟩ := h.2.2 (by omega)
  refine ⟨ad, e, hb, fun j hj => ?_⟩
  rw [hc j (by omega), take_getD]
  simp [hj]

theorem c_FnShrink (L : Nat) (A : Option Addr) (n c : Nat) (xs : List Nat) (i : Nat) (w : World) (hT : Tb w) (hR : Rd w A n xs) (hi : i < 18446744073709551616) :
    Cal Tryd.prog 7 [aB L A n c, vU i] w fun v w' => v = vB true ∧ Keep w w' [] := by
  have hT0 := hT.1
  refine go_in' Tryd.func7 rfl Tryd.ntmps7 (Nat.le_of_ble_eq_true rfl) ?_
  refine c_seq ?_
  refine c_region ?_
  refine st_box _ rfl rfl rfl ?_
  intro b1 w1 hb1 hB1 hK1 hS1
  refine st (y_assign rfl) rfl ?_
  refine l_nil ?_
  refine q_then ?_
  refine c_seq ?_
  refine c_seq ?_
  refine c_region ?_
  refine st (y_loadagg rfl agg25 us25 sz25 (by assumption) (by simp) (by rfl)) rfl ?_
  refine sc rfl rfl isfn9 (c_zzFits1 L A n c _) rfl ?_
  rintro _ w2 ⟨rfl, hK2⟩
  have hB1 := hB1.keep hK2 (by simp only [List.mem_cons, List.not_mem_nil, or_false, not_or, not_false_eq_true] <;> omega)
  have hK := hK1.trans hK2 (by simp)
  clear hK1 hK2
  refine st (y_not rfl) rfl ?_
  refine l_nil ?_
  refine q_then ?_
  refine c_ifb rfl (fun hz => ?_) (fun hz => ?_)
  · refine c_seq ?_
    refine c_region ?_
    refine st (y_assign rfl) rfl ?_
    refine l_nil ?_
    refine q_then ?_
    refine c_ret ?_
    refine q_then_ret ?_
    refine q_end1 (.inl rfl) rfl rfl ?_
    exact ⟨_, rfl, rfl, hK⟩
  ·
    refine c_skip ?_
    refine q_then ?_
    refine c_seq ?_
    refine c_region ?_
    refine st (y_loadagg rfl agg25 us25 sz25 (by assumption) (by simp) (by rfl)) rfl ?_
    refine sc rfl rfl isfn10 (c_set L A n c xs _ (hR.keep hK (by simp))) rfl ?_
    rintro _ w3 ⟨hK3, ⟨ho, b, rfl, hBl, hb⟩ | rfl⟩
    · have hB1 := hB1.keep hK3 (by simp only [List.mem_cons, List.not_mem_nil, or_false, not_or, not_false_eq_true] <;> omega)
      have hK' := hK.trans hK3 (by simp)
      have hlen := ho.len
      clear hK hK3
      have hKd := hK'.trans (Keep.drew w3 []) (by simp)
      have hBl' := hBl.keep (Keep.drew w3 []) (by simp)
      refine st (y_move rfl) rfl ?_
      refine st (y_extract rfl rfl) rfl ?_
      refine st (y_extract rfl rfl) rfl ?_
      refine st (y_assign rfl) rfl ?_
      refine st (y_assign rfl) rfl ?_
      refine l_nil ?_
      refine q_then ?_
      refine c_seq ?_
      refine c_moves ((fun w' => Blk w' b1 25 [vU L, .slice A n c])) [(true, 0), (true, 1), (true, 2), (true, 3), (true, 4), (true, 5), (true, 6), (true, 7), (true, 8), (true, 9), (true, 10), (true, 11), (true, 13), (true, 14), (true, 15), (true, 16), (false, 12), (false, 17), (true, 18), (false, 19), (true, 20), (true, 21), (true, 22)] mixed (by kernel_rfl) rfl (by kernel_rfl) (hB1.drew) ?_
      show wpM _ _ _ _ _ _ _ _ _
      refine mt rfl (fun w' hS => y_move rfl) rfl rfl ?_
      refine mt rfl (fun w' hS => y_not rfl) rfl rfl ?_
      refine mt rfl (fun w' hS => y_move rfl) rfl rfl ?_
      refine mtg rfl rfl rfl (fun w' hS => y_move rfl) rfl rfl ?_
      refine mtg rfl rfl rfl (fun w' hS => y_move rfl) rfl rfl ?_
      refine mtg rfl rfl rfl (fun w' hS => y_len rfl Tryd.underlying28) rfl rfl ?_
      refine mtg rfl rfl rfl (fun w' hS => y_conv_iu rfl us3 Tryd.underlying22 rfl (by omega)) rfl rfl ?_
      refine mtg_if rfl rfl rfl (fun w' hS => y_ge_u rfl rfl) rfl (fun h1 => ?_) (fun h1 => ?_)
      · refine mt rfl (fun w' hS => y_pickF rfl rfl) rfl rfl ?_
        refine mt rfl (fun w' hS => y_move rfl) rfl rfl ?_
        refine mno rfl rfl rfl rfl rfl ?_
        refine mno rfl rfl rfl rfl rfl ?_
        refine mno rfl rfl rfl rfl rfl ?_
        refine mno rfl rfl rfl rfl rfl ?_
        refine mno rfl rfl rfl rfl rfl ?_
        refine mno rfl rfl rfl rfl rfl ?_
        refine mh rfl ?_
        refine sno rfl rfl rfl rfl ?_
        refine l_nil ?_
        refine mh_end (hB1.drew) ?_
        refine mh rfl ?_
        refine sno rfl rfl rfl rfl ?_
        refine l_nil ?_
        refine mh_end (hB1.drew) ?_
        refine mno rfl rfl rfl rfl rfl ?_
        refine mh rfl ?_
        refine snou rfl rfl rfl ?_
        refine l_nil ?_
        refine mh_end (hB1.drew) ?_
        refine mno rfl rfl rfl rfl rfl ?_
        refine mt rfl (fun w' hS => y_pickT rfl rfl) rfl rfl ?_
        refine mt rfl (fun w' hS => y_assign rfl) rfl rfl ?_
        refine m_nil ?_
        refine q_then ?_
        refine c_ret ?_
        refine q_end1 (.inl rfl) rfl rfl ?_
        exact ⟨_, rfl, rfl, hKd⟩
      ·
        refine mt rfl (fun w' hS => y_pickF rfl rfl) rfl rfl ?_
        refine mt rfl (fun w' hS => y_move rfl) rfl rfl ?_
        refine mtg rfl rfl rfl (fun w' hS => y_loadagg rfl agg25 us25 sz25 (by assumption) (by simp) (by rfl)) rfl rfl ?_
        refine mtg rfl rfl rfl (fun w' hS => y_move rfl) rfl rfl ?_
        refine mtg rfl rfl rfl (fun w' hS => y_move rfl) rfl rfl ?_
        refine mtg rfl rfl rfl (fun w' hS => y_move rfl) rfl rfl ?_
        refine mtg rfl rfl rfl (fun w' hS => y_add_u (b := 1) rfl rfl (by omega)) rfl rfl ?_
        refine mtg rfl rfl rfl (fun w' hS => y_slice_h rfl rfl Tryd.underlying28 sz4 (by omega)) rfl rfl ?_
        refine mh rfl ?_
        refine scg rfl rfl rfl rfl isfn14 (c_change7 L A n c xs i _ (hT.keep hKd (by simp)) (hR.keep hKd (by simp)) (by have := ho.1; omega) (fun x h => by have := ho.2.2 x h; omega) (by omega)) rfl ?_
        rintro _ w5 ⟨t, A5, c5, rfl, rfl, htl, hO5, hK5⟩
        have hK6 := hKd.trans hK5 (by simp)
        refine l_nil ?_
        refine mh_end ((hB1.drew.keep hK5 (by simp))) ?_
        refine mh rfl ?_
        have hrb := (((hBl'.rdB (by omega)).keep hK5 (by simp)).take (m := i + 1) (by omega))
        refine scg rfl rfl rfl rfl isfn13 (c_exactly _ _ _ _ _ _ _ _ _ _ hO5.rd' hrb (by omega) rfl rfl) rfl ?_
        rintro _ w7 ⟨rfl, hK7⟩
        have hK8 := hK6.trans hK7 (by simp)
        refine l_nil ?_
        refine mh_end (((hB1.drew.keep hK5 (by simp)).keep hK7 (by simp))) ?_
        refine mtg rfl rfl rfl (fun w' hS => y_move rfl) rfl rfl ?_
        refine mh rfl ?_
        refine scg rfl rfl rfl rfl isfn15 (c_alive _ (hT.keep hK8 (by simp))) rfl ?_
        rintro _ w9 ⟨rfl, hK9⟩
        refine l_nil ?_
        refine mh_end ((((hB1.drew.keep hK5 (by simp)).keep hK7 (by simp)).keep hK9 (by simp))) ?_
        refine mtg rfl rfl rfl (fun w' hS => y_pickT rfl rfl) rfl rfl ?_
        refine mt rfl (fun w' hS => y_pickF rfl rfl) rfl rfl ?_
        refine mt rfl (fun w' hS => y_assign rfl) rfl rfl ?_
        refine m_nil ?_
        refine q_then ?_
        refine c_ret ?_
        refine q_end1 (.inl rfl) rfl rfl ?_
        exact ⟨_, rfl, rfl, hK8.trans hK9 (by simp)⟩
    ·
      have hB1 := hB1.keep hK3 (by simp only [List.mem_cons, List.not_mem_nil, or_false, not_or, not_false_eq_true] <;> omega)
      have hKd := (hK.trans hK3 (by simp)).trans (Keep.drew w3 []) (by simp)
      refine st (y_move rfl) rfl ?_
      refine st (y_extract rfl rfl) rfl ?_
      refine st (y_extract rfl rfl) rfl ?_
      refine st (y_assign rfl) rfl ?_
      refine st (y_assign rfl) rfl ?_
      refine l_nil ?_
      refine q_then ?_
      refine c_seq ?_
      refine c_moves ((fun w' => Blk w' b1 25 [vU L, .slice A n c])) [(true, 0), (true, 1), (true, 2), (true, 3), (true, 4), (true, 5), (true, 6), (true, 7), (true, 8), (true, 9), (true, 10), (true, 11), (true, 13), (true, 14), (true, 15), (true, 16), (false, 12), (false, 17), (true, 18), (false, 19), (true, 20), (true, 21), (true, 22)] mixed (by kernel_rfl) rfl (by kernel_rfl) (hB1.drew) ?_
      show wpM _ _ _ _ _ _ _ _ _
      refine mt rfl (fun w' hS => y_move rfl) rfl rfl ?_
      refine mt rfl (fun w' hS => y_not rfl) rfl rfl ?_
      refine mt rfl (fun w' hS => y_move rfl) rfl rfl ?_
      refine mno rfl rfl rfl rfl rfl ?_
      refine mno rfl rfl rfl rfl rfl ?_
      refine mno rfl rfl rfl rfl rfl ?_
      refine mno rfl rfl rfl rfl rfl ?_
      refine mno rfl rfl rfl rfl rfl ?_
      refine mt rfl (fun w' hS => y_pickT rfl rfl) rfl rfl ?_
      refine mt rfl (fun w' hS => y_move rfl) rfl rfl ?_
      refine mno rfl rfl rfl rfl rfl ?_
      refine mno rfl rfl rfl rfl rfl ?_
      refine mno rfl rfl rfl rfl rfl ?_
      refine mno rfl rfl rfl rfl rfl ?_
      refine mno rfl rfl rfl rfl rfl ?_
      refine mno rfl rfl rfl rfl rfl ?_
      refine mh rfl ?_
      refine sno rfl rfl rfl rfl ?_
      refine l_nil ?_
      refine mh_end (hB1.drew) ?_
      refine mh rfl ?_
      refine sno rfl rfl rfl rfl ?_
      refine l_nil ?_
      refine mh_end (hB1.drew) ?_
      refine mno rfl rfl rfl rfl rfl ?_
      refine mh rfl ?_
      refine snou rfl rfl rfl ?_
      refine l_nil ?_
      refine mh_end (hB1.drew) ?_
      refine mno rfl rfl rfl rfl rfl ?_
      refine mt rfl (fun w' hS => y_pickT rfl rfl) rfl rfl ?_
      refine mt rfl (fun w' hS => y_assign rfl) rfl rfl ?_
      refine m_nil ?_
      refine q_then ?_
      refine c_ret ?_
      refine q_end1 (.inl rfl) rfl rfl ?_
      exact ⟨_, rfl, rfl, hKd⟩

end Go.Proofs.YtmlamceblhhhpaaDoor

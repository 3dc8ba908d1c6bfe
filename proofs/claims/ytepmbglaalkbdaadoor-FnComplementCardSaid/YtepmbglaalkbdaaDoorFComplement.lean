/- The numbers below the length that are not in a set: impl.Complement and the statement's own walk. -/
import Derived.Test.YtepmbglaalkbdaaDoorT2
import Derived.Test.YtepmbglaalkbdaaDoorB2
set_option linter.unusedVariables false
set_option linter.unusedSimpArgs false
set_option maxRecDepth 100000
namespace Go.Proofs.YtepmbglaalkbdaaDoor
open Go Go.RowKit

theorem c_implComplement (L : Nat) (A : Option Addr) (n c : Nat) (xs : List Nat) (w : World) (hT : Tb w) (hR : Rd w A n xs) (ho : Ok L n xs) :
    Cal Tryd.prog 17 [aB L A n c] w fun v w' => ∃ A' c', v = aB (bnots (mkS L xs)).length A' (nums (bnots (mkS L xs))).length c' ∧ Ow w' w.heap.size 22 (.slice A' (nums (bnots (mkS L xs))).length c') ((nums (bnots (mkS L xs))).map vU) ∧ Keep w w' [] := by
  have hlen := ho.len
  have hbl : (bnots (mkS L xs)).length = (mkS L xs).length := by simp [bnots]
  have hT0 := hT.1
  refine go_in' Tryd.func17 rfl Tryd.ntmps17 (Nat.le_of_ble_eq_true rfl) ?_
  refine c_seq ?_
  refine c_region ?_
  refine st_box _ rfl rfl rfl ?_
  intro b1 w1 hb1 hB1 hK1 hS1
  refine st_alloc [.int .u64 0, .slice none 0 0] zv25 rfl rfl ?_
  intro b2 w2 hb2 hB2 hK2 hS2
  have hB1 := hB1.keep hK2 (by simp only [List.mem_cons, List.not_mem_nil, or_false, not_or, not_false_eq_true] <;> omega)
  have hK12 := hK1.trans hK2 (by simp)
  refine l_nil ?_
  refine q_then ?_
  refine c_seq ?_
  refine c_region ?_
  refine st (y_loadagg rfl agg25 us25 sz25 (by assumption) (by simp) (by rfl)) rfl ?_
  refine sc rfl rfl isfn27 (c_made L A n c xs _ (hR.keep hK12 (by simp)) (by have := ho.1; omega) (fun x h => by have := ho.2.2 x h; omega)) rfl ?_
  rintro _ w3 ⟨p, q, rfl, hp, hq, hS, hK3⟩
  have hB2 := hB2.keep hK3 (by simp only [List.mem_cons, List.not_mem_nil, or_false, not_or, not_false_eq_true] <;> omega)
  have hK13 := hK12.trans hK3 (by simp)
  refine st (y_move rfl) rfl ?_
  refine st (y_extract rfl rfl) rfl ?_
  refine st (y_extract rfl rfl) rfl ?_
  refine st (y_assign rfl) rfl ?_
  refine st (y_assign rfl) rfl ?_
  refine l_nil ?_
  refine q_then ?_
  refine c_seq ?_
  refine c_seq ?_
  refine c_region ?_
  refine st (y_move rfl) rfl ?_
  refine st (y_not rfl) rfl ?_
  refine l_nil ?_
  refine q_then ?_
  refine c_false rfl rfl ?_
  refine c_skip ?_
  refine q_then ?_
  refine c_seq ?_
  refine c_region ?_
  refine st (y_move rfl) rfl ?_
  refine sc rfl rfl isfn33 (c_Complement p q _ _ hS (by omega)) rfl ?_
  rintro _ w4 ⟨p4, q4, rfl, hp4, hq4, hS4, hK4⟩
  have hB2 := hB2.keep hK4 (by simp only [List.mem_cons, List.not_mem_nil, or_false, not_or, not_false_eq_true] <;> omega)
  have hK14 := hK13.trans hK4 (by simp)
  refine sc rfl rfl isfn28 (c_told p4 q4 _ _ (hT.keep hK14 (by simp)) hS4 (by omega)) rfl ?_
  rintro _ w5 ⟨A5, c5, rfl, hO5, hK5⟩
  have hB2 := hB2.keep hK5 (by simp only [List.mem_cons, List.not_mem_nil, or_false, not_or, not_false_eq_true] <;> omega)
  have hK15 := hK14.trans hK5 (by simp)
  refine st_storeagg rfl rfl (by simp [Value.oneCell']) sz25 rfl (by assumption) (by simp) rfl ?_
  intro w6 hB6 hK6 hS6
  refine l_nil ?_
  refine q_then ?_
  refine c_ret ?_
  refine q_endc (.inl rfl) rfl rfl agg25 us25 sz25 (by assumption) (by rfl) ?_
  have hsz3 := hK3.size
  have hsz4 := hK4.size
  exact ⟨_, rfl, A5, c5, rfl, (hO5.keep hK6 (fun i hi => by simp only [List.mem_singleton] at hi; left; omega)).base (by omega), hK15.trans hK6 (fun i hi => by simp only [List.mem_singleton] at hi; exact .inr (by omega))⟩

theorem c_FnComplement (L : Nat) (A : Option Addr) (n c : Nat) (xs : List Nat) (w : World) (hT : Tb w) (hR : Rd w A n xs) :
    Cal Tryd.prog 5 [aB L A n c] w fun v w' => v = vB true ∧ Keep w w' [] := by
  have hT0 := hT.1
  refine go_in' Tryd.func5 rfl Tryd.ntmps5 (Nat.le_of_ble_eq_true rfl) ?_
  refine c_seq ?_
  refine c_region ?_
  refine st_box _ rfl rfl rfl ?_
  intro b1 w1 hb1 hB1 hK1 hS1
  refine st (y_assign rfl) rfl ?_
  refine l_nil ?_
  refine q_then ?_
  refine c_seq ?_
  refine c_seq ?_
  refine c_region ?_
  refine st (y_loadagg rfl agg25 us25 sz25 (by assumption) (by simp) (by rfl)) rfl ?_
  refine sc rfl rfl isfn9 (c_zzFits1 L A n c _) rfl ?_
  rintro _ w2 ⟨rfl, hK2⟩
  have hB1 := hB1.keep hK2 (by simp only [List.mem_cons, List.not_mem_nil, or_false, not_or, not_false_eq_true] <;> omega)
  have hK := hK1.trans hK2 (by simp)
  clear hK1 hK2
  refine st (y_not rfl) rfl ?_
  refine l_nil ?_
  refine q_then ?_
  refine c_ifb rfl (fun hz => ?_) (fun hz => ?_)
  · refine c_seq ?_
    refine c_region ?_
    refine st (y_assign rfl) rfl ?_
    refine l_nil ?_
    refine q_then ?_
    refine c_ret ?_
    refine q_then_ret ?_
    refine q_end1 (.inl rfl) rfl rfl ?_
    exact ⟨_, rfl, rfl, hK⟩
  ·
    refine c_skip ?_
    refine q_then ?_
    refine c_seq ?_
    refine c_region ?_
    refine st (y_loadagg rfl agg25 us25 sz25 (by assumption) (by simp) (by rfl)) rfl ?_
    refine sc rfl rfl isfn10 (c_set L A n c xs _ (hR.keep hK (by simp))) rfl ?_
    rintro _ w3 ⟨hK3, ⟨ho, b, rfl, hBl, hb⟩ | rfl⟩
    · have hB1 := hB1.keep hK3 (by simp only [List.mem_cons, List.not_mem_nil, or_false, not_or, not_false_eq_true] <;> omega)
      have hK' := hK.trans hK3 (by simp)
      have hlen := ho.len
      clear hK hK3
      refine st (y_move rfl) rfl ?_
      refine st (y_extract rfl rfl) rfl ?_
      refine st (y_extract rfl rfl) rfl ?_
      refine st (y_assign rfl) rfl ?_
      refine st (y_assign rfl) rfl ?_
      refine l_nil ?_
      refine q_then ?_
      refine c_seq ?_
      refine c_seq ?_
      refine c_region ?_
      refine st (y_move rfl) rfl ?_
      refine st (y_not rfl) rfl ?_
      refine l_nil ?_
      refine q_then ?_
      refine c_false rfl rfl ?_
      refine c_skip ?_
      refine q_then ?_
      refine c_seq ?_
      refine c_region ?_
      refine st_buildSlice0 Tryd.underlying28 sz4 rfl ?_
      intro b4 w4 hb4 hB4 hK4 hS4
      unfold Bl at hBl
      refine st (y_assign rfl) rfl ?_
      refine l_nil ?_
      refine q_then ?_
      refine c_seq ?_
      refine c_seq ?_
      refine c_region ?_
      refine st (y_move rfl) rfl ?_
      refine st (y_len rfl Tryd.underlying28) rfl ?_
      refine st (y_move (v := vI ((0 : Nat) : Int)) rfl) rfl ?_
      refine l_nil ?_
      refine q_then ?_
      refine c_block ?_
      refine c_loop (fun x : Nat × Value => [(1, vP b1), (5, x.2), (19, vS b (mkS L xs).length (mkS L xs).length), (20, vI ((mkS L xs).length : Nat)), (21, vI (x.1 : Nat))]) (fun x w' => x.1 ≤ (mkS L xs).length ∧ Ow w' b4 4 x.2 ((bnots ((mkS L xs).take x.1)).map vB) ∧ Keep w3 w' []) (fun x => (mkS L xs).length - x.1) (0, vS b4 0 0) ?_ ?_ ?_
      · exact ⟨rfl, rfl, rfl, rfl, rfl, trivial⟩
      · exact ⟨Nat.zero_le _, Ow.empty hB4 (Nat.le_refl _), hK4⟩
      · rintro ⟨k, v⟩ w5 ⟨hk, hO5, hK5⟩
        simp only at hk hO5 hK5 ⊢
        have hB5 := hBl.keep hK5 (by simp)
        have hB15 := hB1.keep hK5 (by simp)
        refine c_seq ?_
        refine c_region ?_
        refine st_if (y_lt_i rfl rfl) rfl (fun hlt => ?_) (fun hlt => ?_)
        · have hkn : k < (mkS L xs).length := by omega
          have hstep : bnots ((mkS L xs).take (k + 1)) = bnots ((mkS L xs).take k) ++ [!(mkS L xs).getD k false] := by
            unfold bnots; rw [take_succ_getDB _ k hkn, List.map_append]; rfl
          have hbl : (bnots ((mkS L xs).take k)).length ≤ 3001 := by simp [bnots]; omega
          have hsz5 := hK5.size
          refine l_nil ?_
          refine q_then ?_
          refine c_seq ?_
          refine c_true rfl rfl ?_
          refine c_skip ?_
          refine q_then ?_
          refine c_seq ?_
          refine c_block ?_
          refine c_seq ?_
          refine c_region ?_
          first | refine st (y_index0 rfl rfl Tryd.underlying28 sz4 (by omega)) rfl ?_ | refine st (y_index rfl rfl Tryd.underlying28 sz4 (by omega)) rfl ?_ | refine st (y_indexA rfl rfl Tryd.underlying28 sz4 (by omega)) rfl ?_
          first | refine st (y_loadM (false) rfl one4 (by assumption) (by first | omega | (simp only [List.length_append, List.length_map, List.length_replicate, List.length_set, List.length_take, List.length_drop]; omega) | (simp; done))) rfl ?_ | refine st (y_load rfl one4 (by assumption)) rfl ?_
          refine st (y_assign rfl) rfl ?_
          refine l_nil ?_
          refine q_then ?_
          refine c_region ?_
          refine st (y_move rfl) rfl ?_
          refine st (y_move rfl) rfl ?_
          refine st (y_not rfl) rfl ?_
          refine st_buildSlice [vB (!(mkS L xs).getD k false)] Tryd.underlying28 sz4 zv4 rfl (by decide) (by decide) (by kernel_rfl) rfl ?_
          intro b6 w6 hb6 hB6 hK6 hS6
          have hO6 := hO5.keep hK6 (by simp)
          obtain ⟨i4, hi1, hi2, hi3, hi4⟩ := info_parts inf4
          refine st_append1 rfl rfl Tryd.underlying28 hi1 hi2 hi3 (by omega) rfl rfl (by assumption) (by assumption) (by first | omega | (simp only [List.length_map]; omega)) (by omega) rfl ?_
          clear hi1 hi2 hi3 hi4
          intro v7 w7 L7 hO7 hK7 hL7
          refine st (y_assign rfl) rfl ?_
          refine l_nil ?_
          refine q_block ?_
          refine q_then ?_
          refine c_region ?_
          first | refine st (y_add_in (b := 1) rfl rfl (by omega)) rfl ?_ | refine st (y_add_i (b := 1) rfl rfl (by omega) (by omega)) rfl ?_
          refine st (y_move rfl) rfl ?_
          refine l_nil ?_
          refine q_round (k + 1, v7) ⟨rfl, rfl, rfl, rfl, rfl, trivial⟩ ⟨by simp only; omega, ?_, ?_⟩ (by simp only; omega)
          · simp only
            rw [hstep, List.map_append]
            exact hO7
          · exact (hK5.trans hK6 (by simp)).trans hK7 (fun i hi => .inr (by have := hL7 i hi; omega))
        ·
          have hkn : k = (mkS L xs).length := by omega
          rw [hkn, List.take_length] at hO5
          obtain ⟨Av, cv, rfl⟩ := hO5.form
          rw [List.length_map] at hO5 ⊢
          have hrb := hO5.rdB.2
          have hK15 := hK'.trans hK5 (by simp)
          refine l_nil ?_
          refine q_then ?_
          refine c_seq ?_
          refine c_false rfl rfl ?_
          refine c_exit ?_
          refine q_then_exit ?_
          refine q_then_exit ?_
          refine q_block_hit ?_
          refine q_then ?_
          refine c_seq ?_
          refine c_region ?_
          refine st (y_loadagg rfl agg25 us25 sz25 (by assumption) (by simp) (by rfl)) rfl ?_
          refine sc rfl rfl isfn17 (c_implComplement L A n c xs _ (hT.keep hK15 (by simp)) (hR.keep hK15 (by simp)) ho) rfl ?_
          rintro _ w8 ⟨A8, c8, rfl, hO8, hK8⟩
          have hK18 := hK15.trans hK8 (by simp)
          refine st (y_move rfl) rfl ?_
          refine sc rfl rfl isfn11 (c_exactly _ _ _ _ _ _ _ _ _ _ hO8.rd' (hrb.keep hK8 (by simp)) (by simp [bnots]; omega) rfl rfl) rfl ?_
          rintro _ w9 ⟨rfl, hK9⟩
          have hK19 := hK18.trans hK9 (by simp)
          refine st (y_move rfl) rfl ?_
          refine scg rfl rfl rfl rfl isfn13 (c_alive _ (hT.keep hK19 (by simp))) rfl ?_
          rintro _ w10 ⟨rfl, hK10⟩
          refine st (y_pickT rfl rfl) rfl ?_
          refine st (y_assign rfl) rfl ?_
          refine l_nil ?_
          refine q_then ?_
          refine c_ret ?_
          refine q_end1 (.inl rfl) rfl rfl ?_
          exact ⟨_, rfl, rfl, hK19.trans hK10 (by simp)⟩
    ·
      refine st (y_move rfl) rfl ?_
      refine st (y_extract rfl rfl) rfl ?_
      refine st (y_extract rfl rfl) rfl ?_
      refine st (y_assign rfl) rfl ?_
      refine st (y_assign rfl) rfl ?_
      refine l_nil ?_
      refine q_then ?_
      refine c_seq ?_
      refine c_seq ?_
      refine c_region ?_
      refine st (y_move rfl) rfl ?_
      refine st (y_not rfl) rfl ?_
      refine l_nil ?_
      refine q_then ?_
      refine c_true rfl rfl ?_
      refine c_seq ?_
      refine c_region ?_
      refine st (y_assign rfl) rfl ?_
      refine l_nil ?_
      refine q_then ?_
      refine c_ret ?_
      refine q_then_ret ?_
      refine q_end1 (.inl rfl) rfl rfl ?_
      exact ⟨_, rfl, rfl, hK.trans hK3 (by simp)⟩

end Go.Proofs.YtepmbglaalkbdaaDoor

/- How many numbers are not above one: Rank, impl.Rank, the reference's Between and the statement's own walk. -/
import Derived.Test.YtlhbbndedbacpaaC1
import Derived.Test.YtlhbbndedbacpaaL6
set_option linter.unusedVariables false
set_option linter.unusedSimpArgs false
set_option maxRecDepth 100000
namespace Go.Proofs.Ytlhbbndedbacpaa
open Go Go.RowKit

theorem c_Between (b : Nat) (s : List Bool) (i j : Nat) (w : World) (hB : Bl w b s) (hs : s.length ≤ 1000000) (hi : i ≤ 1000000) (hj : j ≤ 1000000) :
    Cal Try.prog 19 [vS b s.length s.length, vI (i : Nat), vI (j : Nat)] w fun v w' => v = vU (btw s i j) ∧ w = w' := by
  unfold Bl at hB
  refine go_in' Try.func19 rfl Try.ntmps19 (Nat.le_of_ble_eq_true rfl) ?_
  refine c_seq ?_
  refine c_region ?_
  refine st (y_assign rfl) rfl ?_
  refine l_nil ?_
  refine q_then ?_
  refine c_seq ?_
  refine c_region ?_
  refine st (y_assign rfl) rfl ?_
  refine l_nil ?_
  refine q_then ?_
  refine c_seq ?_
  refine c_seq ?_
  refine c_region ?_
  refine st (y_move rfl) rfl ?_
  refine st (y_assign rfl) rfl ?_
  refine l_nil ?_
  refine q_then ?_
  refine c_block ?_
  refine c_loop (fun k : Nat => [(0, vS b s.length s.length), (2, vI (j : Nat)), (7, vU (btw s i k)), (8, vI (k : Nat))]) (fun k w' => i ≤ k ∧ k ≤ i + j ∧ (k ≤ i ∨ k ≤ min j s.length) ∧ w = w') (fun k => i + j - k) i ?_ ?_ ?_
  · exact ⟨rfl, rfl, by rw [btw_zero s i i (Nat.le_refl _)]; rfl, rfl, trivial⟩
  · exact ⟨Nat.le_refl _, by omega, .inl (Nat.le_refl _), rfl⟩
  · rintro k w1 ⟨hik, hkj, hor, rfl⟩
    have hbt := btw_le s i k
    have hbs := btw_succ s i k hik
    refine c_seq ?_
    refine c_seq ?_
    refine c_region ?_
    refine st (y_move rfl) rfl ?_
    refine st (y_move rfl) rfl ?_
    refine st_if (y_lt_i rfl rfl) rfl (fun h1 => ?_) (fun h1 => ?_)
    · refine st (y_move rfl) rfl ?_
      refine stg rfl rfl (y_move rfl) rfl ?_
      refine stg rfl rfl (y_move rfl) rfl ?_
      refine stg rfl rfl (y_len rfl Try.underlying28) rfl ?_
      refine stg_if rfl rfl (y_lt_i rfl rfl) rfl (fun h2 => ?_) (fun h2 => ?_)
      · refine st (y_pickT rfl rfl) rfl ?_
        refine l_nil ?_
        refine q_then ?_
        refine c_true rfl rfl ?_
        refine c_skip ?_
        refine q_then ?_
        refine c_seq ?_
        refine c_block ?_
        refine c_seq ?_
        refine c_region ?_
        refine st (y_move rfl) rfl ?_
        refine st (y_move rfl) rfl ?_
        first | refine st (y_index0 rfl rfl Try.underlying28 sz4 (by omega)) rfl ?_ | refine st (y_index rfl rfl Try.underlying28 sz4 (by omega)) rfl ?_ | refine st (y_indexA rfl rfl Try.underlying28 sz4 (by omega)) rfl ?_
        first | refine st (y_loadM (false) rfl one4 (by assumption) (by first | omega | (simp only [List.length_append, List.length_map, List.length_replicate, List.length_set, List.length_take, List.length_drop]; omega))) rfl ?_ | refine st (y_load rfl one4 (by assumption)) rfl ?_
        refine l_nil ?_
        refine q_then ?_
        refine c_ifb rfl (fun hb => ?_) (fun hb => ?_)
        · refine c_region ?_
          refine st (y_move rfl) rfl ?_
          refine st (y_add_u (b := 1) rfl rfl (by omega)) rfl ?_
          refine st (y_assign rfl) rfl ?_
          refine l_nil ?_
          refine q_block ?_
          refine q_then ?_
          refine c_region ?_
          refine st (y_move rfl) rfl ?_
          first | refine st (y_add_in (b := 1) rfl rfl (by omega)) rfl ?_ | refine st (y_add_i (b := 1) rfl rfl (by omega) (by omega)) rfl ?_
          refine st (y_assign rfl) rfl ?_
          refine l_nil ?_
          rw [if_pos hb] at hbs
          refine q_round (k + 1) ⟨rfl, rfl, ?_, rfl, trivial⟩ ⟨by omega, by omega, .inr (by omega), rfl⟩ (by omega)
          rw [hbs]; rfl
        ·
          refine c_skip ?_
          refine q_block ?_
          refine q_then ?_
          refine c_region ?_
          refine st (y_move rfl) rfl ?_
          first | refine st (y_add_in (b := 1) rfl rfl (by omega)) rfl ?_ | refine st (y_add_i (b := 1) rfl rfl (by omega) (by omega)) rfl ?_
          refine st (y_assign rfl) rfl ?_
          refine l_nil ?_
          rw [hb] at hbs
          refine q_round (k + 1) ⟨rfl, rfl, ?_, rfl, trivial⟩ ⟨by omega, by omega, .inr (by omega), rfl⟩ (by omega)
          rw [hbs]; rfl
      ·
        refine st (y_pickT rfl rfl) rfl ?_
        refine l_nil ?_
        refine q_then ?_
        refine c_false rfl rfl ?_
        refine c_exit ?_
        refine q_then_exit ?_
        refine q_then_exit ?_
        refine q_block_hit ?_
        refine q_then ?_
        refine c_seq ?_
        refine c_region ?_
        refine st (y_move rfl) rfl ?_
        refine st (y_assign rfl) rfl ?_
        refine l_nil ?_
        refine q_then ?_
        refine c_ret ?_
        refine q_end1 (.inl rfl) rfl rfl ?_
        refine ⟨_, rfl, ?_, rfl⟩
        rw [← btw_min s i j, ← btw_min s i k]
        rcases hor with h | h
        · have e : k = i := by omega
          subst e
          rw [btw_zero _ _ _ (by omega)]
          rcases Nat.le_total k (min j s.length) with h3 | h3
          · rw [btw_split s k s.length (min j s.length) (by omega) (by omega)]
            rw [btw_zero s k s.length (by omega), btw_zero _ _ _ (by omega)]
          · rw [btw_zero _ _ _ h3]
        · have e : min k s.length = min j s.length := by omega
          rw [e]
    ·
      refine st (y_move rfl) rfl ?_
      refine sno rfl rfl rfl rfl ?_
      refine sno rfl rfl rfl rfl ?_
      refine sno rfl rfl rfl rfl ?_
      refine sno rfl rfl rfl rfl ?_
      refine st (y_pickF rfl rfl) rfl ?_
      refine l_nil ?_
      refine q_then ?_
      refine c_false rfl rfl ?_
      refine c_exit ?_
      refine q_then_exit ?_
      refine q_then_exit ?_
      refine q_block_hit ?_
      refine q_then ?_
      refine c_seq ?_
      refine c_region ?_
      refine st (y_move rfl) rfl ?_
      refine st (y_assign rfl) rfl ?_
      refine l_nil ?_
      refine q_then ?_
      refine c_ret ?_
      refine q_end1 (.inl rfl) rfl rfl ?_
      refine ⟨_, rfl, ?_, rfl⟩
      rcases Nat.le_total j i with h | h
      · rw [btw_zero s i j h]
        rcases hor with h3 | h3
        · rw [btw_zero s i k h3]
        · rw [btw_zero s i k (by omega)]
      · have e : k = j := by omega
        rw [e]

theorem c_Rank (p q : Nat) (s : List Bool) (i : Nat) (w : World) (hB : BSet w p q s) (hi : i ≤ 100000) (hs : s.length ≤ 100001) :
    Cal Try.prog 39 [vP p, vU i] w fun v w' => v = vU (btw s 0 (i + 1)) ∧ w = w' := by
  obtain ⟨tl, hB⟩ := hB
  have hst := hB.st
  have hwd := hB.wd
  have hlen := pack_length s
  have hdiv := shr6 i
  have hmod : i &&& 63 = i % 64 := and63 i
  have hn : nW s.length ≤ 2000 := by unfold nW; omega
  have hg : ∀ j, j < (pack s).length → (pack s ++ tl).getD j 0 = (pack s).getD j 0 := fun j hj => by
    rw [List.getD_eq_getElem?_getD, List.getElem?_append_left hj, ← List.getD_eq_getElem?_getD]
  obtain ⟨x, hx⟩ : ∃ x, min (i / 64) (pack s).length = x := ⟨_, rfl⟩
  refine go_in' Try.func39 rfl Try.ntmps39 (Nat.le_of_ble_eq_true rfl) ?_
  refine c_seq ?_
  refine c_region ?_
  refine st (y_assign rfl) rfl ?_
  refine l_nil ?_
  refine q_then ?_
  refine c_seq ?_
  refine c_region ?_
  refine st (y_move rfl) rfl ?_
  refine st (y_nil rfl) rfl ?_
  refine st (fa93_1 rfl) rfl ?_
  refine st (y_loadb rfl one69 (by assumption) (by rfl)) rfl ?_
  refine st (y_len rfl Try.underlying69) rfl ?_
  refine st (y_assign rfl) rfl ?_
  refine l_nil ?_
  refine q_then ?_
  refine c_seq ?_
  refine c_region ?_
  refine st (y_move rfl) rfl ?_
  refine st (y_shr (k := 6) rfl rfl (by first | omega | assumption | (repeat (first | assumption | omega | decide | exact shl_lt64 _ _ | apply and_lt64 | apply or_lt64 | apply xor_lt64 | apply nt_lt | apply shr_lt64 | apply getD_lt64)))) rfl ?_
  refine st (y_conv_ui rfl us22 Try.underlying3 (by omega)) rfl ?_
  refine st (y_assign rfl) rfl ?_
  refine l_nil ?_
  refine q_then ?_
  refine c_cut (fun _ : Unit => [(0, vP p), (1, vU i), (4, vU 0), (5, vI ((pack s).length : Nat)), (6, vI (x : Nat))]) (fun _ w' => w = w') ?_ ?_
  · refine c_seq ?_
    refine c_region ?_
    refine st (y_move rfl) rfl ?_
    refine st (y_move rfl) rfl ?_
    refine st_if (y_gt_i rfl rfl) rfl (fun h1 => ?_) (fun h1 => ?_)
    · refine l_nil ?_
      refine q_then ?_
      refine c_true rfl rfl ?_
      refine c_region ?_
      refine st (y_move rfl) rfl ?_
      refine st (y_assign rfl) rfl ?_
      refine l_nil ?_
      refine q_meet () ⟨rfl, rfl, rfl, rfl, ?_, trivial⟩ rfl
      have e : x = (pack s).length := by omega
      rw [e]; rfl
    ·
      refine l_nil ?_
      refine q_then ?_
      refine c_false rfl rfl ?_
      refine c_skip ?_
      refine q_meet () ⟨rfl, rfl, rfl, rfl, ?_, trivial⟩ rfl
      have e : x = i >>> 6 := by omega
      rw [e]; rfl
  ·
    rintro _ w' rfl
    refine c_seq ?_
    refine c_seq ?_
    refine c_region ?_
    refine st (y_assign rfl) rfl ?_
    refine l_nil ?_
    refine q_then ?_
    refine c_block ?_
    refine c_loop (fun k : Nat => [(0, vP p), (1, vU i), (4, vU (psum ((pack s).take k))), (5, vI ((pack s).length : Nat)), (6, vI (x : Nat)), (7, vI (k : Nat))]) (fun k w' => k ≤ x ∧ w = w') (fun k => x - k) 0 ?_ ?_ ?_
    · exact ⟨rfl, rfl, rfl, rfl, rfl, rfl, trivial⟩
    · exact ⟨Nat.zero_le _, rfl⟩
    · rintro k w1 ⟨hk, rfl⟩
      have hps := psum_le ((pack s).take k)
      have htl : ((pack s).take k).length ≤ 2000 := by simp; omega
      refine c_seq ?_
      refine c_seq ?_
      refine c_region ?_
      refine st (y_move rfl) rfl ?_
      refine st (y_move rfl) rfl ?_
      refine st_if (y_lt_i rfl rfl) rfl (fun hlt => ?_) (fun hlt => ?_)
      · have e1 := hg k (by omega)
        have hl1 := pack_getD_lt s k
        have hp1 := popc_le ((pack s).getD k 0)
        have esn := take_succ_getD (pack s) k (by omega)
        refine l_nil ?_
        refine q_then ?_
        refine c_true rfl rfl ?_
        refine c_skip ?_
        refine q_then ?_
        refine c_seq ?_
        refine c_block ?_
        refine c_seq ?_
        refine c_region ?_
        refine st (y_move rfl) rfl ?_
        refine st (y_nil rfl) rfl ?_
        refine st (fa93_1 rfl) rfl ?_
        refine st (y_loadb rfl one69 (by assumption) (by rfl)) rfl ?_
        refine st (y_move rfl) rfl ?_
        first | refine st (y_index0 rfl rfl Try.underlying69 sz34 (by omega)) rfl ?_ | refine st (y_index rfl rfl Try.underlying69 sz34 (by omega)) rfl ?_ | refine st (y_indexA rfl rfl Try.underlying69 sz34 (by omega)) rfl ?_
        first | refine st (y_loadM (0) rfl one34 (by assumption) (by first | omega | (simp only [List.length_append, List.length_map, List.length_replicate, List.length_set, List.length_take, List.length_drop]; omega))) rfl ?_ | refine st (y_load rfl one34 (by assumption)) rfl ?_
        refine st (y_assign rfl) rfl ?_
        refine l_nil ?_
        refine q_then ?_
        refine c_seq ?_
        refine c_region ?_
        refine st (y_move rfl) rfl ?_
        rw [e1]
        refine st_if (y_ne_u (b := 0) rfl rfl) rfl (fun h0 => ?_) (fun h0 => ?_)
        · refine l_nil ?_
          refine q_then ?_
          refine c_true rfl rfl ?_
          refine c_region ?_
          refine st (y_move rfl) rfl ?_
          refine st (y_move rfl) rfl ?_
          refine sc rfl rfl isfn63 (c_OnesCount64 _ hl1 _) rfl ?_
          rintro _ _ ⟨rfl, rfl⟩
          refine st (y_conv_iu rfl us3 Try.underlying22 rfl (by omega)) rfl ?_
          refine st (y_add_u rfl rfl (by omega)) rfl ?_
          refine st (y_assign rfl) rfl ?_
          refine l_nil ?_
          refine q_block ?_
          refine q_then ?_
          refine c_region ?_
          refine st (y_move rfl) rfl ?_
          first | refine st (y_add_in (b := 1) rfl rfl (by omega)) rfl ?_ | refine st (y_add_i (b := 1) rfl rfl (by omega) (by omega)) rfl ?_
          refine st (y_assign rfl) rfl ?_
          refine l_nil ?_
          refine q_round (k + 1) ⟨rfl, rfl, ?_, rfl, rfl, rfl, trivial⟩ ⟨by omega, rfl⟩ (by omega)
          rw [esn, psum_snoc]; rfl
        ·
          refine l_nil ?_
          refine q_then ?_
          refine c_false rfl rfl ?_
          refine c_skip ?_
          refine q_block ?_
          refine q_then ?_
          refine c_region ?_
          refine st (y_move rfl) rfl ?_
          first | refine st (y_add_in (b := 1) rfl rfl (by omega)) rfl ?_ | refine st (y_add_i (b := 1) rfl rfl (by omega) (by omega)) rfl ?_
          refine st (y_assign rfl) rfl ?_
          refine l_nil ?_
          refine q_round (k + 1) ⟨rfl, rfl, ?_, rfl, rfl, rfl, trivial⟩ ⟨by omega, rfl⟩ (by omega)
          have h00 : (pack s).getD k 0 = 0 := by omega
          rw [esn, psum_snoc, h00, popc_zero]; rfl
      ·
        have hkx : k = x := by omega
        subst hkx
        refine l_nil ?_
        refine q_then ?_
        refine c_false rfl rfl ?_
        refine c_exit ?_
        refine q_then_exit ?_
        refine q_then_exit ?_
        refine q_block_hit ?_
        refine q_then ?_
        refine c_seq ?_
        refine c_seq ?_
        refine c_region ?_
        refine st (y_move rfl) rfl ?_
        refine st (y_move rfl) rfl ?_
        refine st_if (y_lt_i rfl rfl) rfl (fun h1 => ?_) (fun h1 => ?_)
        · have hj : i / 64 < (pack s).length := by omega
          have hxe : k = i / 64 := by omega
          subst hxe
          have e1 := hg (i / 64) hj
          have hl1 := wordAt_lt s (i / 64)
          rw [pack_getD] at e1
          have fin := rank_eq s i (by omega)
          have hp1 := popc_le ((wordAt s (i / 64) <<< (63 - i % 64)) % 18446744073709551616)
          have hmm : i &&& 63 ≤ 63 := by rw [hmod]; omega
          refine l_nil ?_
          refine q_then ?_
          refine c_true rfl rfl ?_
          refine c_region ?_
          refine st (y_move rfl) rfl ?_
          refine st (y_move rfl) rfl ?_
          refine st (y_nil rfl) rfl ?_
          refine st (fa93_1 rfl) rfl ?_
          refine st (y_loadb rfl one69 (by assumption) (by rfl)) rfl ?_
          refine st (y_move rfl) rfl ?_
          first | refine st (y_index0 rfl rfl Try.underlying69 sz34 (by omega)) rfl ?_ | refine st (y_index rfl rfl Try.underlying69 sz34 (by omega)) rfl ?_ | refine st (y_indexA rfl rfl Try.underlying69 sz34 (by omega)) rfl ?_
          first | refine st (y_loadM (0) rfl one34 (by assumption) (by first | omega | (simp only [List.length_append, List.length_map, List.length_replicate, List.length_set, List.length_take, List.length_drop]; omega))) rfl ?_ | refine st (y_load rfl one34 (by assumption)) rfl ?_
          refine st (y_move rfl) rfl ?_
          refine st (y_and (b := 63) rfl rfl (by first | omega | assumption | (repeat (first | assumption | omega | decide | exact shl_lt64 _ _ | apply and_lt64 | apply or_lt64 | apply xor_lt64 | apply nt_lt | apply shr_lt64 | apply getD_lt64))) (by first | omega | assumption | (repeat (first | assumption | omega | decide | exact shl_lt64 _ _ | apply and_lt64 | apply or_lt64 | apply xor_lt64 | apply nt_lt | apply shr_lt64 | apply getD_lt64)))) rfl ?_
          refine st (y_sub_u (a := 63) rfl rfl (by omega) (by omega)) rfl ?_
          refine st (y_shl rfl rfl) rfl ?_
          rw [e1, hmod]
          refine sc rfl rfl isfn63 (c_OnesCount64 _ (shl_lt64 _ _) _) rfl ?_
          rintro _ _ ⟨rfl, rfl⟩
          refine st (y_conv_iu rfl us3 Try.underlying22 rfl (by omega)) rfl ?_
          refine st (y_add_u rfl rfl (by omega)) rfl ?_
          refine st (y_assign rfl) rfl ?_
          refine l_nil ?_
          refine q_then ?_
          refine c_ret ?_
          refine q_end1 (.inl rfl) rfl rfl ?_
          exact ⟨_, rfl, by rw [fin], rfl⟩
        ·
          have hxe : k = (pack s).length := by omega
          refine l_nil ?_
          refine q_then ?_
          refine c_false rfl rfl ?_
          refine c_skip ?_
          refine q_then ?_
          refine c_ret ?_
          refine q_end1 (.inl rfl) rfl rfl ?_
          exact ⟨_, rfl, by rw [hxe, List.take_length, rank_past s i (by omega)], rfl⟩

theorem c_implRank (L : Nat) (A : Option Addr) (n c : Nat) (xs : List Nat) (i : Nat) (w : World) (hR : Rd w A n xs) (ho : Ok L n xs) (hi : i ≤ 3000) :
    Cal Try.prog 18 [aB L A n c, vU i] w fun v w' => v = vU (btw (mkS L xs) 0 (i + 1)) ∧ Keep w w' [] := by
  have hlen := ho.len
  refine go_in' Try.func18 rfl Try.ntmps18 (Nat.le_of_ble_eq_true rfl) ?_
  refine c_seq ?_
  refine c_region ?_
  refine st_box _ rfl rfl rfl ?_
  intro b1 w1 hb1 hB1 hK1 hS1
  refine st (y_assign rfl) rfl ?_
  refine l_nil ?_
  refine q_then ?_
  refine c_seq ?_
  refine c_region ?_
  refine st (y_loadagg rfl agg25 us25 sz25 (by assumption) (by simp) (by rfl)) rfl ?_
  refine sc rfl rfl isfn36 (c_made L A n c xs _ (hR.keep hK1 (by simp)) (by have := ho.1; omega) (fun x h => by have := ho.2.2 x h; omega)) rfl ?_
  rintro _ w2 ⟨p, q, rfl, hp, hq, hB, hK2⟩
  have hK := hK1.trans hK2 (by simp)
  refine st (y_move rfl) rfl ?_
  refine st (y_extract rfl rfl) rfl ?_
  refine st (y_extract rfl rfl) rfl ?_
  refine st (y_assign rfl) rfl ?_
  refine st (y_assign rfl) rfl ?_
  refine l_nil ?_
  refine q_then ?_
  refine c_seq ?_
  refine c_seq ?_
  refine c_region ?_
  refine st (y_move rfl) rfl ?_
  refine st (y_not rfl) rfl ?_
  refine st (y_move rfl) rfl ?_
  refine stg rfl rfl (y_move rfl) rfl ?_
  refine stg_f rfl rfl (y_gt_u (b := 6000) rfl rfl) (by omega) rfl ?_
  refine st (y_pickF rfl rfl) rfl ?_
  refine l_nil ?_
  refine q_then ?_
  refine c_false rfl rfl ?_
  refine c_skip ?_
  refine q_then ?_
  refine c_seq ?_
  refine c_region ?_
  refine st (y_move rfl) rfl ?_
  refine st (y_move rfl) rfl ?_
  refine sc rfl rfl isfn39 (c_Rank p q _ i _ hB (by omega) (by omega)) rfl ?_
  rintro _ w3 ⟨rfl, rfl⟩
  refine st (y_assign rfl) rfl ?_
  refine l_nil ?_
  refine q_then ?_
  refine c_ret ?_
  refine q_end1 (.inl rfl) rfl rfl ?_
  exact ⟨_, rfl, rfl, hK⟩

theorem c_FnRank (L : Nat) (A : Option Addr) (n c : Nat) (xs : List Nat) (i : Nat) (w : World) (hR : Rd w A n xs) (hi : i < 18446744073709551616) :
    Cal Try.prog 5 [aB L A n c, vU i] w fun v w' => v = vB true ∧ Keep w w' [] := by
  refine go_in' Try.func5 rfl Try.ntmps5 (Nat.le_of_ble_eq_true rfl) ?_
  refine c_seq ?_
  refine c_region ?_
  refine st_box _ rfl rfl rfl ?_
  intro b1 w1 hb1 hB1 hK1 hS1
  refine st (y_assign rfl) rfl ?_
  refine l_nil ?_
  refine q_then ?_
  refine c_seq ?_
  refine c_seq ?_
  refine c_region ?_
  refine st (y_loadagg rfl agg25 us25 sz25 (by assumption) (by simp) (by rfl)) rfl ?_
  refine sc rfl rfl isfn12 (c_zzFits1 L A n c _) rfl ?_
  rintro _ w2 ⟨rfl, hK2⟩
  have hB1 := hB1.keep hK2 (by simp only [List.mem_cons, List.not_mem_nil, or_false, not_or, not_false_eq_true] <;> omega)
  have hK := hK1.trans hK2 (by simp)
  clear hK1 hK2
  refine st (y_not rfl) rfl ?_
  refine l_nil ?_
  refine q_then ?_
  refine c_ifb rfl (fun hz => ?_) (fun hz => ?_)
  · refine c_seq ?_
    refine c_region ?_
    refine st (y_assign rfl) rfl ?_
    refine l_nil ?_
    refine q_then ?_
    refine c_ret ?_
    refine q_then_ret ?_
    refine q_end1 (.inl rfl) rfl rfl ?_
    exact ⟨_, rfl, rfl, hK⟩
  ·
    refine c_skip ?_
    refine q_then ?_
    refine c_seq ?_
    refine c_region ?_
    refine st (y_loadagg rfl agg25 us25 sz25 (by assumption) (by simp) (by rfl)) rfl ?_
    refine sc rfl rfl isfn13 (c_set L A n c xs _ (hR.keep hK (by simp))) rfl ?_
    rintro _ w3 ⟨hK3, ⟨ho, b, rfl, hBl, hb⟩ | rfl⟩
    · have hB1 := hB1.keep hK3 (by simp only [List.mem_cons, List.not_mem_nil, or_false, not_or, not_false_eq_true] <;> omega)
      have hK' := hK.trans hK3 (by simp)
      have hlen := ho.len
      clear hK hK3
      refine st (y_move rfl) rfl ?_
      refine st (y_extract rfl rfl) rfl ?_
      refine st (y_extract rfl rfl) rfl ?_
      refine st (y_assign rfl) rfl ?_
      refine st (y_assign rfl) rfl ?_
      refine l_nil ?_
      refine q_then ?_
      refine c_seq ?_
      refine c_region ?_
      refine st (y_move rfl) rfl ?_
      refine st (y_not rfl) rfl ?_
      refine st (y_move rfl) rfl ?_
      refine stg rfl rfl (y_move rfl) rfl ?_
      refine stg_if rfl rfl (y_gt_u (b := 3000) rfl rfl) rfl (fun hbig => ?_) (fun hbig => ?_)
      · refine st (y_pickF rfl rfl) rfl ?_
        refine st (y_move rfl) rfl ?_
        refine sno rfl rfl rfl rfl ?_
        refine sno rfl rfl rfl rfl ?_
        refine sno rfl rfl rfl rfl ?_
        refine sno rfl rfl rfl rfl ?_
        refine sno rfl rfl rfl rfl ?_
        refine sno rfl rfl rfl rfl ?_
        refine sno rfl rfl rfl rfl ?_
        refine sno rfl rfl rfl rfl ?_
        refine sno rfl rfl rfl rfl ?_
        refine sno rfl rfl rfl rfl ?_
        refine snou rfl rfl rfl ?_
        refine snou rfl rfl rfl ?_
        refine snou rfl rfl rfl ?_
        refine sno rfl rfl rfl rfl ?_
        refine st (y_pickT rfl rfl) rfl ?_
        refine st (y_assign rfl) rfl ?_
        refine l_nil ?_
        refine q_then ?_
        refine c_ret ?_
        refine q_end1 (.inl rfl) rfl rfl ?_
        exact ⟨_, rfl, rfl, hK'⟩
      ·
        refine st (y_pickF rfl rfl) rfl ?_
        refine st (y_move rfl) rfl ?_
        refine stg rfl rfl (y_loadagg rfl agg25 us25 sz25 (by assumption) (by simp) (by rfl)) rfl ?_
        refine stg rfl rfl (y_move rfl) rfl ?_
        refine scg rfl rfl rfl rfl isfn18 (c_implRank L A n c xs i _ (hR.keep hK' (by simp)) ho (by omega)) rfl ?_
        rintro _ w4 ⟨rfl, hK4⟩
        have hB1 := hB1.keep hK4 (by simp only [List.mem_cons, List.not_mem_nil, or_false, not_or, not_false_eq_true] <;> omega)
        have hBl := hBl.keep hK4 (by simp only [List.mem_cons, List.not_mem_nil, or_false, not_or, not_false_eq_true] <;> omega)
        refine stg rfl rfl (y_move rfl) rfl ?_
        refine stg rfl rfl (y_move rfl) rfl ?_
        refine stg rfl rfl (y_conv_ui rfl us22 Try.underlying3 (by omega)) rfl ?_
        first | refine stg rfl rfl (y_add_in (b := 1) rfl rfl (by omega)) rfl ?_ | refine stg rfl rfl (y_add_i (b := 1) rfl rfl (by omega) (by omega)) rfl ?_
        refine scg rfl rfl rfl rfl isfn19 (c_Between b _ 0 (i + 1) _ hBl (by omega) (by omega) (by omega)) rfl ?_
        rintro _ _ ⟨rfl, rfl⟩
        refine stg_t rfl rfl (y_eq_u rfl rfl) (rfl) rfl ?_
        refine stg rfl rfl (y_move rfl) rfl ?_
        refine scg rfl rfl rfl rfl isfn16 (c_three _) rfl ?_
        rintro _ w5 ⟨b3, rfl, hR3, hb3, hK5⟩
        refine scg rfl rfl rfl rfl isfn18 (c_implRank 9 _ 3 3 [1, 2, 5] 2 _ hR3 ⟨by omega, by omega, by decide⟩ (by omega)) rfl ?_
        rintro _ w6 ⟨rfl, hK6⟩
        refine stg_t rfl rfl (y_eq_u (b := 2) rfl rfl) (by decide) rfl ?_
        refine stg rfl rfl (y_pickT rfl rfl) rfl ?_
        refine st (y_pickF rfl rfl) rfl ?_
        refine st (y_assign rfl) rfl ?_
        refine l_nil ?_
        refine q_then ?_
        refine c_ret ?_
        refine q_end1 (.inl rfl) rfl rfl ?_
        have hKK : Keep w _ [] := (((((Keep.refl w []).trans hK' (by intro i; simp only [List.mem_cons, List.not_mem_nil, or_false, false_or, false_implies] <;> omega)).trans hK4 (by intro i; simp only [List.mem_cons, List.not_mem_nil, or_false, false_or, false_implies] <;> omega)).trans hK5 (by intro i; simp only [List.mem_cons, List.not_mem_nil, or_false, false_or, false_implies] <;> omega)).trans hK6 (by intro i; simp only [List.mem_cons, List.not_mem_nil, or_false, false_or, false_implies] <;> omega))
        exact ⟨_, rfl, rfl, hKK⟩
    ·
      refine st (y_move rfl) rfl ?_
      refine st (y_extract rfl rfl) rfl ?_
      refine st (y_extract rfl rfl) rfl ?_
      refine st (y_assign rfl) rfl ?_
      refine st (y_assign rfl) rfl ?_
      refine l_nil ?_
      refine q_then ?_
      refine c_seq ?_
      refine c_region ?_
      refine st (y_move rfl) rfl ?_
      refine st (y_not rfl) rfl ?_
      refine st (y_move rfl) rfl ?_
      refine sno rfl rfl rfl rfl ?_
      refine sno rfl rfl rfl rfl ?_
      refine st (y_pickT rfl rfl) rfl ?_
      refine st (y_move rfl) rfl ?_
      refine sno rfl rfl rfl rfl ?_
      refine sno rfl rfl rfl rfl ?_
      refine sno rfl rfl rfl rfl ?_
      refine sno rfl rfl rfl rfl ?_
      refine sno rfl rfl rfl rfl ?_
      refine sno rfl rfl rfl rfl ?_
      refine sno rfl rfl rfl rfl ?_
      refine sno rfl rfl rfl rfl ?_
      refine sno rfl rfl rfl rfl ?_
      refine sno rfl rfl rfl rfl ?_
      refine snou rfl rfl rfl ?_
      refine snou rfl rfl rfl ?_
      refine snou rfl rfl rfl ?_
      refine sno rfl rfl rfl rfl ?_
      refine st (y_pickT rfl rfl) rfl ?_
      refine st (y_assign rfl) rfl ?_
      refine l_nil ?_
      refine q_then ?_
      refine c_ret ?_
      refine q_end1 (.inl rfl) rfl rfl ?_
      exact ⟨_, rfl, rfl, hK.trans hK3 (by simp)⟩

end Go.Proofs.Ytlhbbndedbacpaa

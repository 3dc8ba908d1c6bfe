/- How many numbers there are, and whether all, none or any are: All, None, Any, impl.Count, impl.States and the statement's own walk. -/
import Derived.Test.YtlhbbndedbacpaaC2
import Derived.Test.YtlhbbndedbacpaaC3
import Derived.Test.YtlhbbndedbacpaaL7
set_option linter.unusedVariables false
set_option linter.unusedSimpArgs false
set_option maxRecDepth 100000
namespace Go.Proofs.Ytlhbbndedbacpaa
open Go Go.RowKit

theorem c_All (p q : Nat) (s : List Bool) (w : World) (hB : BSet w p q s) (hs : s.length ≤ 100001) :
    Cal Try.prog 41 [vP p] w fun v w' => v = vB (decide (count s = s.length)) ∧ Keep w w' [] := by
  have hBd := hB.keep (Keep.drew w []) (by simp) (by simp)
  obtain ⟨tl, hB⟩ := hB
  have hst := hB.st
  refine go_in' Try.func41 rfl Try.ntmps41 (Nat.le_of_ble_eq_true rfl) ?_
  refine c_seq ?_
  refine c_region ?_
  refine st (y_assign rfl) rfl ?_
  refine l_nil ?_
  refine q_then ?_
  refine c_seq ?_
  refine c_region ?_
  refine st (y_move rfl) rfl ?_
  refine sc rfl rfl isfn65 (c_panicIfNull p _) rfl ?_
  rintro _ _ ⟨rfl, rfl⟩
  refine l_nil ?_
  refine q_then ?_
  refine c_seq ?_
  refine c_still mixed (by kernel_rfl) ?_
  have hst := hst.drew
  refine ss (y_move rfl) rfl ?_
  refine ssc rfl rfl isfn44 (c_Count p q s _ hBd hs) rfl ?_
  refine ss (y_move rfl) rfl ?_
  refine ss (y_nil rfl) rfl ?_
  refine ss (fa93_0 rfl) rfl ?_
  refine ss (y_loadb rfl one22 (by assumption) (by rfl)) rfl ?_
  refine ss (y_eq_u rfl rfl) rfl ?_
  refine ss (y_assign rfl) rfl ?_
  refine s_nil ?_
  refine q_then ?_
  refine c_ret ?_
  refine q_end1 (.inl rfl) rfl rfl ?_
  exact ⟨_, rfl, rfl, Keep.drew _ _⟩

theorem c_None (p q : Nat) (s : List Bool) (w : World) (hB : BSet w p q s) (hs : s.length ≤ 100001) :
    Cal Try.prog 42 [vP p] w fun v w' => v = vB (decide (count s = 0)) ∧ w = w' := by
  obtain ⟨tl, hB⟩ := hB
  have hst := hB.st
  have hwd := hB.wd
  have hlen := pack_length s
  have hps := psum_pack s
  have hg : ∀ j, j < (pack s).length → (pack s ++ tl).getD j 0 = (pack s).getD j 0 := fun j hj => by
    rw [List.getD_eq_getElem?_getD, List.getElem?_append_left hj, ← List.getD_eq_getElem?_getD]
  have hn : nW s.length ≤ 2000 := by unfold nW; omega
  refine go_in' Try.func42 rfl Try.ntmps42 (Nat.le_of_ble_eq_true rfl) ?_
  refine c_seq ?_
  refine c_region ?_
  refine st (y_assign rfl) rfl ?_
  refine l_nil ?_
  refine q_then ?_
  refine c_seq ?_
  refine c_region ?_
  refine st (y_move rfl) rfl ?_
  refine sc rfl rfl isfn65 (c_panicIfNull p _) rfl ?_
  rintro _ _ ⟨rfl, rfl⟩
  refine l_nil ?_
  refine q_then ?_
  refine c_seq ?_
  refine c_seq ?_
  refine c_region ?_
  refine st (y_move rfl) rfl ?_
  refine st (y_pnil_ne rfl rfl pte61) rfl ?_
  refine st (y_move rfl) rfl ?_
  refine stg rfl rfl (y_move rfl) rfl ?_
  refine stg rfl rfl (y_nil rfl) rfl ?_
  refine stg rfl rfl (fa93_1 rfl) rfl ?_
  refine stg rfl rfl (y_loadb rfl one69 (by assumption) (by rfl)) rfl ?_
  refine stg rfl rfl (y_snil_ne rfl rfl Try.underlying69) rfl ?_
  refine st (y_pickT rfl rfl) rfl ?_
  refine l_nil ?_
  refine q_then ?_
  refine c_true rfl rfl ?_
  refine c_seq ?_
  refine c_region ?_
  refine st (y_move rfl) rfl ?_
  refine st (y_nil rfl) rfl ?_
  refine st (fa93_1 rfl) rfl ?_
  refine st (y_loadb rfl one69 (by assumption) (by rfl)) rfl ?_
  refine st (y_len rfl Try.underlying69) rfl ?_
  refine st (y_move rfl) rfl ?_
  refine l_nil ?_
  refine q_then ?_
  refine c_block ?_
  refine c_loop (fun k : Nat => [(0, vP p), (19, vS q (pack s).length ((pack s).length + tl.length)), (20, vI ((pack s).length : Nat)), (21, vI (k : Nat))]) (fun k w' => k ≤ (pack s).length ∧ w = w' ∧ psum ((pack s).take k) = 0) (fun k => (pack s).length - k) 0 ?_ ?_ ?_
  · exact ⟨rfl, rfl, rfl, rfl, trivial⟩
  · exact ⟨Nat.zero_le _, rfl, rfl⟩
  · rintro k w1 ⟨hk, rfl, hz⟩
    refine c_seq ?_
    refine c_region ?_
    refine st_if (y_lt_i rfl rfl) rfl (fun hlt => ?_) (fun hlt => ?_)
    · have hkn : k < (pack s).length := by omega
      have e1 := hg k hkn
      have esn := take_succ_getD (pack s) k hkn
      have hle := psum_getD_le (pack s) k hkn
      have hl64 := pack_getD_lt s k
      refine l_nil ?_
      refine q_then ?_
      refine c_seq ?_
      refine c_true rfl rfl ?_
      refine c_skip ?_
      refine q_then ?_
      refine c_seq ?_
      refine c_block ?_
      refine c_seq ?_
      refine c_region ?_
      first | refine st (y_index0 rfl rfl Try.underlying69 sz34 (by omega)) rfl ?_ | refine st (y_index rfl rfl Try.underlying69 sz34 (by omega)) rfl ?_ | refine st (y_indexA rfl rfl Try.underlying69 sz34 (by omega)) rfl ?_
      first | refine st (y_loadM (0) rfl one34 (by assumption) (by first | omega | (simp only [List.length_append, List.length_map, List.length_replicate, List.length_set, List.length_take, List.length_drop]; omega) | (simp; done))) rfl ?_ | refine st (y_load rfl one34 (by assumption)) rfl ?_
      refine st (y_assign rfl) rfl ?_
      refine l_nil ?_
      refine q_then ?_
      refine c_seq ?_
      refine c_region ?_
      refine st (y_move rfl) rfl ?_
      rw [e1]
      refine st_if (y_gt_u (b := 0) rfl rfl) rfl (fun h0 => ?_) (fun h0 => ?_)
      · have hpp := popc_pos hl64 h0
        refine l_nil ?_
        refine q_then ?_
        refine c_true rfl rfl ?_
        refine c_seq ?_
        refine c_region ?_
        refine st (y_assign rfl) rfl ?_
        refine l_nil ?_
        refine q_then ?_
        refine c_ret ?_
        refine q_block_ret ?_
        refine q_then_ret ?_
        refine q_then_ret ?_
        refine q_block_ret ?_
        refine q_then_ret ?_
        refine q_end1 (.inl rfl) rfl rfl ?_
        exact ⟨_, rfl, by rw [decide_eq_false (by omega)], rfl⟩
      ·
        refine l_nil ?_
        refine q_then ?_
        refine c_false rfl rfl ?_
        refine c_skip ?_
        refine q_block ?_
        refine q_then ?_
        refine c_region ?_
        first | refine st (y_add_in (b := 1) rfl rfl (by omega)) rfl ?_ | refine st (y_add_i (b := 1) rfl rfl (by omega) (by omega)) rfl ?_
        refine st (y_move rfl) rfl ?_
        refine l_nil ?_
        refine q_round (k + 1) ⟨rfl, rfl, rfl, rfl, trivial⟩ ⟨by omega, rfl, ?_⟩ (by omega)
        have h00 : (pack s).getD k 0 = 0 := by omega
        rw [esn, psum_snoc, hz, h00, popc_zero]
    ·
      have hkn : k = (pack s).length := by omega
      rw [hkn, List.take_length] at hz
      refine l_nil ?_
      refine q_then ?_
      refine c_seq ?_
      refine c_false rfl rfl ?_
      refine c_exit ?_
      refine q_then_exit ?_
      refine q_then_exit ?_
      refine q_block_hit ?_
      refine q_then ?_
      refine c_seq ?_
      refine c_region ?_
      refine st (y_assign rfl) rfl ?_
      refine l_nil ?_
      refine q_then ?_
      refine c_ret ?_
      refine q_end1 (.inl rfl) rfl rfl ?_
      exact ⟨_, rfl, by rw [decide_eq_true (by omega)], rfl⟩

theorem c_Any (p q : Nat) (s : List Bool) (w : World) (hB : BSet w p q s) (hs : s.length ≤ 100001) :
    Cal Try.prog 43 [vP p] w fun v w' => v = vB (decide (0 < count s)) ∧ w = w' := by
  refine go_in' Try.func43 rfl Try.ntmps43 (Nat.le_of_ble_eq_true rfl) ?_
  refine c_seq ?_
  refine c_region ?_
  refine st (y_assign rfl) rfl ?_
  refine l_nil ?_
  refine q_then ?_
  refine c_seq ?_
  refine c_region ?_
  refine st (y_move rfl) rfl ?_
  refine sc rfl rfl isfn65 (c_panicIfNull p _) rfl ?_
  rintro _ _ ⟨rfl, rfl⟩
  refine l_nil ?_
  refine q_then ?_
  refine c_seq ?_
  refine c_region ?_
  refine st (y_move rfl) rfl ?_
  refine sc rfl rfl isfn42 (c_None p q s _ hB hs) rfl ?_
  rintro _ _ ⟨rfl, rfl⟩
  refine st (y_not rfl) rfl ?_
  refine st (y_assign rfl) rfl ?_
  refine l_nil ?_
  refine q_then ?_
  refine c_ret ?_
  refine q_end1 (.inl rfl) rfl rfl ?_
  refine ⟨_, rfl, ?_, rfl⟩
  by_cases h : count s = 0
  · rw [decide_eq_true h, decide_eq_false (by omega)]; rfl
  · rw [decide_eq_false h, decide_eq_true (by omega)]; rfl

theorem c_implCount (L : Nat) (A : Option Addr) (n c : Nat) (xs : List Nat) (w : World) (hR : Rd w A n xs) (ho : Ok L n xs) :
    Cal Try.prog 24 [aB L A n c] w fun v w' => v = vU (count (mkS L xs)) ∧ Keep w w' [] := by
  have hlen := ho.len
  refine go_in' Try.func24 rfl Try.ntmps24 (Nat.le_of_ble_eq_true rfl) ?_
  refine c_seq ?_
  refine c_region ?_
  refine st_box _ rfl rfl rfl ?_
  intro b1 w1 hb1 hB1 hK1 hS1
  refine st (y_assign rfl) rfl ?_
  refine l_nil ?_
  refine q_then ?_
  refine c_seq ?_
  refine c_region ?_
  refine st (y_loadagg rfl agg25 us25 sz25 (by assumption) (by simp) (by rfl)) rfl ?_
  refine sc rfl rfl isfn36 (c_made L A n c xs _ (hR.keep hK1 (by simp)) (by have := ho.1; omega) (fun x h => by have := ho.2.2 x h; omega)) rfl ?_
  rintro _ w2 ⟨p, q, rfl, hp, hq, hB, hK2⟩
  have hK := hK1.trans hK2 (by simp)
  refine st (y_move rfl) rfl ?_
  refine st (y_extract rfl rfl) rfl ?_
  refine st (y_extract rfl rfl) rfl ?_
  refine st (y_assign rfl) rfl ?_
  refine st (y_assign rfl) rfl ?_
  refine l_nil ?_
  refine q_then ?_
  refine c_seq ?_
  refine c_seq ?_
  refine c_region ?_
  refine st (y_move rfl) rfl ?_
  refine st (y_not rfl) rfl ?_
  refine l_nil ?_
  refine q_then ?_
  refine c_false rfl rfl ?_
  refine c_skip ?_
  refine q_then ?_
  refine c_seq ?_
  refine c_region ?_
  refine st (y_move rfl) rfl ?_
  refine sc rfl rfl isfn44 (c_Count p q _ _ hB (by omega)) rfl ?_
  rintro _ w3 ⟨rfl, rfl⟩
  refine st (y_assign rfl) rfl ?_
  refine l_nil ?_
  refine q_then ?_
  refine c_ret ?_
  refine q_end1 (.inl rfl) rfl rfl ?_
  exact ⟨_, rfl, rfl, hK⟩

theorem c_implStates (L : Nat) (A : Option Addr) (n c : Nat) (xs : List Nat) (w : World) (hR : Rd w A n xs) (ho : Ok L n xs) :
    Cal Try.prog 23 [aB L A n c] w fun v w' => ∃ b, v = vS b 3 3 ∧ w.heap.size ≤ b ∧ Bl w' b [decide (count (mkS L xs) = (mkS L xs).length), decide (count (mkS L xs) = 0), decide (0 < count (mkS L xs))] ∧ Keep w w' [] := by
  have hlen := ho.len
  refine go_in' Try.func23 rfl Try.ntmps23 (Nat.le_of_ble_eq_true rfl) ?_
  refine c_seq ?_
  refine c_region ?_
  refine st_box _ rfl rfl rfl ?_
  intro b1 w1 hb1 hB1 hK1 hS1
  refine st (y_assign rfl) rfl ?_
  refine l_nil ?_
  refine q_then ?_
  refine c_seq ?_
  refine c_region ?_
  refine st (y_loadagg rfl agg25 us25 sz25 (by assumption) (by simp) (by rfl)) rfl ?_
  refine sc rfl rfl isfn36 (c_made L A n c xs _ (hR.keep hK1 (by simp)) (by have := ho.1; omega) (fun x h => by have := ho.2.2 x h; omega)) rfl ?_
  rintro _ w2 ⟨p, q, rfl, hp, hq, hB, hK2⟩
  have hK := hK1.trans hK2 (by simp)
  refine st (y_move rfl) rfl ?_
  refine st (y_extract rfl rfl) rfl ?_
  refine st (y_extract rfl rfl) rfl ?_
  refine st (y_assign rfl) rfl ?_
  refine st (y_assign rfl) rfl ?_
  refine l_nil ?_
  refine q_then ?_
  refine c_seq ?_
  refine c_seq ?_
  refine c_region ?_
  refine st (y_move rfl) rfl ?_
  refine st (y_not rfl) rfl ?_
  refine l_nil ?_
  refine q_then ?_
  refine c_false rfl rfl ?_
  refine c_skip ?_
  refine q_then ?_
  refine c_seq ?_
  refine c_region ?_
  refine st (y_move rfl) rfl ?_
  refine sc rfl rfl isfn41 (c_All p q _ _ hB (by omega)) rfl ?_
  rintro _ w3 ⟨rfl, hK3⟩
  have hB3 := hB.keep hK3 (by simp) (by simp)
  refine st (y_move rfl) rfl ?_
  refine sc rfl rfl isfn42 (c_None p q _ _ hB3 (by omega)) rfl ?_
  rintro _ w4 ⟨rfl, rfl⟩
  refine st (y_move rfl) rfl ?_
  refine sc rfl rfl isfn43 (c_Any p q _ _ hB3 (by omega)) rfl ?_
  rintro _ w4 ⟨rfl, rfl⟩
  have hsz := hK.size
  have hsz3 := hK3.size
  refine st_buildSlice [vB (decide (count (mkS L xs) = (mkS L xs).length)), vB (decide (count (mkS L xs) = 0)), vB (decide (0 < count (mkS L xs)))] Try.underlying27 sz4 zv4 rfl (by decide) (by decide) (by kernel_rfl) rfl ?_
  intro b5 w5 hb5 hB5 hK5 hS5
  refine st (y_assign rfl) rfl ?_
  refine l_nil ?_
  refine q_then ?_
  refine c_ret ?_
  refine q_end1 (.inl rfl) rfl rfl ?_
  exact ⟨_, rfl, b5, rfl, by omega, hB5, (hK.trans hK3 (by simp)).trans hK5 (by simp)⟩

theorem c_FnCount (L : Nat) (A : Option Addr) (n c : Nat) (xs : List Nat) (w : World) (hR : Rd w A n xs) :
    Cal Try.prog 7 [aB L A n c] w fun v w' => v = vB true ∧ Keep w w' [] := by
  refine go_in' Try.func7 rfl Try.ntmps7 (Nat.le_of_ble_eq_true rfl) ?_
  refine c_seq ?_
  refine c_region ?_
  refine st_box _ rfl rfl rfl ?_
  intro b1 w1 hb1 hB1 hK1 hS1
  refine st (y_assign rfl) rfl ?_
  refine l_nil ?_
  refine q_then ?_
  refine c_seq ?_
  refine c_seq ?_
  refine c_region ?_
  refine st (y_loadagg rfl agg25 us25 sz25 (by assumption) (by simp) (by rfl)) rfl ?_
  refine sc rfl rfl isfn12 (c_zzFits1 L A n c _) rfl ?_
  rintro _ w2 ⟨rfl, hK2⟩
  have hB1 := hB1.keep hK2 (by simp only [List.mem_cons, List.not_mem_nil, or_false, not_or, not_false_eq_true] <;> omega)
  have hK := hK1.trans hK2 (by simp)
  clear hK1 hK2
  refine st (y_not rfl) rfl ?_
  refine l_nil ?_
  refine q_then ?_
  refine c_ifb rfl (fun hz => ?_) (fun hz => ?_)
  · refine c_seq ?_
    refine c_region ?_
    refine st (y_assign rfl) rfl ?_
    refine l_nil ?_
    refine q_then ?_
    refine c_ret ?_
    refine q_then_ret ?_
    refine q_end1 (.inl rfl) rfl rfl ?_
    exact ⟨_, rfl, rfl, hK⟩
  ·
    refine c_skip ?_
    refine q_then ?_
    refine c_seq ?_
    refine c_region ?_
    refine st (y_loadagg rfl agg25 us25 sz25 (by assumption) (by simp) (by rfl)) rfl ?_
    refine sc rfl rfl isfn13 (c_set L A n c xs _ (hR.keep hK (by simp))) rfl ?_
    rintro _ w3 ⟨hK3, ⟨ho, b, rfl, hBl, hb⟩ | rfl⟩
    · have hB1 := hB1.keep hK3 (by simp only [List.mem_cons, List.not_mem_nil, or_false, not_or, not_false_eq_true] <;> omega)
      have hK' := hK.trans hK3 (by simp)
      have hlen := ho.len
      clear hK hK3
      refine st (y_move rfl) rfl ?_
      refine st (y_extract rfl rfl) rfl ?_
      refine st (y_extract rfl rfl) rfl ?_
      refine st (y_assign rfl) rfl ?_
      refine st (y_assign rfl) rfl ?_
      refine l_nil ?_
      refine q_then ?_
      refine c_seq ?_
      refine c_seq ?_
      refine c_region ?_
      refine st (y_move rfl) rfl ?_
      refine st (y_not rfl) rfl ?_
      refine l_nil ?_
      refine q_then ?_
      refine c_false rfl rfl ?_
      refine c_skip ?_
      refine q_then ?_
      refine c_seq ?_
      refine c_region ?_
      refine st (y_move rfl) rfl ?_
      refine sc rfl rfl isfn22 (c_specCount b _ _ hBl (by omega)) rfl ?_
      rintro _ w4 ⟨rfl, hK4⟩
      have hB1 := hB1.keep hK4 (by simp only [List.mem_cons, List.not_mem_nil, or_false, not_or, not_false_eq_true] <;> omega)
      refine st (y_assign rfl) rfl ?_
      refine l_nil ?_
      refine q_then ?_
      refine c_seq ?_
      refine c_region ?_
      refine st (y_loadagg rfl agg25 us25 sz25 (by assumption) (by simp) (by rfl)) rfl ?_
      have hK5 := hK'.trans hK4 (by simp)
      refine sc rfl rfl isfn23 (c_implStates L A n c xs _ (hR.keep hK5 (by simp)) ho) rfl ?_
      rintro _ w6 ⟨b6, rfl, hb6, hB6, hK6⟩
      have hB1 := hB1.keep hK6 (by simp only [List.mem_cons, List.not_mem_nil, or_false, not_or, not_false_eq_true] <;> omega)
      have hK7 := hK5.trans hK6 (by simp)
      refine st (y_assign rfl) rfl ?_
      refine l_nil ?_
      refine q_then ?_
      refine c_seq ?_
      refine c_region ?_
      refine st (y_loadagg rfl agg25 us25 sz25 (by assumption) (by simp) (by rfl)) rfl ?_
      refine sc rfl rfl isfn24 (c_implCount L A n c xs _ (hR.keep hK7 (by simp)) ho) rfl ?_
      rintro _ w8 ⟨rfl, hK8⟩
      have hB8 := Blk.keep hB6 hK8 (by simp)
      have hcl := count_le (mkS L xs)
      refine st (y_move rfl) rfl ?_
      refine st_t (y_eq_u rfl rfl) (rfl) rfl ?_
      refine st (y_move rfl) rfl ?_
      refine stg rfl rfl (y_move rfl) rfl ?_
      refine stg rfl rfl (y_len rfl Try.underlying27) rfl ?_
      refine stg_t rfl rfl (y_eq_i (b := 3) rfl rfl) (rfl) rfl ?_
      refine st (y_pickT rfl rfl) rfl ?_
      refine st (y_move rfl) rfl ?_
      refine stg rfl rfl (y_move rfl) rfl ?_
      first | refine stg rfl rfl (y_index0 (i := 0) rfl rfl Try.underlying27 sz4 (by omega)) rfl ?_ | refine stg rfl rfl (y_index (i := 0) rfl rfl Try.underlying27 sz4 (by omega)) rfl ?_ | refine stg rfl rfl (y_indexA (i := 0) rfl rfl Try.underlying27 sz4 (by omega)) rfl ?_
      first | refine stg rfl rfl (y_loadM (false) rfl one4 (by assumption) (by first | omega | (simp only [List.length_append, List.length_map, List.length_replicate, List.length_set, List.length_take, List.length_drop]; omega) | (simp; done))) rfl ?_ | refine stg rfl rfl (y_load rfl one4 (by assumption)) rfl ?_
      refine stg rfl rfl (y_move rfl) rfl ?_
      refine stg rfl rfl (y_move rfl) rfl ?_
      refine stg rfl rfl (y_len rfl Try.underlying28) rfl ?_
      refine stg rfl rfl (y_conv_iu rfl us3 Try.underlying22 rfl (by omega)) rfl ?_
      refine stg rfl rfl (y_eq_u rfl rfl) rfl ?_
      refine stg_t rfl rfl (y_eq_b rfl rfl Try.underlying4) (rfl) rfl ?_
      refine st (y_pickT rfl rfl) rfl ?_
      refine st (y_move rfl) rfl ?_
      refine stg rfl rfl (y_move rfl) rfl ?_
      first | refine stg rfl rfl (y_index0 (i := 1) rfl rfl Try.underlying27 sz4 (by omega)) rfl ?_ | refine stg rfl rfl (y_index (i := 1) rfl rfl Try.underlying27 sz4 (by omega)) rfl ?_ | refine stg rfl rfl (y_indexA (i := 1) rfl rfl Try.underlying27 sz4 (by omega)) rfl ?_
      first | refine stg rfl rfl (y_loadM (false) rfl one4 (by assumption) (by first | omega | (simp only [List.length_append, List.length_map, List.length_replicate, List.length_set, List.length_take, List.length_drop]; omega) | (simp; done))) rfl ?_ | refine stg rfl rfl (y_load rfl one4 (by assumption)) rfl ?_
      refine stg rfl rfl (y_move rfl) rfl ?_
      refine stg rfl rfl (y_eq_u (b := 0) rfl rfl) rfl ?_
      refine stg_t rfl rfl (y_eq_b rfl rfl Try.underlying4) (rfl) rfl ?_
      refine st (y_pickT rfl rfl) rfl ?_
      refine st (y_move rfl) rfl ?_
      refine stg rfl rfl (y_move rfl) rfl ?_
      first | refine stg rfl rfl (y_index0 (i := 2) rfl rfl Try.underlying27 sz4 (by omega)) rfl ?_ | refine stg rfl rfl (y_index (i := 2) rfl rfl Try.underlying27 sz4 (by omega)) rfl ?_ | refine stg rfl rfl (y_indexA (i := 2) rfl rfl Try.underlying27 sz4 (by omega)) rfl ?_
      first | refine stg rfl rfl (y_loadM (false) rfl one4 (by assumption) (by first | omega | (simp only [List.length_append, List.length_map, List.length_replicate, List.length_set, List.length_take, List.length_drop]; omega) | (simp; done))) rfl ?_ | refine stg rfl rfl (y_load rfl one4 (by assumption)) rfl ?_
      refine stg rfl rfl (y_move rfl) rfl ?_
      refine stg rfl rfl (y_gt_u (b := 0) rfl rfl) rfl ?_
      refine stg_t rfl rfl (y_eq_b rfl rfl Try.underlying4) (rfl) rfl ?_
      refine st (y_pickT rfl rfl) rfl ?_
      refine st (y_assign rfl) rfl ?_
      refine l_nil ?_
      refine q_then ?_
      refine c_ret ?_
      refine q_end1 (.inl rfl) rfl rfl ?_
      exact ⟨_, rfl, rfl, hK7.trans hK8 (by simp)⟩
    ·
      refine st (y_move rfl) rfl ?_
      refine st (y_extract rfl rfl) rfl ?_
      refine st (y_extract rfl rfl) rfl ?_
      refine st (y_assign rfl) rfl ?_
      refine st (y_assign rfl) rfl ?_
      refine l_nil ?_
      refine q_then ?_
      refine c_seq ?_
      refine c_seq ?_
      refine c_region ?_
      refine st (y_move rfl) rfl ?_
      refine st (y_not rfl) rfl ?_
      refine l_nil ?_
      refine q_then ?_
      refine c_true rfl rfl ?_
      refine c_seq ?_
      refine c_region ?_
      refine st (y_assign rfl) rfl ?_
      refine l_nil ?_
      refine q_then ?_
      refine c_ret ?_
      refine q_then_ret ?_
      refine q_end1 (.inl rfl) rfl rfl ?_
      exact ⟨_, rfl, rfl, hK.trans hK3 (by simp)⟩

end Go.Proofs.Ytlhbbndedbacpaa

/- 64 numbers from one on as a word: GetWord64AtBit, impl.Word and the statement's own walk. -/
import Derived.Test.YtlhbbndedbacpaaA5
import Derived.Test.YtlhbbndedbacpaaL3
set_option linter.unusedVariables false
set_option linter.unusedSimpArgs false
set_option maxRecDepth 100000
namespace Go.Proofs.Ytlhbbndedbacpaa
open Go Go.RowKit

theorem c_GetWord (p q : Nat) (s : List Bool) (i : Nat) (w : World) (hB : BSet w p q s) (hi : i ≤ 100000) (hs : s.length ≤ 100001) :
    Cal Try.prog 38 [vP p, vU i] w fun v w' => v = vU (wordFrom s i) ∧ w = w' := by
  obtain ⟨tl, hB⟩ := hB
  have hst := hB.st
  have hwd := hB.wd
  have hlen := pack_length s
  have hdiv := shr6 i
  have hg : ∀ j, j < (pack s).length → (pack s ++ tl).getD j 0 = wordAt s j := fun j hj => by
    rw [List.getD_eq_getElem?_getD, List.getElem?_append_left hj, ← List.getD_eq_getElem?_getD, pack_getD]
  have hl0 := wordAt_lt s (i / 64)
  have hl1 := wordAt_lt s (i / 64 + 1)
  have hmod : i &&& 63 = i % 64 := and63 i
  have fin := word_two s i
  refine go_in' Try.func38 rfl Try.ntmps38 (Nat.le_of_ble_eq_true rfl) ?_
  refine c_seq ?_
  refine c_region ?_
  refine st (y_assign rfl) rfl ?_
  refine l_nil ?_
  refine q_then ?_
  refine c_seq ?_
  refine c_region ?_
  refine st (y_move rfl) rfl ?_
  refine st (y_shr (k := 6) rfl rfl (by first | omega | assumption | (repeat (first | assumption | omega | decide | exact shl_lt64 _ _ | apply and_lt64 | apply or_lt64 | apply xor_lt64 | apply nt_lt | apply shr_lt64 | apply getD_lt64)))) rfl ?_
  refine st (y_conv_ui rfl us22 Try.underlying3 (by omega)) rfl ?_
  refine st (y_assign rfl) rfl ?_
  refine l_nil ?_
  refine q_then ?_
  refine c_seq ?_
  refine c_region ?_
  refine st (y_move rfl) rfl ?_
  refine sc rfl rfl isfn62 (c_wordsIndex i (by omega) _) rfl ?_
  rintro _ _ ⟨rfl, rfl⟩
  rw [hmod, hdiv]
  have h63 : i % 64 < 64 := Nat.mod_lt _ (by decide)
  refine st (y_assign rfl) rfl ?_
  refine l_nil ?_
  refine q_then ?_
  refine c_seq ?_
  refine c_region ?_
  refine st (y_assign rfl) rfl ?_
  refine st (y_assign rfl) rfl ?_
  refine l_nil ?_
  refine q_then ?_
  refine c_cut (fun _ : Unit => [(0, vP p), (5, vI (i / 64 : Nat)), (6, vU (i % 64)), (7, vU (wordAt s (i / 64) >>> (i % 64))), (8, vU 0)]) (fun _ w' => w = w') ?_ ?_
  · refine c_seq ?_
    refine c_region ?_
    refine st (y_move rfl) rfl ?_
    refine st (y_move rfl) rfl ?_
    refine st (y_nil rfl) rfl ?_
    refine st (fa93_1 rfl) rfl ?_
    refine st (y_loadb rfl one69 (by assumption) (by rfl)) rfl ?_
    refine st (y_len rfl Try.underlying69) rfl ?_
    refine st_if (y_lt_i rfl rfl) rfl (fun h1 => ?_) (fun h1 => ?_)
    · have hj : i / 64 < (pack s).length := by omega
      have e1 := hg (i / 64) hj
      have hl2 : (pack s ++ tl).getD (i / 64) 0 < 18446744073709551616 := by rw [e1]; exact hl0
      refine l_nil ?_
      refine q_then ?_
      refine c_true rfl rfl ?_
      refine c_region ?_
      refine st (y_move rfl) rfl ?_
      refine st (y_nil rfl) rfl ?_
      refine st (fa93_1 rfl) rfl ?_
      refine st (y_loadb rfl one69 (by assumption) (by rfl)) rfl ?_
      refine st (y_move rfl) rfl ?_
      first | refine st (y_index0 rfl rfl Try.underlying69 sz34 (by omega)) rfl ?_ | refine st (y_index rfl rfl Try.underlying69 sz34 (by omega)) rfl ?_ | refine st (y_indexA rfl rfl Try.underlying69 sz34 (by omega)) rfl ?_
      first | refine st (y_loadM (0) rfl one34 (by assumption) (by first | omega | (simp only [List.length_append, List.length_map, List.length_replicate, List.length_set, List.length_take, List.length_drop]; omega))) rfl ?_ | refine st (y_load rfl one34 (by assumption)) rfl ?_
      refine st (y_move rfl) rfl ?_
      refine st (y_shr rfl rfl (by first | omega | assumption | (repeat (first | assumption | omega | decide | exact shl_lt64 _ _ | apply and_lt64 | apply or_lt64 | apply xor_lt64 | apply nt_lt | apply shr_lt64 | apply getD_lt64)))) rfl ?_
      refine st (y_assign rfl) rfl ?_
      refine l_nil ?_
      refine q_meet () ⟨rfl, rfl, rfl, ?_, rfl, trivial⟩ rfl
      rw [← e1]; rfl
    ·
      refine l_nil ?_
      refine q_then ?_
      refine c_false rfl rfl ?_
      refine c_skip ?_
      refine q_meet () ⟨rfl, rfl, rfl, ?_, rfl, trivial⟩ rfl
      rw [wordAt_ge s (i / 64) (by omega)]; simp; rfl
  ·
    rintro _ w' rfl
    refine c_cut (fun _ : Unit => [(7, vU (wordAt s (i / 64) >>> (i % 64))), (8, vU ((wordAt s (i / 64 + 1) <<< (64 - i % 64)) % 18446744073709551616))]) (fun _ w' => w = w') ?_ ?_
    · refine c_seq ?_
      refine c_region ?_
      refine st (y_move rfl) rfl ?_
      refine st (y_add_i (b := 1) rfl rfl (by omega) (by omega)) rfl ?_
      refine st (y_move rfl) rfl ?_
      refine st (y_nil rfl) rfl ?_
      refine st (fa93_1 rfl) rfl ?_
      refine st (y_loadb rfl one69 (by assumption) (by rfl)) rfl ?_
      refine st (y_len rfl Try.underlying69) rfl ?_
      refine st_if (y_lt_i rfl rfl) rfl (fun h1 => ?_) (fun h1 => ?_)
      · have hj : i / 64 + 1 < (pack s).length := by omega
        have e1 := hg (i / 64 + 1) hj
        have hl2 : (pack s ++ tl).getD (i / 64 + 1) 0 < 18446744073709551616 := by rw [e1]; exact hl1
        refine l_nil ?_
        refine q_then ?_
        refine c_true rfl rfl ?_
        refine c_region ?_
        refine st (y_move rfl) rfl ?_
        refine st (y_nil rfl) rfl ?_
        refine st (fa93_1 rfl) rfl ?_
        refine st (y_loadb rfl one69 (by assumption) (by rfl)) rfl ?_
        refine st (y_move rfl) rfl ?_
        refine st (y_add_i (b := 1) rfl rfl (by omega) (by omega)) rfl ?_
        first | refine st (y_index0 rfl rfl Try.underlying69 sz34 (by omega)) rfl ?_ | refine st (y_index rfl rfl Try.underlying69 sz34 (by omega)) rfl ?_ | refine st (y_indexA rfl rfl Try.underlying69 sz34 (by omega)) rfl ?_
        first | refine st (y_loadM (0) rfl one34 (by assumption) (by first | omega | (simp only [List.length_append, List.length_map, List.length_replicate, List.length_set, List.length_take, List.length_drop]; omega))) rfl ?_ | refine st (y_load rfl one34 (by assumption)) rfl ?_
        refine st (y_move rfl) rfl ?_
        refine st (y_sub_u (a := 64) rfl rfl (by omega) (by omega)) rfl ?_
        refine st (y_shl rfl rfl) rfl ?_
        refine st (y_assign rfl) rfl ?_
        refine l_nil ?_
        refine q_meet () ⟨rfl, ?_, trivial⟩ rfl
        rw [← e1]; rfl
      ·
        refine l_nil ?_
        refine q_then ?_
        refine c_false rfl rfl ?_
        refine c_skip ?_
        refine q_meet () ⟨rfl, ?_, trivial⟩ rfl
        rw [wordAt_ge s (i / 64 + 1) (by omega)]; simp; rfl
    ·
      rintro _ w' rfl
      have hb1 := shr_lt64 (i % 64) hl0
      refine c_seq ?_
      refine c_region ?_
      refine st (y_move rfl) rfl ?_
      refine st (y_move rfl) rfl ?_
      refine st (y_or rfl rfl (by first | omega | assumption | (repeat (first | assumption | omega | decide | exact shl_lt64 _ _ | apply and_lt64 | apply or_lt64 | apply xor_lt64 | apply nt_lt | apply shr_lt64 | apply getD_lt64))) (by first | omega | assumption | (repeat (first | assumption | omega | decide | exact shl_lt64 _ _ | apply and_lt64 | apply or_lt64 | apply xor_lt64 | apply nt_lt | apply shr_lt64 | apply getD_lt64)))) rfl ?_
      refine st (y_assign rfl) rfl ?_
      refine l_nil ?_
      refine q_then ?_
      refine c_ret ?_
      refine q_end1 (.inl rfl) rfl rfl ?_
      exact ⟨_, rfl, by rw [fin], rfl⟩

theorem c_implWord (L : Nat) (A : Option Addr) (n c : Nat) (xs : List Nat) (i : Nat) (w : World) (hR : Rd w A n xs) (ho : Ok L n xs) (hi : i ≤ 3000) :
    Cal Try.prog 17 [aB L A n c, vU i] w fun v w' => v = vU (wordFrom (mkS L xs) i) ∧ Keep w w' [] := by
  have hlen := ho.len
  refine go_in' Try.func17 rfl Try.ntmps17 (Nat.le_of_ble_eq_true rfl) ?_
  refine c_seq ?_
  refine c_region ?_
  refine st_box _ rfl rfl rfl ?_
  intro b1 w1 hb1 hB1 hK1 hS1
  refine st (y_assign rfl) rfl ?_
  refine l_nil ?_
  refine q_then ?_
  refine c_seq ?_
  refine c_region ?_
  refine st (y_loadagg rfl agg25 us25 sz25 (by assumption) (by simp) (by rfl)) rfl ?_
  refine sc rfl rfl isfn36 (c_made L A n c xs _ (hR.keep hK1 (by simp)) (by have := ho.1; omega) (fun x h => by have := ho.2.2 x h; omega)) rfl ?_
  rintro _ w2 ⟨p, q, rfl, hp, hq, hB, hK2⟩
  have hK := hK1.trans hK2 (by simp)
  refine st (y_move rfl) rfl ?_
  refine st (y_extract rfl rfl) rfl ?_
  refine st (y_extract rfl rfl) rfl ?_
  refine st (y_assign rfl) rfl ?_
  refine st (y_assign rfl) rfl ?_
  refine l_nil ?_
  refine q_then ?_
  refine c_seq ?_
  refine c_seq ?_
  refine c_region ?_
  refine st (y_move rfl) rfl ?_
  refine st (y_not rfl) rfl ?_
  refine st (y_move rfl) rfl ?_
  refine stg rfl rfl (y_move rfl) rfl ?_
  refine stg_f rfl rfl (y_gt_u (b := 6000) rfl rfl) (by omega) rfl ?_
  refine st (y_pickF rfl rfl) rfl ?_
  refine l_nil ?_
  refine q_then ?_
  refine c_false rfl rfl ?_
  refine c_skip ?_
  refine q_then ?_
  refine c_seq ?_
  refine c_region ?_
  refine st (y_move rfl) rfl ?_
  refine st (y_move rfl) rfl ?_
  refine sc rfl rfl isfn38 (c_GetWord p q _ i _ hB (by omega) (by omega)) rfl ?_
  rintro _ w3 ⟨rfl, rfl⟩
  refine st (y_assign rfl) rfl ?_
  refine l_nil ?_
  refine q_then ?_
  refine c_ret ?_
  refine q_end1 (.inl rfl) rfl rfl ?_
  exact ⟨_, rfl, rfl, hK⟩

theorem c_FnWord (L : Nat) (A : Option Addr) (n c : Nat) (xs : List Nat) (i : Nat) (w : World) (hR : Rd w A n xs) (hi : i < 18446744073709551616) :
    Cal Try.prog 4 [aB L A n c, vU i] w fun v w' => v = vB true ∧ Keep w w' [] := by
  refine go_in' Try.func4 rfl Try.ntmps4 (Nat.le_of_ble_eq_true rfl) ?_
  refine c_seq ?_
  refine c_region ?_
  refine st_box _ rfl rfl rfl ?_
  intro b1 w1 hb1 hB1 hK1 hS1
  refine st (y_assign rfl) rfl ?_
  refine l_nil ?_
  refine q_then ?_
  refine c_seq ?_
  refine c_seq ?_
  refine c_region ?_
  refine st (y_loadagg rfl agg25 us25 sz25 (by assumption) (by simp) (by rfl)) rfl ?_
  refine sc rfl rfl isfn12 (c_zzFits1 L A n c _) rfl ?_
  rintro _ w2 ⟨rfl, hK2⟩
  have hB1 := hB1.keep hK2 (by simp only [List.mem_cons, List.not_mem_nil, or_false, not_or, not_false_eq_true] <;> omega)
  have hK := hK1.trans hK2 (by simp)
  clear hK1 hK2
  refine st (y_not rfl) rfl ?_
  refine l_nil ?_
  refine q_then ?_
  refine c_ifb rfl (fun hz => ?_) (fun hz => ?_)
  · refine c_seq ?_
    refine c_region ?_
    refine st (y_assign rfl) rfl ?_
    refine l_nil ?_
    refine q_then ?_
    refine c_ret ?_
    refine q_then_ret ?_
    refine q_end1 (.inl rfl) rfl rfl ?_
    exact ⟨_, rfl, rfl, hK⟩
  ·
    refine c_skip ?_
    refine q_then ?_
    refine c_seq ?_
    refine c_region ?_
    refine st (y_loadagg rfl agg25 us25 sz25 (by assumption) (by simp) (by rfl)) rfl ?_
    refine sc rfl rfl isfn13 (c_set L A n c xs _ (hR.keep hK (by simp))) rfl ?_
    rintro _ w3 ⟨hK3, ⟨ho, b, rfl, hBl, hb⟩ | rfl⟩
    · have hB1 := hB1.keep hK3 (by simp only [List.mem_cons, List.not_mem_nil, or_false, not_or, not_false_eq_true] <;> omega)
      have hK' := hK.trans hK3 (by simp)
      have hlen := ho.len
      clear hK hK3
      refine st (y_move rfl) rfl ?_
      refine st (y_extract rfl rfl) rfl ?_
      refine st (y_extract rfl rfl) rfl ?_
      refine st (y_assign rfl) rfl ?_
      refine st (y_assign rfl) rfl ?_
      refine l_nil ?_
      refine q_then ?_
      refine c_seq ?_
      refine c_seq ?_
      refine c_region ?_
      refine st (y_move rfl) rfl ?_
      refine st (y_not rfl) rfl ?_
      refine st (y_move rfl) rfl ?_
      refine stg rfl rfl (y_move rfl) rfl ?_
      refine stg_if rfl rfl (y_gt_u (b := 3000) rfl rfl) rfl (fun hbig => ?_) (fun hbig => ?_)
      · refine st (y_pickF rfl rfl) rfl ?_
        refine l_nil ?_
        refine q_then ?_
        refine c_true rfl rfl ?_
        refine c_seq ?_
        refine c_region ?_
        refine st (y_assign rfl) rfl ?_
        refine l_nil ?_
        refine q_then ?_
        refine c_ret ?_
        refine q_then_ret ?_
        refine q_end1 (.inl rfl) rfl rfl ?_
        exact ⟨_, rfl, rfl, hK'⟩
      ·
        obtain ⟨s, hs⟩ : ∃ s, mkS L xs = s := ⟨_, rfl⟩
        rw [hs] at hBl hlen ⊢
        refine st (y_pickF rfl rfl) rfl ?_
        refine l_nil ?_
        refine q_then ?_
        refine c_false rfl rfl ?_
        refine c_skip ?_
        refine q_then ?_
        refine c_seq ?_
        refine c_region ?_
        refine st (y_assign rfl) rfl ?_
        refine l_nil ?_
        refine q_then ?_
        refine c_seq ?_
        refine c_seq ?_
        refine c_region ?_
        refine st (y_move rfl) rfl ?_
        refine l_nil ?_
        refine q_then ?_
        refine c_block ?_
        refine c_loop (fun k : Nat => [(1, vU i), (2, vP b1), (5, vS b s.length s.length), (7, vU (natOf (fun k => s.getD (i + k) false) k)), (23, vI (k : Nat))]) (fun k w' => k ≤ 64 ∧ w3 = w') (fun k => 64 - k) 0 ?_ ?_ ?_
        · exact ⟨rfl, rfl, rfl, rfl, rfl, trivial⟩
        · exact ⟨by omega, rfl⟩
        · rintro k w4 ⟨hk, rfl⟩
          have hlt := natOf_lt64 (fun k => s.getD (i + k) false) k hk
          refine c_seq ?_
          refine c_region ?_
          refine st_if (y_lt_i (b := 64) rfl rfl) rfl (fun hk64 => ?_) (fun hk64 => ?_)
          · refine l_nil ?_
            refine q_then ?_
            refine c_seq ?_
            refine c_true rfl rfl ?_
            refine c_skip ?_
            refine q_then ?_
            refine c_seq ?_
            refine c_block ?_
            refine c_seq ?_
            refine c_region ?_
            refine st (y_move rfl) rfl ?_
            refine st (y_assign rfl) rfl ?_
            refine l_nil ?_
            refine q_then ?_
            refine c_seq ?_
            refine c_region ?_
            refine st (y_move rfl) rfl ?_
            refine st (y_move rfl) rfl ?_
            refine st (y_conv_ui rfl us22 Try.underlying3 (by omega)) rfl ?_
            refine st (y_move rfl) rfl ?_
            refine st (y_add_i rfl rfl (by omega) (by omega)) rfl ?_
            refine sc rfl rfl isfn15 (c_Has b s (i + k) _ hBl (by omega)) rfl ?_
            rintro _ _ ⟨rfl, rfl⟩
            refine l_nil ?_
            refine q_then ?_
            refine c_ifb rfl (fun hbit => ?_) (fun hbit => ?_)
            · refine c_region ?_
              refine st (y_move rfl) rfl ?_
              refine st (y_move rfl) rfl ?_
              refine st (y_shl (a := 1) rfl rfl) rfl ?_
              refine st (y_or rfl rfl (by first | omega | assumption | (repeat (first | assumption | omega | decide | exact shl_lt64 _ _ | apply and_lt64 | apply or_lt64 | apply xor_lt64 | apply nt_lt | apply shr_lt64 | apply getD_lt64))) (by first | omega | assumption | (repeat (first | assumption | omega | decide | exact shl_lt64 _ _ | apply and_lt64 | apply or_lt64 | apply xor_lt64 | apply nt_lt | apply shr_lt64 | apply getD_lt64)))) rfl ?_
              refine st (y_assign rfl) rfl ?_
              refine l_nil ?_
              refine q_block ?_
              refine q_then ?_
              refine c_region ?_
              refine st (y_add_i (b := 1) rfl rfl (by omega) (by omega)) rfl ?_
              refine st (y_move rfl) rfl ?_
              refine l_nil ?_
              refine q_round (k + 1) ⟨rfl, rfl, rfl, ?_, rfl, trivial⟩ ⟨by omega, rfl⟩ (by omega)
              rw [← natOf_succ_or _ k (by omega) hbit]; rfl
            ·
              refine c_skip ?_
              refine q_block ?_
              refine q_then ?_
              refine c_region ?_
              refine st (y_add_i (b := 1) rfl rfl (by omega) (by omega)) rfl ?_
              refine st (y_move rfl) rfl ?_
              refine l_nil ?_
              refine q_round (k + 1) ⟨rfl, rfl, rfl, ?_, rfl, trivial⟩ ⟨by omega, rfl⟩ (by omega)
              simp only [natOf, hbit]; rfl
          ·
            have hk' : k = 64 := by omega
            subst hk'
            refine l_nil ?_
            refine q_then ?_
            refine c_seq ?_
            refine c_false rfl rfl ?_
            refine c_exit ?_
            refine q_then_exit ?_
            refine q_then_exit ?_
            refine q_block_hit ?_
            refine q_then ?_
            refine c_seq ?_
            refine c_region ?_
            refine st (y_loadagg rfl agg25 us25 sz25 (by assumption) (by simp) (by rfl)) rfl ?_
            refine st (y_move rfl) rfl ?_
            refine sc rfl rfl isfn17 (c_implWord L A n c xs i _ (hR.keep hK' (by simp)) ho (by omega)) rfl ?_
            rintro _ w5 ⟨rfl, hK4⟩
            refine st (y_move rfl) rfl ?_
            refine st_t (y_eq_u rfl rfl) (by rw [hs]; rfl) rfl ?_
            refine st (y_move rfl) rfl ?_
            refine scg rfl rfl rfl rfl isfn16 (c_three _) rfl ?_
            rintro _ w6 ⟨b3, rfl, hR3, hb3, hK5⟩
            refine scg rfl rfl rfl rfl isfn17 (c_implWord 9 _ 3 3 [1, 2, 5] 1 _ hR3 ⟨by omega, by omega, by decide⟩ (by omega)) rfl ?_
            rintro _ w7 ⟨rfl, hK6⟩
            refine stg_t rfl rfl (y_eq_u (b := 19) rfl rfl) (by decide) rfl ?_
            refine st (y_pickT rfl rfl) rfl ?_
            refine st (y_assign rfl) rfl ?_
            refine l_nil ?_
            refine q_then ?_
            refine c_ret ?_
            refine q_end1 (.inl rfl) rfl rfl ?_
            have hKK : Keep w _ [] := (((((Keep.refl w []).trans hK' (by intro i; simp only [List.mem_cons, List.not_mem_nil, or_false, false_or, false_implies] <;> omega)).trans hK4 (by intro i; simp only [List.mem_cons, List.not_mem_nil, or_false, false_or, false_implies] <;> omega)).trans hK5 (by intro i; simp only [List.mem_cons, List.not_mem_nil, or_false, false_or, false_implies] <;> omega)).trans hK6 (by intro i; simp only [List.mem_cons, List.not_mem_nil, or_false, false_or, false_implies] <;> omega))
            exact ⟨_, rfl, rfl, hKK⟩
    ·
      refine st (y_move rfl) rfl ?_
      refine st (y_extract rfl rfl) rfl ?_
      refine st (y_extract rfl rfl) rfl ?_
      refine st (y_assign rfl) rfl ?_
      refine st (y_assign rfl) rfl ?_
      refine l_nil ?_
      refine q_then ?_
      refine c_seq ?_
      refine c_seq ?_
      refine c_region ?_
      refine st (y_move rfl) rfl ?_
      refine st (y_not rfl) rfl ?_
      refine st (y_move rfl) rfl ?_
      refine sno rfl rfl rfl rfl ?_
      refine sno rfl rfl rfl rfl ?_
      refine st (y_pickT rfl rfl) rfl ?_
      refine l_nil ?_
      refine q_then ?_
      refine c_true rfl rfl ?_
      refine c_seq ?_
      refine c_region ?_
      refine st (y_assign rfl) rfl ?_
      refine l_nil ?_
      refine q_then ?_
      refine c_ret ?_
      refine q_then_ret ?_
      refine q_end1 (.inl rfl) rfl rfl ?_
      exact ⟨_, rfl, rfl, hK.trans hK3 (by simp)⟩

end Go.Proofs.Ytlhbbndedbacpaa

/- Numbers of a range are turned, or put in: the statement's own walk. -/
import Derived.Test.YtepmbglaalkbdaaDoorE2
import Derived.Test.YtepmbglaalkbdaaDoorN2
set_option linter.unusedVariables false
set_option linter.unusedSimpArgs false
set_option maxRecDepth 100000
namespace Go.Proofs.YtepmbglaalkbdaaDoor
open Go Go.RowKit

theorem c_FnRanges (L : Nat) (A : Option Addr) (n c : Nat) (xs : List Nat) (i j : Nat) (w : World) (hT : Tb w) (hR : Rd w A n xs) (hi : i < 18446744073709551616) (hj : j < 18446744073709551616) :
    Cal Tryd.prog 8 [aB L A n c, vU i, vU j] w fun v w' => v = vB true ∧ Keep w w' [] := by
  have hT0 := hT.1
  refine go_in' Tryd.func8 rfl Tryd.ntmps8 (Nat.le_of_ble_eq_true rfl) ?_
  refine c_seq ?_
  refine c_region ?_
  refine st_box _ rfl rfl rfl ?_
  intro b1 w1 hb1 hB1 hK1 hS1
  refine st (y_assign rfl) rfl ?_
  refine l_nil ?_
  refine q_then ?_
  refine c_seq ?_
  refine c_seq ?_
  refine c_region ?_
  refine st (y_loadagg rfl agg25 us25 sz25 (by assumption) (by simp) (by rfl)) rfl ?_
  refine sc rfl rfl isfn9 (c_zzFits1 L A n c _) rfl ?_
  rintro _ w2 ⟨rfl, hK2⟩
  have hB1 := hB1.keep hK2 (by simp only [List.mem_cons, List.not_mem_nil, or_false, not_or, not_false_eq_true] <;> omega)
  have hK := hK1.trans hK2 (by simp)
  clear hK1 hK2
  refine st (y_not rfl) rfl ?_
  refine l_nil ?_
  refine q_then ?_
  refine c_ifb rfl (fun hz => ?_) (fun hz => ?_)
  · refine c_seq ?_
    refine c_region ?_
    refine st (y_assign rfl) rfl ?_
    refine l_nil ?_
    refine q_then ?_
    refine c_ret ?_
    refine q_then_ret ?_
    refine q_end1 (.inl rfl) rfl rfl ?_
    exact ⟨_, rfl, rfl, hK⟩
  ·
    refine c_skip ?_
    refine q_then ?_
    refine c_seq ?_
    refine c_region ?_
    refine st (y_loadagg rfl agg25 us25 sz25 (by assumption) (by simp) (by rfl)) rfl ?_
    refine sc rfl rfl isfn10 (c_set L A n c xs _ (hR.keep hK (by simp))) rfl ?_
    rintro _ w3 ⟨hK3, ⟨ho, b, rfl, hBl, hb⟩ | rfl⟩
    · have hB1 := hB1.keep hK3 (by simp only [List.mem_cons, List.not_mem_nil, or_false, not_or, not_false_eq_true] <;> omega)
      have hK' := hK.trans hK3 (by simp)
      have hlen := ho.len
      clear hK hK3
      refine st (y_move rfl) rfl ?_
      refine st (y_extract rfl rfl) rfl ?_
      refine st (y_extract rfl rfl) rfl ?_
      refine st (y_assign rfl) rfl ?_
      refine st (y_assign rfl) rfl ?_
      refine l_nil ?_
      refine q_then ?_
      refine c_seq ?_
      refine c_seq ?_
      refine c_region ?_
      refine st (y_move rfl) rfl ?_
      refine st (y_not rfl) rfl ?_
      refine st (y_move rfl) rfl ?_
      refine stg rfl rfl (y_move rfl) rfl ?_
      refine stg_if rfl rfl (y_gt_u (b := 3000) rfl rfl) rfl (fun h1 => ?_) (fun h1 => ?_)
      · refine st (y_pickF rfl rfl) rfl ?_
        refine st (y_move rfl) rfl ?_
        refine sno rfl rfl rfl rfl ?_
        refine sno rfl rfl rfl rfl ?_
        refine st (y_pickT rfl rfl) rfl ?_
        refine l_nil ?_
        refine q_then ?_
        refine c_true rfl rfl ?_
        refine c_seq ?_
        refine c_region ?_
        refine st (y_assign rfl) rfl ?_
        refine l_nil ?_
        refine q_then ?_
        refine c_ret ?_
        refine q_then_ret ?_
        refine q_end1 (.inl rfl) rfl rfl ?_
        exact ⟨_, rfl, rfl, hK'⟩
      ·
        refine st (y_pickF rfl rfl) rfl ?_
        refine st (y_move rfl) rfl ?_
        refine stg rfl rfl (y_move rfl) rfl ?_
        refine stg_if rfl rfl (y_gt_u (b := 3000) rfl rfl) rfl (fun h2 => ?_) (fun h2 => ?_)
        · refine st (y_pickF rfl rfl) rfl ?_
          refine l_nil ?_
          refine q_then ?_
          refine c_true rfl rfl ?_
          refine c_seq ?_
          refine c_region ?_
          refine st (y_assign rfl) rfl ?_
          refine l_nil ?_
          refine q_then ?_
          refine c_ret ?_
          refine q_then_ret ?_
          refine q_end1 (.inl rfl) rfl rfl ?_
          exact ⟨_, rfl, rfl, hK'⟩
        ·
          obtain ⟨s, hs⟩ : ∃ s, mkS L xs = s := ⟨_, rfl⟩
          have hfl := (flipR_len s i j).1
          have hsl := setR_len s i j
          rw [hs] at hlen hBl ⊢
          have hbl3 := Blk.lt hBl
          have hb13 := Blk.lt hB1
          refine st (y_pickF rfl rfl) rfl ?_
          refine l_nil ?_
          refine q_then ?_
          refine c_false rfl rfl ?_
          refine c_skip ?_
          refine q_then ?_
          refine c_seq ?_
          refine c_region ?_
          refine st (y_move rfl) rfl ?_
          refine st (y_move rfl) rfl ?_
          refine st (y_assign rfl) rfl ?_
          refine st (y_assign rfl) rfl ?_
          refine l_nil ?_
          refine q_then ?_
          refine c_cut (fun x : (Value × Value) => [(1, vU i), (2, vU j), (3, vP b1), (9, x.1), (10, x.2)]) (fun x w' => Keep w w' [] ∧ Blk w' b1 25 [vU L, .slice A n c] ∧ (∃ A1 c1, x.1 = .slice A1 (flipR s i j).length c1 ∧ RdB w' A1 (flipR s i j).length (flipR s i j)) ∧ (∃ A2 c2, x.2 = .slice A2 (setR s i j).length c2 ∧ RdB w' A2 (setR s i j).length (setR s i j))) ?_ ?_
          · refine c_seq ?_
            refine c_region ?_
            refine st (y_move rfl) rfl ?_
            refine st (y_move rfl) rfl ?_
            refine st_if (y_lt_u rfl rfl) rfl (fun hlt => ?_) (fun hlt => ?_)
            · have hrb := hBl.rdB (by omega)
              refine l_nil ?_
              refine q_then ?_
              refine c_true rfl rfl ?_
              refine c_seq ?_
              refine c_region ?_
              refine st (y_move rfl) rfl ?_
              refine st (y_move rfl) rfl ?_
              refine st (y_conv_ui rfl us22 Tryd.underlying3 (by omega)) rfl ?_
              refine sc rfl rfl isfn25 (c_Longer _ _ _ s j _ hrb (by omega) (by omega)) rfl ?_
              rintro v4 w4 ⟨hO4, hK4⟩
              have hrb4 := hrb.keep hK4 (by simp)
              have hB1 := hB1.keep hK4 (by simp only [List.mem_cons, List.not_mem_nil, or_false, not_or, not_false_eq_true] <;> omega)
              have hK5 := hK'.trans hK4 (by simp)
              refine st (y_assign rfl) rfl ?_
              refine l_nil ?_
              refine q_then ?_
              refine c_seq ?_
              refine c_region ?_
              refine st (y_move rfl) rfl ?_
              refine st (y_move rfl) rfl ?_
              refine st (y_conv_ui rfl us22 Tryd.underlying3 (by omega)) rfl ?_
              refine sc rfl rfl isfn25 (c_Longer _ _ _ s j _ hrb4 (by omega) (by omega)) rfl ?_
              rintro v5 w5 ⟨hO5, hK6⟩
              have hB1 := hB1.keep hK6 (by simp only [List.mem_cons, List.not_mem_nil, or_false, not_or, not_false_eq_true] <;> omega)
              have hK7 := hK5.trans hK6 (by simp)
              have hO4' := hO4.keep hK6 (by simp)
              have hel := ext_length s j
              obtain ⟨bf, cf, tf, rfl, hbf, hBf, hcf, hmf⟩ := hO4'.row (by rw [List.length_map, hel]; omega)
              obtain ⟨bp, cp, tp, rfl, hbp, hBp, hcp, hmp⟩ := hO5.row (by rw [List.length_map, hel]; omega)
              have hlt4 : bf < w4.heap.size := by
                rcases hO4 with ⟨e, _⟩ | ⟨b', c', tl', e, _, hB', _⟩
                · cases e
                · cases e; exact hB'.lt
              have hsz4 := hK4.size
              have hsz5 := hK6.size
              rw [List.length_map] at hcf hcp ⊢
              refine st (y_assign rfl) rfl ?_
              refine l_nil ?_
              refine q_then ?_
              refine c_seq ?_
              refine c_region ?_
              refine st (y_move rfl) rfl ?_
              refine st (y_assign rfl) rfl ?_
              refine l_nil ?_
              refine q_then ?_
              refine c_block ?_
              refine c_loop (fun k : Nat => [(1, vU i), (2, vU j), (3, vP b1), (9, vS bf (ext s j).length cf), (10, vS bp (ext s j).length cp), (11, vU (i + k))]) (fun k w' => i + k ≤ j ∧ Keep w5 w' [bf, bp] ∧ ∃ u v : List Bool, u.length = (ext s j).length ∧ v.length = (ext s j).length ∧ Blk w' bf 4 (u.map vB ++ tf) ∧ Blk w' bp 4 (v.map vB ++ tp) ∧ (∀ m, u.getD m false = (s.getD m false ^^ inR i (i + k) m)) ∧ (∀ m, v.getD m false = (s.getD m false || inR i (i + k) m))) (fun k => j - i - k) 0 ?_ ?_ ?_
              · exact ⟨rfl, rfl, rfl, rfl, rfl, rfl, trivial⟩
              · have h00 : ∀ m, inR i (i + 0) m = false := fun m => by unfold inR; rw [← Bool.decide_and]; exact decide_eq_false (by omega)
                exact ⟨by omega, Keep.refl _ _, ext s j, ext s j, rfl, rfl, hBf, hBp, fun m => by rw [ext_getD, h00, Bool.xor_false], fun m => by rw [ext_getD, h00, Bool.or_false]⟩
              · rintro k w6 ⟨hk, hK8, u, v, hul, hvl, hBu, hBv, hub, hvb⟩
                refine c_seq ?_
                refine c_seq ?_
                refine c_region ?_
                refine st (y_move rfl) rfl ?_
                refine st (y_move rfl) rfl ?_
                refine st_if (y_lt_u rfl rfl) rfl (fun hlt2 => ?_) (fun hlt2 => ?_)
                · have hku : i + k < u.length := by omega
                  have hkv : i + k < v.length := by omega
                  have hgu := mapRow_get (tail := tf) hku
                  refine l_nil ?_
                  refine q_then ?_
                  refine c_true rfl rfl ?_
                  refine c_skip ?_
                  refine q_then ?_
                  refine c_seq ?_
                  refine c_block ?_
                  refine c_seq ?_
                  refine c_region ?_
                  refine st (y_move rfl) rfl ?_
                  refine st (y_move rfl) rfl ?_
                  refine st (y_move rfl) rfl ?_
                  refine st (y_move rfl) rfl ?_
                  refine st (y_index0 rfl rfl Tryd.underlying28 sz4 (by omega)) rfl ?_
                  refine st (y_loadb rfl one4 hBu hgu) rfl ?_
                  refine st (y_not rfl) rfl ?_
                  first | refine st (y_index0 rfl rfl Tryd.underlying28 sz4 (by omega)) rfl ?_ | refine st (y_index rfl rfl Tryd.underlying28 sz4 (by omega)) rfl ?_ | refine st (y_indexA rfl rfl Tryd.underlying28 sz4 (by omega)) rfl ?_
                  refine st_store rfl rfl rfl sz4 hBu (by simp; omega) rfl ?_
                  intro w7 hB7 hK9 hS7
                  have hB7' := setRow hB7 hku
                  have hBv7 := hBv.keep hK9 (by simp; omega)
                  refine l_nil ?_
                  refine q_then ?_
                  refine c_region ?_
                  refine st (y_move rfl) rfl ?_
                  refine st (y_move rfl) rfl ?_
                  first | refine st (y_index0 rfl rfl Tryd.underlying28 sz4 (by omega)) rfl ?_ | refine st (y_index rfl rfl Tryd.underlying28 sz4 (by omega)) rfl ?_ | refine st (y_indexA rfl rfl Tryd.underlying28 sz4 (by omega)) rfl ?_
                  refine st_store rfl rfl rfl sz4 hBv7 (by simp; omega) rfl ?_
                  intro w8 hB8 hK10 hS8
                  have hB8' := setRow hB8 hkv
                  have hBu8 := hB7'.keep hK10 (by simp; omega)
                  refine l_nil ?_
                  refine q_block ?_
                  refine q_then ?_
                  refine c_region ?_
                  refine st (y_move rfl) rfl ?_
                  refine st (y_add_u (b := 1) rfl rfl (by omega)) rfl ?_
                  refine st (y_assign rfl) rfl ?_
                  refine l_nil ?_
                  have hir : ∀ m, inR i (i + (k + 1)) m = (inR i (i + k) m || decide (m = i + k)) := fun m => by
                    unfold inR; simp only [← Bool.decide_and, ← Bool.decide_or]; exact decide_eq_decide.2 (by omega)
                  have hni : inR i (i + k) (i + k) = false := by unfold inR; rw [← Bool.decide_and]; exact decide_eq_false (by omega)
                  refine q_round (k + 1) ⟨rfl, rfl, rfl, rfl, rfl, rfl, trivial⟩ ⟨by omega, (hK8.trans hK9 (fun i hi => by simp only [List.mem_singleton] at hi; subst hi; simp)).trans hK10 (fun i hi => by simp only [List.mem_singleton] at hi; subst hi; simp), _, _, by simpa using hul, by simpa using hvl, hBu8, hB8', fun m => ?_, fun m => ?_⟩ (by omega)
                  · rw [set_getD _ _ _ _ hku, hir]
                    by_cases e : m = i + k
                    · rw [if_pos e, hub, hni, e, hni]; simp
                    · rw [if_neg e, hub]; simp [e]
                  · rw [set_getD _ _ _ _ hkv, hir]
                    by_cases e : m = i + k
                    · rw [if_pos e]; simp [e]
                    · rw [if_neg e, hvb]; simp [e]
                ·
                  have hke : i + k = j := by omega
                  rw [hke] at hub hvb
                  have eu : u = flipR s i j := bool_ext (by rw [hul, hel, flipR_length hlt]) fun m _ => by rw [hub, flipR_getD hlt]
                  have ev' : v = setR s i j := bool_ext (by rw [hvl, hel, setR_length hlt]) fun m _ => by rw [hvb, setR_getD hlt]
                  have hlu : (flipR s i j).length = (ext s j).length := by rw [← eu]; exact hul
                  have hlv : (setR s i j).length = (ext s j).length := by rw [← ev']; exact hvl
                  rw [eu] at hBu
                  rw [ev'] at hBv
                  have hOu := (rowOw hBu (Nat.zero_le _) (by omega) hmf).rdB.2
                  have hOv := (rowOw hBv (Nat.zero_le _) (by omega) hmp).rdB.2
                  have hB16 := hB1.keep hK8 (by simp only [List.mem_cons, List.not_mem_nil, or_false]; omega)
                  refine l_nil ?_
                  refine q_then ?_
                  refine c_false rfl rfl ?_
                  refine c_exit ?_
                  refine q_then_exit ?_
                  refine q_then_exit ?_
                  refine q_block_hit ?_
                  refine q_meet (vS bf (ext s j).length cf, vS bp (ext s j).length cp) ⟨rfl, rfl, rfl, rfl, rfl, trivial⟩ ⟨hK7.trans hK8 (fun i hi => by simp only [List.mem_cons, List.not_mem_nil, or_false] at hi; exact .inr (by have := hK'.size; omega)), hB16, ⟨_, _, by rw [hlu], hOu⟩, ⟨_, _, by rw [hlv], hOv⟩⟩
            ·
              have e1 : flipR s i j = s := by unfold flipR; rw [if_neg hlt]
              have e2 : setR s i j = s := by unfold setR; rw [if_neg hlt]
              refine l_nil ?_
              refine q_then ?_
              refine c_false rfl rfl ?_
              refine c_skip ?_
              refine q_meet (vS b s.length s.length, vS b s.length s.length) ⟨rfl, rfl, rfl, rfl, rfl, trivial⟩ ⟨hK', hB1, ⟨_, _, by rw [e1], by rw [e1]; exact hBl.rdB (by omega)⟩, ⟨_, _, by rw [e2], by rw [e2]; exact hBl.rdB (by omega)⟩⟩
          ·
            rintro ⟨va, vb⟩ w9 ⟨hK9, hB9, ⟨A1, c1, rfl, hR1⟩, ⟨A2, c2, rfl, hR2⟩⟩
            refine c_seq ?_
            refine c_region ?_
            refine st (y_loadagg rfl agg25 us25 sz25 (by assumption) (by simp) (by rfl)) rfl ?_
            refine st (y_move rfl) rfl ?_
            refine st (y_move rfl) rfl ?_
            refine sc rfl rfl isfn24 (c_implFlipRange L A n c xs i j _ (hT.keep hK9 (by simp)) (hR.keep hK9 (by simp)) (by have := ho.1; omega) (fun x h => by have := ho.2.2 x h; omega) (by omega) (by omega)) rfl ?_
            rintro _ w10 ⟨A4, c4, rfl, hO4, hK10⟩
            rw [hs] at hO4 ⊢
            have hB9 := hB9.keep hK10 (by simp only [List.mem_cons, List.not_mem_nil, or_false, not_or, not_false_eq_true] <;> omega)
            have hK11 := hK9.trans hK10 (by simp)
            refine st (y_move rfl) rfl ?_
            refine sc rfl rfl isfn11 (c_exactly _ _ _ _ _ _ _ _ _ _ hO4.rd' (hR1.keep hK10 (by simp)) (by omega) rfl rfl) rfl ?_
            rintro _ w12 ⟨rfl, hK12⟩
            have hB9 := hB9.keep hK12 (by simp only [List.mem_cons, List.not_mem_nil, or_false, not_or, not_false_eq_true] <;> omega)
            have hK13 := hK11.trans hK12 (by simp)
            refine st (y_move rfl) rfl ?_
            refine stg rfl rfl (y_loadagg rfl agg25 us25 sz25 (by assumption) (by simp) (by rfl)) rfl ?_
            refine stg rfl rfl (y_move rfl) rfl ?_
            refine stg rfl rfl (y_move rfl) rfl ?_
            refine scg rfl rfl rfl rfl isfn26 (c_implSetRange L A n c xs i j _ (hT.keep hK13 (by simp)) (hR.keep hK13 (by simp)) (by have := ho.1; omega) (fun x h => by have := ho.2.2 x h; omega) (by omega) (by omega)) rfl ?_
            rintro _ w14 ⟨A6, c6, rfl, hO6, hK14⟩
            rw [hs] at hO6 ⊢
            have hK15 := hK13.trans hK14 (by simp)
            refine stg rfl rfl (y_move rfl) rfl ?_
            refine scg rfl rfl rfl rfl isfn11 (c_exactly _ _ _ _ _ _ _ _ _ _ hO6.rd' (((hR2.keep hK10 (by simp)).keep hK12 (by simp)).keep hK14 (by simp)) (by omega) rfl rfl) rfl ?_
            rintro _ w16 ⟨rfl, hK16⟩
            have hK17 := hK15.trans hK16 (by simp)
            refine st (y_pickT rfl rfl) rfl ?_
            refine st (y_move rfl) rfl ?_
            refine scg rfl rfl rfl rfl isfn13 (c_alive _ (hT.keep hK17 (by simp))) rfl ?_
            rintro _ w18 ⟨rfl, hK18⟩
            refine st (y_pickT rfl rfl) rfl ?_
            refine st (y_assign rfl) rfl ?_
            refine l_nil ?_
            refine q_then ?_
            refine c_ret ?_
            refine q_end1 (.inl rfl) rfl rfl ?_
            exact ⟨_, rfl, rfl, hK17.trans hK18 (by simp)⟩
    ·
      refine st (y_move rfl) rfl ?_
      refine st (y_extract rfl rfl) rfl ?_
      refine st (y_extract rfl rfl) rfl ?_
      refine st (y_assign rfl) rfl ?_
      refine st (y_assign rfl) rfl ?_
      refine l_nil ?_
      refine q_then ?_
      refine c_seq ?_
      refine c_seq ?_
      refine c_region ?_
      refine st (y_move rfl) rfl ?_
      refine st (y_not rfl) rfl ?_
      refine st (y_move rfl) rfl ?_
      refine sno rfl rfl rfl rfl ?_
      refine sno rfl rfl rfl rfl ?_
      refine st (y_pickT rfl rfl) rfl ?_
      refine st (y_move rfl) rfl ?_
      refine sno rfl rfl rfl rfl ?_
      refine sno rfl rfl rfl rfl ?_
      refine st (y_pickT rfl rfl) rfl ?_
      refine l_nil ?_
      refine q_then ?_
      refine c_true rfl rfl ?_
      refine c_seq ?_
      refine c_region ?_
      refine st (y_assign rfl) rfl ?_
      refine l_nil ?_
      refine q_then ?_
      refine c_ret ?_
      refine q_then_ret ?_
      refine q_end1 (.inl rfl) rfl rfl ?_
      exact ⟨_, rfl, rfl, hK.trans hK3 (by simp)⟩

end Go.Proofs.YtepmbglaalkbdaaDoor

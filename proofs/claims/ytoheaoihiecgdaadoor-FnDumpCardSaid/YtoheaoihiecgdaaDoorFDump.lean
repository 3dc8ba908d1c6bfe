/- The text of a set as bits: the statement's own walk. -/
import Derived.Test.YtoheaoihiecgdaaDoorQ4
import Derived.Test.YtoheaoihiecgdaaDoorO2
set_option linter.unusedVariables false
set_option linter.unusedSimpArgs false
set_option maxRecDepth 100000
set_option maxHeartbeats 1000000
namespace Go.Proofs.YtoheaoihiecgdaaDoor
open Go Go.RowKit

theorem Ow.cell8 {w : World} {base b n c : Nat} {e : TypeId} {xs : List Nat} (h : Ow w base e (vS b n c) (xs.map v8)) : ∀ j, j < xs.length → w.cell? ((⟨b, 0, none⟩ : Addr).add j) = some (v8 (xs.getD j 0)) := by
  intro j hj
  obtain ⟨_, _, tail, hB, _⟩ := h.at
  rw [add_pt, Nat.zero_add]
  refine hB.cell ?_
  rw [List.getElem?_append_left (by simpa using hj), List.getElem?_map, List.getD_eq_getElem?_getD, List.getElem?_eq_getElem hj]; rfl

theorem c_FnDump (L : Nat) (A : Option Addr) (n c : Nat) (xs : List Nat) (w : World) (hT : Tb w) (hR : Rd w A n xs) :
    Cal Tryd.prog 4 [aB L A n c] w fun v w' => v = vB true ∧ Keep w w' [] := by
  have hT0 := hT.1
  refine go_in' Tryd.func4 rfl Tryd.ntmps4 (Nat.le_of_ble_eq_true rfl) ?_
  refine c_seq ?_
  refine c_region ?_
  refine st_box _ rfl rfl rfl ?_
  intro b1 w1 hb1 hB1 hK1 hS1
  refine st (y_assign rfl) rfl ?_
  refine l_nil ?_
  refine q_then ?_
  refine c_seq ?_
  refine c_seq ?_
  refine c_region ?_
  refine st (y_loadagg rfl agg25 us25 sz25 (by assumption) (by simp) (by rfl)) rfl ?_
  refine sc rfl rfl isfn5 (c_zzFits1 L A n c _) rfl ?_
  rintro _ w2 ⟨rfl, hK2⟩
  have hB1 := hB1.keep hK2 (by simp only [List.mem_cons, List.not_mem_nil, or_false, not_or, not_false_eq_true] <;> omega)
  have hK := hK1.trans hK2 (by simp)
  clear hK1 hK2
  refine st (y_not rfl) rfl ?_
  refine l_nil ?_
  refine q_then ?_
  refine c_ifb rfl (fun hz => ?_) (fun hz => ?_)
  · refine c_seq ?_
    refine c_region ?_
    refine st (y_assign rfl) rfl ?_
    refine l_nil ?_
    refine q_then ?_
    refine c_ret ?_
    refine q_then_ret ?_
    refine q_end1 (.inl rfl) rfl rfl ?_
    exact ⟨_, rfl, rfl, hK⟩
  ·
    refine c_skip ?_
    refine q_then ?_
    refine c_seq ?_
    refine c_region ?_
    refine st (y_loadagg rfl agg25 us25 sz25 (by assumption) (by simp) (by rfl)) rfl ?_
    refine sc rfl rfl isfn6 (c_set L A n c xs _ (hR.keep hK (by simp))) rfl ?_
    rintro _ w3 ⟨hK3, ⟨ho, b, rfl, hBl, hb⟩ | rfl⟩
    · have hB1 := hB1.keep hK3 (by simp only [List.mem_cons, List.not_mem_nil, or_false, not_or, not_false_eq_true] <;> omega)
      have hK' := hK.trans hK3 (by simp)
      have hlen := ho.len
      clear hK hK3
      obtain ⟨s, hs⟩ : ∃ s, mkS L xs = s := ⟨_, rfl⟩
      rw [hs] at hlen hBl ⊢
      have hpl := pack_length s
      have hnn : nW s.length ≤ 100 := by unfold nW; omega
      obtain ⟨N, hN⟩ : ∃ N, (pack s).length = N := ⟨_, rfl⟩
      have hNs : (s.length + 63) / 64 = N := by rw [← hN, hpl]; rfl
      have hlaw := dump_law (s := s) (ws := pack s) (n := N) (fun j hj => by rw [pack_getD])
      refine st (y_move rfl) rfl ?_
      refine st (y_extract rfl rfl) rfl ?_
      refine st (y_extract rfl rfl) rfl ?_
      refine st (y_assign rfl) rfl ?_
      refine st (y_assign rfl) rfl ?_
      refine l_nil ?_
      refine q_then ?_
      refine c_seq ?_
      refine c_seq ?_
      refine c_region ?_
      refine st (y_move rfl) rfl ?_
      refine st (y_not rfl) rfl ?_
      refine l_nil ?_
      refine q_then ?_
      refine c_false rfl rfl ?_
      refine c_skip ?_
      refine q_then ?_
      refine c_seq ?_
      refine c_region ?_
      refine st_buildSlice0 Tryd.underlying34 sz5 rfl ?_
      intro b5 w5 hb5 hB5 hK5 hS5
      have hB1 := hB1.keep hK5 (by simp only [List.mem_cons, List.not_mem_nil, or_false, not_or, not_false_eq_true] <;> omega)
      refine st_buildSlice0 Tryd.underlying34 sz5 rfl ?_
      intro b6 w6 hb6 hB6 hK6 hS6
      have hB1 := hB1.keep hK6 (by simp only [List.mem_cons, List.not_mem_nil, or_false, not_or, not_false_eq_true] <;> omega)
      have hB5 := hB5.keep hK6 (by simp only [List.mem_cons, List.not_mem_nil, or_false, not_or, not_false_eq_true] <;> omega)
      have hK16 := (hK'.trans hK5 (by simp)).trans hK6 (by simp)
      have hBl6 := (hBl.keep hK5 (by simp)).keep hK6 (by simp)
      have hl1 := hB1.lt
      have hbl6 := Blk.lt hBl6
      refine st (y_assign rfl) rfl ?_
      refine st (y_assign rfl) rfl ?_
      refine l_nil ?_
      refine q_then ?_
      refine c_seq ?_
      refine c_region ?_
      refine st (y_loadagg rfl agg25 us25 sz25 (by assumption) (by simp) (by rfl)) rfl ?_
      refine sc rfl rfl isfn10 (c_implDump L A n c xs _ (hR.keep hK16 (by simp)) (by have := ho.1; omega) (fun x h => by have := ho.2.2 x h; omega)) rfl ?_
      rintro _ w7 ⟨rfl, hK7⟩
      rw [hs, hN]
      have hB1 := hB1.keep hK7 (by simp only [List.mem_cons, List.not_mem_nil, or_false, not_or, not_false_eq_true] <;> omega)
      have hB5 := hB5.keep hK7 (by simp only [List.mem_cons, List.not_mem_nil, or_false, not_or, not_false_eq_true] <;> omega)
      have hB6 := hB6.keep hK7 (by simp only [List.mem_cons, List.not_mem_nil, or_false, not_or, not_false_eq_true] <;> omega)
      have hK17 := hK16.trans hK7 (by simp)
      have hBl7 := hBl6.keep hK7 (by simp)
      have hDl := digT_len (pack s) N 0
      have hD8 := digT_lt (pack s) N 0
      obtain ⟨D, hD⟩ : ∃ D, digT (pack s) N 0 = D := ⟨_, rfl⟩
      rw [hD] at hlaw hDl hD8 ⊢
      have hsz7 := hK7.size
      have hbls : b < b5 := by
        have := Blk.lt hBl
        omega
      have hwb5 : w.heap.size ≤ b5 := by have := hK'.size; omega
      have hO5 : Ow w7 b5 5 (vS b5 0 0) ([] : List Value) := Ow.empty hB5 (Nat.le_refl _)
      obtain ⟨Pk, hPk⟩ : ∃ f : Nat → List Nat, f = fun k => (D.take k).filter fun x => decide (x ≠ 46) := ⟨_, rfl⟩
      have hP0 : Pk 0 = [] := by rw [hPk]; simp
      refine st (y_assign rfl) rfl ?_
      refine l_nil ?_
      refine q_then ?_
      refine c_seq ?_
      refine c_seq ?_
      refine c_region ?_
      refine st (y_move rfl) rfl ?_
      refine st (y_lenS rfl Tryd.underlying9) rfl ?_
      rw [str_size]
      refine st (y_move (v := vI ((0 : Nat) : Int)) rfl) rfl ?_
      refine l_nil ?_
      refine q_then ?_
      refine c_block ?_
      refine c_loop (fun x : Nat × Nat × Nat => [(1, vP b1), (3, vS b s.length s.length), (5, vS x.2.1 (Pk x.1).length x.2.2), (6, vS b6 0 0), (7, .string (str D)), (25, vI (D.length : Nat)), (26, vI (x.1 : Nat))]) (fun x w' => x.1 ≤ D.length ∧ One8 w7 w' b5 x.2.1 x.2.2 (Pk x.1)) (fun x => D.length - x.1) (0, b5, 0) ?_ ?_ ?_
      · exact ⟨rfl, rfl, by rw [hP0]; rfl, rfl, rfl, rfl, rfl, trivial⟩
      · refine ⟨Nat.zero_le _, ?_⟩
        simp only
        rw [hP0]
        exact ⟨Keep.refl _ _, Nat.le_refl _, .inl rfl, hO5⟩
      · rintro ⟨k, pb, pc⟩ w9 ⟨hk, h3⟩
        simp only at hk h3 ⊢
        have hK9 := h3.keep
        have hsz9 := hK9.size
        refine c_seq ?_
        refine c_region ?_
        refine st_if (y_lt_i rfl rfl) rfl (fun hlt9 => ?_) (fun hlt9 => ?_)
        · have hkD : k < D.length := by omega
          have hP1 : Pk (k + 1) = Pk k ++ if decide (D.getD k 0 ≠ 46) = true then [D.getD k 0] else [] := by
            rw [hPk]; exact filter_take_succ _ D hkD
          have hPl : (Pk k).length ≤ 10000 := by
            have h4 := List.length_filter_le (fun x => decide (x ≠ 46)) (D.take k)
            rw [List.length_take] at h4
            rw [hPk]; simp only; omega
          obtain ⟨x, hx⟩ : ∃ x, D.getD k 0 = x := ⟨_, rfl⟩
          refine l_nil ?_
          refine q_then ?_
          refine c_seq ?_
          refine c_true rfl rfl ?_
          refine c_skip ?_
          refine q_then ?_
          refine c_seq ?_
          refine c_block ?_
          refine c_seq ?_
          refine c_region ?_
          refine st (y_move rfl) rfl ?_
          refine st (y_assign rfl) rfl ?_
          refine l_nil ?_
          refine q_then ?_
          refine c_seq ?_
          refine c_region ?_
          refine st (y_move rfl) rfl ?_
          refine st (y_move rfl) rfl ?_
          refine st (y_indexS rfl rfl Tryd.underlying9 hkD hD8) rfl ?_
          rw [hx] at hP1 ⊢
          refine st_if (y_ne_8 (b := 46) rfl rfl) rfl (fun h46 => ?_) (fun h46 => ?_)
          · rw [if_pos (by simpa using h46)] at hP1
            refine l_nil ?_
            refine q_then ?_
            refine c_true rfl rfl ?_
            refine c_region ?_
            refine st (y_move rfl) rfl ?_
            refine st (y_move rfl) rfl ?_
            refine st (y_move rfl) rfl ?_
            refine st (y_indexS rfl rfl Tryd.underlying9 hkD hD8) rfl ?_
            rw [hx]
            refine st_buildSlice [v8 x] Tryd.underlying34 sz5 zv5 rfl (by decide) (by decide) (by kernel_rfl) rfl ?_
            intro b11 w11 hb11 hB11 hK11 hS11
            have h4 := h3.move hK11
            have hO11 := h4.po
            obtain ⟨i5, hi1, hi2, hi3, hi4⟩ := info_parts inf5
            refine st_appendA (news := [v8 x]) rfl rfl Tryd.underlying34 hi1 hi2 hi3 (by omega) rfl rfl (news_one (by assumption)) (by intro u hu; simp only [List.mem_singleton] at hu; subst hu; rfl) (by assumption) (by first | omega | (simp only [List.length_map, List.length_nil, List.length_append, List.length_cons, List.length_take, List.length_drop]; omega) | simp) (by omega) (by omega) rfl ?_
            clear hi1 hi2 hi3 hi4
            intro b12 c12 w12 hb12 hO12 hK12
            rw [snoc_len8 (x := x), ← hP1, snoc_map8, ← hP1] at hO12
            rw [snoc_len8 (x := x), ← hP1]
            refine st (y_assign rfl) rfl ?_
            refine l_nil ?_
            refine q_block ?_
            refine q_then ?_
            refine c_region ?_
            first | refine st (y_add_in (b := 1) rfl rfl (by omega)) rfl ?_ | refine st (y_add_i (b := 1) rfl rfl (by omega) (by omega)) rfl ?_
            refine st (y_move rfl) rfl ?_
            refine l_nil ?_
            exact q_round (k + 1, b12, c12) ⟨rfl, rfl, rfl, rfl, rfl, rfl, rfl, trivial⟩ ⟨by simp only; omega, h4.app hb12 hO12 hK12⟩ (by simp only; omega)
          ·
            rw [if_neg (by simpa using h46), List.append_nil] at hP1
            refine l_nil ?_
            refine q_then ?_
            refine c_false rfl rfl ?_
            refine c_skip ?_
            refine q_block ?_
            refine q_then ?_
            refine c_region ?_
            first | refine st (y_add_in (b := 1) rfl rfl (by omega)) rfl ?_ | refine st (y_add_i (b := 1) rfl rfl (by omega) (by omega)) rfl ?_
            refine st (y_move rfl) rfl ?_
            refine l_nil ?_
            exact q_round (k + 1, pb, pc) ⟨rfl, rfl, by rw [hP1]; rfl, rfl, rfl, rfl, rfl, trivial⟩ ⟨by simp only; omega, by simp only; rw [hP1]; exact h3⟩ (by simp only; omega)
        ·
          have hke : k = D.length := by omega
          have hPe : Pk k = askT s N 0 := by
            rw [hPk, hke]; simp only
            rw [List.take_length]; exact hlaw
          have hK19 := hK17.trans hK9 (fun i hi => by simp only [List.mem_singleton] at hi; exact .inr (by omega))
          have hOg := h3.po
          rw [hPe] at hOg ⊢
          have hBl9 := hBl7.keep hK9 (by simp only [List.mem_singleton]; omega)
          have hB69 := hB6.keep hK9 (by simp only [List.mem_singleton]; omega)
          have hO6 : Ow w9 b6 5 (vS b6 0 0) ([] : List Value) := Ow.empty hB69 (Nat.le_refl _)
          have hpb : pb < w9.heap.size := hOg.at.1
          refine l_nil ?_
          refine q_then ?_
          refine c_seq ?_
          refine c_false rfl rfl ?_
          refine c_exit ?_
          refine q_then_exit ?_
          refine q_then_exit ?_
          refine q_block_hit ?_
          refine q_then ?_
          refine c_seq ?_
          refine c_seq ?_
          refine c_region ?_
          refine st (y_move rfl) rfl ?_
          refine st (y_len rfl Tryd.underlying28) rfl ?_
          first | refine st (y_add_in (b := 63) rfl rfl (by omega)) rfl ?_ | refine st (y_add_i (b := 63) rfl rfl (by omega) (by omega)) rfl ?_
          refine st (y_quo_i (b := 64) rfl rfl (by omega) (by omega)) rfl ?_
          rw [hNs]
          first | refine st (y_mul_in (b := 64) rfl rfl (by omega)) rfl ?_ | refine st (y_mul_i (b := 64) rfl rfl (by omega) (by omega)) rfl ?_
          rw [Nat.mul_comm N 64]
          refine st (y_sub_i (b := 1) rfl rfl (by omega) (by omega)) rfl ?_
          refine st (y_assign rfl) rfl ?_
          refine l_nil ?_
          refine q_then ?_
          refine c_block ?_
          refine c_loop (fun x : Nat × Nat × Nat => [(1, vP b1), (3, vS b s.length s.length), (5, vS pb (askT s N 0).length pc), (6, vS x.2.1 (askT s N x.1).length x.2.2), (9, vI ((x.1 : Int) - 1))]) (fun x w' => x.1 ≤ 64 * N ∧ One8 w9 w' b6 x.2.1 x.2.2 (askT s N x.1)) (fun x => x.1) (64 * N, b6, 0) ?_ ?_ ?_
          · exact ⟨rfl, rfl, rfl, by simp only; rw [askT_full]; rfl, rfl, trivial⟩
          · refine ⟨Nat.le_refl _, ?_⟩
            simp only
            rw [askT_full]
            exact ⟨Keep.refl _ _, Nat.le_refl _, .inl rfl, hO6⟩
          · rintro ⟨m, pb2, pc2⟩ w10 ⟨hm, h5⟩
            simp only at hm h5 ⊢
            have hK10 := h5.keep
            have hsz10 := hK10.size
            have hbnb : b ≠ b6 := by omega
            have hBl10 := hBl9.keep hK10 (by simpa using hbnb)
            have hal := askT_len s N m
            refine c_seq ?_
            refine c_seq ?_
            refine c_region ?_
            refine st (y_move rfl) rfl ?_
            refine st_if (y_ge_i (b := 0) rfl rfl) rfl (fun hge => ?_) (fun hge => ?_)
            · have hm0 : 0 < m := by omega
              rw [subOne hm0]
              have hstep := askT_step (s := s) hm0 hm
              refine l_nil ?_
              refine q_then ?_
              refine c_true rfl rfl ?_
              refine c_skip ?_
              refine q_then ?_
              refine c_seq ?_
              refine c_block ?_
              refine c_seq ?_
              refine c_region ?_
              refine st (y_move rfl) rfl ?_
              refine st (y_move rfl) rfl ?_
              refine sc rfl rfl isfn11 (c_Has b s (m - 1) _ hBl10 (by omega)) rfl ?_
              rintro _ _ ⟨rfl, rfl⟩
              refine l_nil ?_
              refine q_then ?_
              refine c_ifb rfl (fun hbit => ?_) (fun hbit => ?_)
              · rw [if_pos hbit] at hstep
                refine c_region ?_
                refine st (y_move rfl) rfl ?_
                refine st_buildSlice [v8 49] Tryd.underlying34 sz5 zv5 rfl (by decide) (by decide) (by kernel_rfl) rfl ?_
                intro b11 w11 hb11 hB11 hK11 hS11
                have h6 := h5.move hK11
                have hO11 := h6.po
                obtain ⟨i5, hi1, hi2, hi3, hi4⟩ := info_parts inf5
                refine st_appendA (news := [v8 49]) rfl rfl Tryd.underlying34 hi1 hi2 hi3 (by omega) rfl rfl (news_one (by assumption)) (by intro u hu; simp only [List.mem_singleton] at hu; subst hu; rfl) (by assumption) (by first | omega | (simp only [List.length_map, List.length_nil, List.length_append, List.length_cons, List.length_take, List.length_drop]; omega) | simp) (by omega) (by omega) rfl ?_
                clear hi1 hi2 hi3 hi4
                intro b12 c12 w12 hb12 hO12 hK12
                rw [snoc_len8 (x := 49), ← hstep, snoc_map8, ← hstep] at hO12
                rw [snoc_len8 (x := 49), ← hstep]
                refine st (y_assign rfl) rfl ?_
                refine l_nil ?_
                refine q_block ?_
                refine q_then ?_
                refine c_region ?_
                refine st (y_move rfl) rfl ?_
                refine st (y_sub_i (b := 1) rfl rfl (by omega) (by omega)) rfl ?_
                refine st (y_assign rfl) rfl ?_
                refine l_nil ?_
                exact q_round (m - 1, b12, c12) ⟨rfl, rfl, rfl, rfl, rfl, trivial⟩ ⟨by simp only; omega, h6.app hb12 hO12 hK12⟩ (by simp only; omega)
              ·
                rw [if_neg (by rw [hbit]; simp)] at hstep
                refine c_region ?_
                refine st (y_move rfl) rfl ?_
                refine st_buildSlice [v8 48] Tryd.underlying34 sz5 zv5 rfl (by decide) (by decide) (by kernel_rfl) rfl ?_
                intro b11 w11 hb11 hB11 hK11 hS11
                have h6 := h5.move hK11
                have hO11 := h6.po
                obtain ⟨i5, hi1, hi2, hi3, hi4⟩ := info_parts inf5
                refine st_appendA (news := [v8 48]) rfl rfl Tryd.underlying34 hi1 hi2 hi3 (by omega) rfl rfl (news_one (by assumption)) (by intro u hu; simp only [List.mem_singleton] at hu; subst hu; rfl) (by assumption) (by first | omega | (simp only [List.length_map, List.length_nil, List.length_append, List.length_cons, List.length_take, List.length_drop]; omega) | simp) (by omega) (by omega) rfl ?_
                clear hi1 hi2 hi3 hi4
                intro b12 c12 w12 hb12 hO12 hK12
                rw [snoc_len8 (x := 48), ← hstep, snoc_map8, ← hstep] at hO12
                rw [snoc_len8 (x := 48), ← hstep]
                refine st (y_assign rfl) rfl ?_
                refine l_nil ?_
                refine q_block ?_
                refine q_then ?_
                refine c_region ?_
                refine st (y_move rfl) rfl ?_
                refine st (y_sub_i (b := 1) rfl rfl (by omega) (by omega)) rfl ?_
                refine st (y_assign rfl) rfl ?_
                refine l_nil ?_
                exact q_round (m - 1, b12, c12) ⟨rfl, rfl, rfl, rfl, rfl, trivial⟩ ⟨by simp only; omega, h6.app hb12 hO12 hK12⟩ (by simp only; omega)
            ·
              have hm00 : m = 0 := by omega
              subst hm00
              have hpl2 := h3.pl
              have hpb6 : pb ≠ b6 := by omega
              have hOg10 := hOg.keepA hK10 (by simpa using hpb6)
              have hOw10 := h5.po
              have ha8 := askT_lt s N 0
              have hK20 := hK19.trans hK10 (fun i hi => by simp only [List.mem_singleton] at hi; exact .inr (by omega))
              refine l_nil ?_
              refine q_then ?_
              refine c_false rfl rfl ?_
              refine c_exit ?_
              refine q_then_exit ?_
              refine q_then_exit ?_
              refine q_block_hit ?_
              refine q_then ?_
              refine c_seq ?_
              refine c_region ?_
              refine st (y_move rfl) rfl ?_
              refine st (y_convBS rfl Tryd.underlying34 Tryd.underlying5 Tryd.underlying9 rfl ha8 hOg10.cell8) rfl ?_
              refine st (y_move rfl) rfl ?_
              refine st (y_convBS rfl Tryd.underlying34 Tryd.underlying5 Tryd.underlying9 rfl ha8 hOw10.cell8) rfl ?_
              refine st (y_eqST rfl rfl rfl) rfl ?_
              refine st (y_move rfl) rfl ?_
              refine scg rfl rfl rfl rfl isfn12 (c_alive _ (hT.keep hK20 (by simp))) rfl ?_
              rintro _ w28 ⟨rfl, hK28⟩
              refine st (y_pickT rfl rfl) rfl ?_
              refine st (y_assign rfl) rfl ?_
              refine l_nil ?_
              refine q_then ?_
              refine c_ret ?_
              refine q_end1 (.inl rfl) rfl rfl ?_
              exact ⟨_, rfl, rfl, hK20.trans hK28 (by simp)⟩
    ·
      refine st (y_move rfl) rfl ?_
      refine st (y_extract rfl rfl) rfl ?_
      refine st (y_extract rfl rfl) rfl ?_
      refine st (y_assign rfl) rfl ?_
      refine st (y_assign rfl) rfl ?_
      refine l_nil ?_
      refine q_then ?_
      refine c_seq ?_
      refine c_seq ?_
      refine c_region ?_
      refine st (y_move rfl) rfl ?_
      refine st (y_not rfl) rfl ?_
      refine l_nil ?_
      refine q_then ?_
      refine c_true rfl rfl ?_
      refine c_seq ?_
      refine c_region ?_
      refine st (y_assign rfl) rfl ?_
      refine l_nil ?_
      refine q_then ?_
      refine c_ret ?_
      refine q_then_ret ?_
      refine q_end1 (.inl rfl) rfl rfl ?_
      exact ⟨_, rfl, rfl, hK.trans hK3 (by simp)⟩

end Go.Proofs.YtoheaoihiecgdaaDoor

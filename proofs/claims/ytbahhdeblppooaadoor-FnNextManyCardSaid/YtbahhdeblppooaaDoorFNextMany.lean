/- As many numbers from one on as there is room for: slices.Clone, the thin package's, and the statement's own walk. -/
import Derived.Test.YtbahhdeblppooaaDoorQ1
import Derived.Test.YtbahhdeblppooaaDoorK16
import Derived.Test.YtbahhdeblppooaaDoorT2
import Derived.Test.YtbahhdeblppooaaDoorO1
set_option linter.unusedVariables false
set_option linter.unusedSimpArgs false
set_option maxRecDepth 100000
set_option maxHeartbeats 1000000
namespace Go.Proofs.YtbahhdeblppooaaDoor
open Go Go.RowKit

theorem Rd.news {w : World} {ad : Addr} {n : Nat} {xs : List Nat} (h : Rd w (some ad) n xs) : ∀ j u', (xs.map vU)[j]? = some u' → w.cell? (ad.add j) = some u' := by
  intro j u hj
  have hl := h.1
  rw [List.getElem?_map] at hj
  cases hs : xs[j]? with
  | none => rw [hs] at hj; cases hj
  | some x =>
    rw [hs] at hj
    obtain ⟨hlt, hx⟩ := List.getElem?_eq_some_iff.1 hs
    obtain ⟨ad', e, _, hc⟩ := h.2.2 (by omega)
    cases e
    rw [hc j (by omega), List.getD_eq_getElem?_getD, hs]
    exact hj
theorem one_vU (xs : List Nat) : ∀ u ∈ xs.map vU, u.oneCell' = true := by
  intro u hu
  obtain ⟨b, _, rfl⟩ := List.mem_map.1 hu
  rfl

theorem c_CloneU (A : Option Addr) (n c : Nat) (xs : List Nat) (hA : A = none → c = 0) (hn : n ≤ 100000) (w : World) (hR : Rd w A n xs) :
    Cal Tryd.prog 29 [.slice A n c] w fun v w' => Keep w w' [] ∧ ((n = 0 ∧ ∃ A' c', v = .slice A' 0 c') ∨ (0 < n ∧ ∃ b c', v = vS b n c' ∧ n ≤ c' ∧ c' ≤ 9223372036854775807 ∧ w.heap.size ≤ b ∧ Blk w' b 22 ((xs ++ List.replicate (c' - n) 0).map vU))) := by
  have hl := hR.1
  refine go_in' Tryd.func29 rfl Tryd.ntmps29 (Nat.le_of_ble_eq_true rfl) ?_
  rcases A with _ | ad
  · have hn0 : n = 0 := by
      rcases Nat.eq_zero_or_pos n with h | h
      · exact h
      · obtain ⟨_, e, _⟩ := hR.2.2 h; cases e
    refine c_seq ?_
    refine c_region ?_
    refine st (y_assign rfl) rfl ?_
    refine l_nil ?_
    refine q_then ?_
    refine c_seq ?_
    refine c_seq ?_
    refine c_region ?_
    refine st (y_move rfl) rfl ?_
    refine st (y_snil_eq rfl rfl Tryd.underlying23) rfl ?_
    refine l_nil ?_
    refine q_then ?_
    refine c_true rfl rfl ?_
    refine c_seq ?_
    refine c_region ?_
    refine st (y_assign rfl) rfl ?_
    refine l_nil ?_
    refine q_then ?_
    refine c_ret ?_
    refine q_then_ret ?_
    refine q_end1 (.inl rfl) rfl rfl ?_
    exact ⟨_, rfl, Keep.refl _ _, .inl ⟨hn0, none, 0, rfl⟩⟩
  ·
    refine c_seq ?_
    refine c_region ?_
    refine st (y_assign rfl) rfl ?_
    refine l_nil ?_
    refine q_then ?_
    refine c_seq ?_
    refine c_seq ?_
    refine c_region ?_
    refine st (y_move rfl) rfl ?_
    refine st (y_snil_eq rfl rfl Tryd.underlying23) rfl ?_
    refine l_nil ?_
    refine q_then ?_
    refine c_false rfl rfl ?_
    refine c_skip ?_
    refine q_then ?_
    refine c_seq ?_
    refine c_region ?_
    refine st_buildSlice0 Tryd.underlying23 sz22 rfl ?_
    intro b1 w1 hb1 hB1 hK1 hS1
    have hR1 := hR.keep hK1 (by simp)
    rcases Nat.eq_zero_or_pos n with h0 | h0
    · subst h0
      have hx0 : xs = [] := List.eq_nil_of_length_eq_zero hl
      subst hx0
      have hO : Ow w1 b1 22 (vS b1 0 0) ([] : List Value) := Ow.empty hB1 (Nat.le_refl _)
      refine st (y_move rfl) rfl ?_
      obtain ⟨i22, hi1, hi2, hi3, hi4⟩ := info_parts inf22
      refine st_appendB (news := []) rfl rfl Tryd.underlying23 hi1 hi2 hi3 (by omega) rfl (rfl) (fun j u' hj => by simp at hj) (fun u hu => by simp at hu) (by assumption) (by first | omega | (simp only [List.length_map, List.length_nil, List.length_append, List.length_cons, List.length_take, List.length_drop]; omega) | simp) (by omega) (by omega) rfl ?_
      clear hi1 hi2 hi3 hi4
      intro v2 w2 hO2 hK2
      obtain ⟨A2, c2, rfl⟩ := hO2.form
      refine st (y_assign rfl) rfl ?_
      refine l_nil ?_
      refine q_then ?_
      refine c_ret ?_
      refine q_end1 (.inl rfl) rfl rfl ?_
      exact ⟨_, rfl, hK1.trans hK2 (fun j hj => by simp only [List.mem_singleton] at hj; exact .inr (by omega)), .inl ⟨rfl, A2, c2, rfl⟩⟩
    ·
      refine st (y_move rfl) rfl ?_
      obtain ⟨i2, hi1, hi2, hi3, hi4⟩ := info_parts inf22
      refine st_appendE (news := xs.map vU) rfl rfl Tryd.underlying23 hi1 hi2 hi3 (by omega) rfl (by simpa using hl) hR1.news h0 (by omega) rfl ?_
      clear hi1 hi2 hi3 hi4
      intro c' w2 hc1 hc2 hB2 hK2 hS2
      refine st (y_assign rfl) rfl ?_
      refine l_nil ?_
      refine q_then ?_
      refine c_ret ?_
      refine q_end1 (.inl rfl) rfl rfl ?_
      refine ⟨_, rfl, hK1.trans hK2 (by simp), .inr ⟨h0, _, c', rfl, hc1, by unfold maxLen at hc2; omega, by omega, ?_⟩⟩
      rw [List.map_append, List.map_replicate]
      exact hB2

theorem c_implNextMany (L : Nat) (A : Option Addr) (n c : Nat) (xs : List Nat) (i m : Nat) (w : World) (hT : Tb w) (hR : Rd w A n xs) (hL : L ≤ 6000) (hx : ∀ x ∈ xs, x ≤ 6000) (hi : i ≤ 6000) (hm : m ≤ 200) :
    Cal Tryd.prog 15 [aB L A n c, vU i, vI (m : Nat)] w fun v w' => ∃ last W A' c', v = vT [vU last, .slice A' W.length c'] ∧ W = ((nums (mkS L xs)).filter fun x => decide (i ≤ x)).take m ∧ Rd w' A' W.length W ∧ (0 < W.length → last = W.getD (W.length - 1) 0) ∧ Keep w w' [] := by
  have hlen : (mkS L xs).length ≤ 6001 := mkS_length_le L 6001 xs (by omega) fun x h => by have := hx x h; omega
  have hT0 := hT.1
  refine go_in' Tryd.func15 rfl Tryd.ntmps15 (Nat.le_of_ble_eq_true rfl) ?_
  refine c_seq ?_
  refine c_region ?_
  refine st_box _ rfl rfl rfl ?_
  intro b1 w1 hb1 hB1 hK1 hS1
  refine st (y_assign (v := vU 0) rfl) rfl ?_
  refine st (y_assign rfl) rfl ?_
  refine l_nil ?_
  refine q_then ?_
  refine c_seq ?_
  refine c_region ?_
  refine st (y_loadagg rfl agg25 us25 sz25 (by assumption) (by simp) (by rfl)) rfl ?_
  refine sc rfl rfl isfn22 (c_made L A n c xs _ (hR.keep hK1 (by simp)) hL hx) rfl ?_
  rintro _ w3 ⟨p, q, rfl, hp, hq, hS, hK3⟩
  have hK13 := hK1.trans hK3 (by simp)
  obtain ⟨s, hs⟩ : ∃ s, mkS L xs = s := ⟨_, rfl⟩
  rw [hs] at hS hlen ⊢
  have hpq := hS.lts
  have hsz3 := hK3.size
  refine st (y_move rfl) rfl ?_
  refine st (y_extract rfl rfl) rfl ?_
  refine st (y_extract rfl rfl) rfl ?_
  refine st (y_assign rfl) rfl ?_
  refine st (y_assign rfl) rfl ?_
  refine l_nil ?_
  refine q_then ?_
  refine c_seq ?_
  refine c_seq ?_
  refine c_region ?_
  refine st (y_move rfl) rfl ?_
  refine st (y_not rfl) rfl ?_
  refine st (y_move rfl) rfl ?_
  refine stg rfl rfl (y_move rfl) rfl ?_
  refine stg_f rfl rfl (y_gt_u (b := 6000) rfl rfl) (by omega) rfl ?_
  refine st (y_pickF rfl rfl) rfl ?_
  refine st (y_move rfl) rfl ?_
  refine stg rfl rfl (y_move rfl) rfl ?_
  refine stg_f rfl rfl (y_lt_i (b := 0) rfl rfl) (by omega) rfl ?_
  refine st (y_pickF rfl rfl) rfl ?_
  refine st (y_move rfl) rfl ?_
  refine stg rfl rfl (y_move rfl) rfl ?_
  refine stg_f rfl rfl (y_gt_i (b := 200) rfl rfl) (by omega) rfl ?_
  refine st (y_pickF rfl rfl) rfl ?_
  refine l_nil ?_
  refine q_then ?_
  refine c_false rfl rfl ?_
  refine c_skip ?_
  refine q_then ?_
  refine c_seq ?_
  refine c_region ?_
  refine st (y_move rfl) rfl ?_
  refine st (y_move rfl) rfl ?_
  refine st (y_move rfl) rfl ?_
  refine mk23 rfl rfl (by omega) (by omega) rfl ?_
  intro b4 w4 hb4 hB4 hK4 hS4
  have hK14 := hK13.trans hK4 (by simp)
  have hT4 := hT.keep hK14 (by simp)
  have hS4' := hS.keep hK4 (by simp) (by simp)
  have hRoom : Room w4 b4 m [] := ⟨Nat.zero_le _, by simpa using hB4⟩
  refine sc rfl rfl isfn28 (c_NextSetMany p q s i b4 m _ hT4 hS4' (by omega) (by omega) (by omega) hRoom ⟨by omega, by omega⟩ (by omega)) rfl ?_
  rintro _ w5 ⟨last, W, rfl, hW, hRoom5, hlast, hK5⟩
  have hK15 := hK14.trans hK5 (fun j hj => by simp only [List.mem_singleton] at hj; exact .inr (by omega))
  have hWl : W.length ≤ m := hRoom5.le
  have hRW : Rd w5 (some ⟨b4, 0, none⟩) W.length W := by
    have h := Rd.of_row hRoom5.blk (o := 0) (m := W.length) (by simp) (by omega)
    rw [List.drop_zero, List.take_left' rfl] at h
    exact h
  refine st (y_move rfl) rfl ?_
  refine st (y_extract rfl rfl) rfl ?_
  refine st (y_extract rfl rfl) rfl ?_
  refine st (y_assign rfl) rfl ?_
  refine st (y_assign rfl) rfl ?_
  refine l_nil ?_
  refine q_then ?_
  refine c_seq ?_
  refine c_region ?_
  refine st (y_move rfl) rfl ?_
  refine st (y_move rfl) rfl ?_
  refine sc rfl rfl isfn29 (c_CloneU (some ⟨b4, 0, none⟩) W.length m W (fun h => by cases h) (by omega) _ hRW) rfl ?_
  rintro v6 w6 ⟨hK6, hcl⟩
  have hK16 := hK15.trans hK6 (by simp)
  rcases hcl with ⟨hn0, A', c', rfl⟩ | ⟨hn0, b, c', rfl, hc1, hc2, hb, hBb⟩
  · refine st (y_assign rfl) rfl ?_
    refine st (y_assign rfl) rfl ?_
    refine l_nil ?_
    refine q_then ?_
    refine c_ret ?_
    refine q_end2 (.inl rfl) rfl rfl rfl ?_
    refine ⟨_, rfl, last, W, A', c', by rw [hn0], hW, ⟨rfl, by omega, fun h => by omega⟩, hlast, hK16⟩
  ·
    refine st (y_assign rfl) rfl ?_
    refine st (y_assign rfl) rfl ?_
    refine l_nil ?_
    refine q_then ?_
    refine c_ret ?_
    refine q_end2 (.inl rfl) rfl rfl rfl ?_
    refine ⟨_, rfl, last, W, some ⟨b, 0, none⟩, c', rfl, hW, ?_, hlast, hK16⟩
    have h := Rd.of_row hBb (o := 0) (m := W.length) (by simp) (by omega)
    rw [List.drop_zero, List.take_left' rfl] at h
    exact h

theorem c_FnNextMany (L : Nat) (A : Option Addr) (n c : Nat) (xs : List Nat) (i m : Nat) (w : World) (hT : Tb w) (hR : Rd w A n xs) (hi : i < 18446744073709551616) (hm : m < 256) :
    Cal Tryd.prog 4 [aB L A n c, vU i, v8 m] w fun v w' => v = vB true ∧ Keep w w' [] := by
  have hT0 := hT.1
  refine go_in' Tryd.func4 rfl Tryd.ntmps4 (Nat.le_of_ble_eq_true rfl) ?_
  refine c_seq ?_
  refine c_region ?_
  refine st_box _ rfl rfl rfl ?_
  intro b1 w1 hb1 hB1 hK1 hS1
  refine st (y_assign rfl) rfl ?_
  refine l_nil ?_
  refine q_then ?_
  refine c_seq ?_
  refine c_seq ?_
  refine c_region ?_
  refine st (y_loadagg rfl agg25 us25 sz25 (by assumption) (by simp) (by rfl)) rfl ?_
  refine sc rfl rfl isfn8 (c_zzFits1 L A n c _) rfl ?_
  rintro _ w2 ⟨rfl, hK2⟩
  have hB1 := hB1.keep hK2 (by simp only [List.mem_cons, List.not_mem_nil, or_false, not_or, not_false_eq_true] <;> omega)
  have hK := hK1.trans hK2 (by simp)
  clear hK1 hK2
  refine st (y_not rfl) rfl ?_
  refine l_nil ?_
  refine q_then ?_
  refine c_ifb rfl (fun hz => ?_) (fun hz => ?_)
  · refine c_seq ?_
    refine c_region ?_
    refine st (y_assign rfl) rfl ?_
    refine l_nil ?_
    refine q_then ?_
    refine c_ret ?_
    refine q_then_ret ?_
    refine q_end1 (.inl rfl) rfl rfl ?_
    exact ⟨_, rfl, rfl, hK⟩
  ·
    refine c_skip ?_
    refine q_then ?_
    refine c_seq ?_
    refine c_region ?_
    refine st (y_loadagg rfl agg25 us25 sz25 (by assumption) (by simp) (by rfl)) rfl ?_
    refine sc rfl rfl isfn9 (c_set L A n c xs _ (hR.keep hK (by simp))) rfl ?_
    rintro _ w3 ⟨hK3, ⟨ho, b, rfl, hBl, hb⟩ | rfl⟩
    · have hB1 := hB1.keep hK3 (by simp only [List.mem_cons, List.not_mem_nil, or_false, not_or, not_false_eq_true] <;> omega)
      have hK' := hK.trans hK3 (by simp)
      have hlen := ho.len
      clear hK hK3
      obtain ⟨s, hs⟩ : ∃ s, mkS L xs = s := ⟨_, rfl⟩
      rw [hs] at hlen hBl ⊢
      have hcs := count_le s
      have hnl := nums_length s
      refine st (y_move rfl) rfl ?_
      refine st (y_extract rfl rfl) rfl ?_
      refine st (y_extract rfl rfl) rfl ?_
      refine st (y_assign rfl) rfl ?_
      refine st (y_assign rfl) rfl ?_
      refine l_nil ?_
      refine q_then ?_
      refine c_seq ?_
      refine c_seq ?_
      refine c_region ?_
      refine st (y_move rfl) rfl ?_
      refine st (y_not rfl) rfl ?_
      refine st (y_move rfl) rfl ?_
      refine stg rfl rfl (y_move rfl) rfl ?_
      refine stg_if rfl rfl (y_gt_u (b := 3000) rfl rfl) rfl (fun h1 => ?_) (fun h1 => ?_)
      · refine st (y_pickF rfl rfl) rfl ?_
        refine st (y_move rfl) rfl ?_
        refine sno rfl rfl rfl rfl ?_
        refine sno rfl rfl rfl rfl ?_
        refine st (y_pickT rfl rfl) rfl ?_
        refine l_nil ?_
        refine q_then ?_
        refine c_true rfl rfl ?_
        refine c_seq ?_
        refine c_region ?_
        refine st (y_assign rfl) rfl ?_
        refine l_nil ?_
        refine q_then ?_
        refine c_ret ?_
        refine q_then_ret ?_
        refine q_end1 (.inl rfl) rfl rfl ?_
        exact ⟨_, rfl, rfl, hK'⟩
      ·
        refine st (y_pickF rfl rfl) rfl ?_
        refine st (y_move rfl) rfl ?_
        refine stg rfl rfl (y_move rfl) rfl ?_
        refine stg_if rfl rfl (y_gt_8 (b := 200) rfl rfl) rfl (fun h2 => ?_) (fun h2 => ?_)
        · refine st (y_pickF rfl rfl) rfl ?_
          refine l_nil ?_
          refine q_then ?_
          refine c_true rfl rfl ?_
          refine c_seq ?_
          refine c_region ?_
          refine st (y_assign rfl) rfl ?_
          refine l_nil ?_
          refine q_then ?_
          refine c_ret ?_
          refine q_then_ret ?_
          refine q_end1 (.inl rfl) rfl rfl ?_
          exact ⟨_, rfl, rfl, hK'⟩
        ·
          have hl15 := hB1.lt
          refine st (y_pickF rfl rfl) rfl ?_
          refine l_nil ?_
          refine q_then ?_
          refine c_false rfl rfl ?_
          refine c_skip ?_
          refine q_then ?_
          refine c_seq ?_
          refine c_region ?_
          refine st_buildSlice0 Tryd.underlying23 sz22 rfl ?_
          intro b6 w6 hb6 hB6 hK6 hS6
          have hB1 := hB1.keep hK6 (by simp only [List.mem_cons, List.not_mem_nil, or_false, not_or, not_false_eq_true] <;> omega)
          have hK17 := hK'.trans hK6 (by simp)
          have hBl7 := hBl.keep hK6 (by simp)
          refine st (y_assign rfl) rfl ?_
          refine l_nil ?_
          refine q_then ?_
          refine c_seq ?_
          refine c_seq ?_
          refine c_region ?_
          refine st (y_move rfl) rfl ?_
          refine sc rfl rfl isfn14 (c_Numbers b s _ hBl7 (by omega)) rfl ?_
          rintro v8 w8 ⟨hO8, hK8⟩
          have hB1 := hB1.keep hK8 (by simp only [List.mem_cons, List.not_mem_nil, or_false, not_or, not_false_eq_true] <;> omega)
          have hB6 := hB6.keep hK8 (by simp only [List.mem_cons, List.not_mem_nil, or_false, not_or, not_false_eq_true] <;> omega)
          have hK18 := hK17.trans hK8 (by simp)
          have hsz15 := hK'.size
          have hsz8 := hK8.size
          obtain ⟨NA, Nc, rfl, hRN⟩ := hO8.rd
          have hNb : ∀ ad, NA = some ad → b6 < ad.block := by
            intro ad e
            subst e
            have := hO8.blk
            omega
          have hO6 : Ow w8 b6 22 (vS b6 0 0) ([] : List Value) := Ow.empty hB6 (Nat.le_refl _)
          have hbs1 : b1 < b6 := by omega
          rw [hnl] at hRN ⊢
          obtain ⟨Pk, hPk⟩ : ∃ f : Nat → List Nat, f = fun k => (((nums s).take k).filter fun x => decide (i ≤ x)).take m := ⟨_, rfl⟩
          have hP0 : Pk 0 = [] := by rw [hPk]; simp
          refine st (y_len rfl Tryd.underlying23) rfl ?_
          refine st (y_move (v := vI ((0 : Nat) : Int)) rfl) rfl ?_
          refine l_nil ?_
          refine q_then ?_
          refine c_block ?_
          refine c_loop (fun x : Nat × Nat × Nat => [(1, vU i), (2, v8 m), (3, vP b1), (9, vS x.2.1 (Pk x.1).length x.2.2), (34, .slice NA (count s) Nc), (35, vI (count s : Nat)), (36, vI (x.1 : Nat))]) (fun x w' => x.1 ≤ count s ∧ One w8 w' b6 x.2.1 x.2.2 (Pk x.1)) (fun x => count s - x.1) (0, b6, 0) ?_ ?_ ?_
          · exact ⟨rfl, rfl, rfl, by rw [hP0]; rfl, rfl, rfl, rfl, trivial⟩
          · refine ⟨Nat.zero_le _, ?_⟩
            simp only
            rw [hP0]
            exact ⟨Keep.refl _ _, Nat.le_refl _, .inl rfl, hO6⟩
          · rintro ⟨k, pb, pc⟩ w9 ⟨hk, h3⟩
            simp only at hk h3 ⊢
            have hK9 := h3.keep
            have hRN9 : Rd w9 NA (count s) (nums s) := by
              refine ⟨hRN.1, hRN.2.1, fun h0 => ?_⟩
              obtain ⟨ad, e, hadl, hc⟩ := hRN.2.2 h0
              refine ⟨ad, e, Nat.lt_of_lt_of_le hadl hK9.size, fun j hj => ?_⟩
              rw [← hc j hj]
              have := hNb ad e
              have e2 : (ad.add j).block = ad.block := by unfold Addr.add; split <;> rfl
              refine World.cell?_of_block (hK9.same _ (by omega) ?_)
              simp only [List.mem_singleton]; omega
            refine c_seq ?_
            refine c_region ?_
            refine st_if (y_lt_i rfl rfl) rfl (fun hlt9 => ?_) (fun hlt9 => ?_)
            · obtain ⟨ad, rfl, hadl, hcell⟩ := hRN9.2.2 (by omega)
              have hc := hcell k (by omega)
              have hPl : (Pk k).length ≤ m := by rw [hPk]; simp only [List.length_take]; omega
              have hP1 : Pk (k + 1) = if i ≤ (nums s).getD k 0 ∧ (Pk k).length < m then Pk k ++ [(nums s).getD k 0] else Pk k := by
                have := pick_step (xs := nums s) (i := i) (n := m) (k := k) (P := Pk k) (by omega) (by rw [hPk])
                rw [← this, hPk]
              obtain ⟨xk, hxk⟩ : ∃ x, (nums s).getD k 0 = x := ⟨_, rfl⟩
              rw [hxk] at hc hP1
              have hsz9 := hK9.size
              refine l_nil ?_
              refine q_then ?_
              refine c_seq ?_
              refine c_true rfl rfl ?_
              refine c_skip ?_
              refine q_then ?_
              refine c_seq ?_
              refine c_block ?_
              refine c_seq ?_
              refine c_region ?_
              first | refine st (y_index0 rfl rfl Tryd.underlying23 sz22 (by omega)) rfl ?_ | refine st (y_index rfl rfl Tryd.underlying23 sz22 (by omega)) rfl ?_ | refine st (y_indexA rfl rfl Tryd.underlying23 sz22 (by omega)) rfl ?_
              refine st (y_load rfl one22 (by assumption)) rfl ?_
              refine st (y_assign rfl) rfl ?_
              refine l_nil ?_
              refine q_then ?_
              refine c_seq ?_
              refine c_region ?_
              refine st (y_move rfl) rfl ?_
              refine st (y_move rfl) rfl ?_
              refine st_if (y_ge_u rfl rfl) rfl (fun hge => ?_) (fun hge => ?_)
              · refine st (y_move rfl) rfl ?_
                refine stg rfl rfl (y_move rfl) rfl ?_
                refine stg rfl rfl (y_len rfl Tryd.underlying23) rfl ?_
                refine stg rfl rfl (y_move rfl) rfl ?_
                refine stg rfl rfl (y_conv_8i rfl us5 Tryd.underlying3 (by omega)) rfl ?_
                refine stg_if rfl rfl (y_lt_i rfl rfl) rfl (fun hroom => ?_) (fun hroom => ?_)
                · rw [if_pos ⟨by omega, by omega⟩] at hP1
                  refine st (y_pickT rfl rfl) rfl ?_
                  refine l_nil ?_
                  refine q_then ?_
                  refine c_true rfl rfl ?_
                  refine c_region ?_
                  refine st (y_move rfl) rfl ?_
                  refine st (y_move rfl) rfl ?_
                  refine st_buildSlice [vU xk] Tryd.underlying23 sz22 zv22 rfl (by decide) (by decide) (by kernel_rfl) rfl ?_
                  intro b11 w11 hb11 hB11 hK11 hS11
                  have h4 := h3.move hK11
                  have hO11 := h4.po
                  obtain ⟨i22, hi1, hi2, hi3, hi4⟩ := info_parts inf22
                  refine st_appendA (news := [vU xk]) rfl rfl Tryd.underlying23 hi1 hi2 hi3 (by omega) rfl rfl (news_one (by assumption)) (by intro u hu; simp only [List.mem_singleton] at hu; subst hu; rfl) (by assumption) (by first | omega | (simp only [List.length_map, List.length_nil, List.length_append, List.length_cons, List.length_take, List.length_drop]; omega) | simp) (by omega) (by omega) rfl ?_
                  clear hi1 hi2 hi3 hi4
                  intro b12 c12 w12 hb12 hO12 hK12
                  rw [snoc_len (x := xk), ← hP1, snoc_map, ← hP1] at hO12
                  rw [snoc_len (x := xk), ← hP1]
                  refine st (y_assign rfl) rfl ?_
                  refine l_nil ?_
                  refine q_block ?_
                  refine q_then ?_
                  refine c_region ?_
                  first | refine st (y_add_in (b := 1) rfl rfl (by omega)) rfl ?_ | refine st (y_add_i (b := 1) rfl rfl (by omega) (by omega)) rfl ?_
                  refine st (y_move rfl) rfl ?_
                  refine l_nil ?_
                  exact q_round (k + 1, b12, c12) ⟨rfl, rfl, rfl, rfl, rfl, rfl, rfl, trivial⟩ ⟨by simp only; omega, h4.app hb12 hO12 hK12⟩ (by simp only; omega)
                ·
                  rw [if_neg (by omega)] at hP1
                  refine st (y_pickT rfl rfl) rfl ?_
                  refine l_nil ?_
                  refine q_then ?_
                  refine c_false rfl rfl ?_
                  refine c_skip ?_
                  refine q_block ?_
                  refine q_then ?_
                  refine c_region ?_
                  first | refine st (y_add_in (b := 1) rfl rfl (by omega)) rfl ?_ | refine st (y_add_i (b := 1) rfl rfl (by omega) (by omega)) rfl ?_
                  refine st (y_move rfl) rfl ?_
                  refine l_nil ?_
                  exact q_round (k + 1, pb, pc) ⟨rfl, rfl, rfl, by rw [hP1]; rfl, rfl, rfl, rfl, trivial⟩ ⟨by simp only; omega, by simp only; rw [hP1]; exact h3⟩ (by simp only; omega)
              ·
                rw [if_neg (by omega)] at hP1
                refine st (y_move rfl) rfl ?_
                refine sno rfl rfl rfl rfl ?_
                refine sno rfl rfl rfl rfl ?_
                refine sno rfl rfl rfl rfl ?_
                refine sno rfl rfl rfl rfl ?_
                refine sno rfl rfl rfl rfl ?_
                refine st (y_pickF rfl rfl) rfl ?_
                refine l_nil ?_
                refine q_then ?_
                refine c_false rfl rfl ?_
                refine c_skip ?_
                refine q_block ?_
                refine q_then ?_
                refine c_region ?_
                first | refine st (y_add_in (b := 1) rfl rfl (by omega)) rfl ?_ | refine st (y_add_i (b := 1) rfl rfl (by omega) (by omega)) rfl ?_
                refine st (y_move rfl) rfl ?_
                refine l_nil ?_
                exact q_round (k + 1, pb, pc) ⟨rfl, rfl, rfl, by rw [hP1]; rfl, rfl, rfl, rfl, trivial⟩ ⟨by simp only; omega, by simp only; rw [hP1]; exact h3⟩ (by simp only; omega)
            ·
              have hke : k = count s := by omega
              have htake : (nums s).take k = nums s := List.take_of_length_le (by omega)
              have hPe : Pk k = ((nums s).filter fun x => decide (i ≤ x)).take m := by
                rw [hPk]; simp only
                rw [htake]
              have hK19 := hK18.trans hK9 (fun i hi => by simp only [List.mem_singleton] at hi; exact .inr (by omega))
              have hB19 := hB1.keep hK9 (by simp only [List.mem_singleton]; omega)
              have hRp := h3.po.rd'
              clear hB1
              refine l_nil ?_
              refine q_then ?_
              refine c_seq ?_
              refine c_false rfl rfl ?_
              refine c_exit ?_
              refine q_then_exit ?_
              refine q_then_exit ?_
              refine q_block_hit ?_
              refine q_then ?_
              refine c_seq ?_
              refine c_region ?_
              refine st (y_loadagg rfl agg25 us25 sz25 (by assumption) (by simp) (by rfl)) rfl ?_
              refine st (y_move rfl) rfl ?_
              refine st (y_move rfl) rfl ?_
              refine st (y_conv_8i rfl us5 Tryd.underlying3 (by omega)) rfl ?_
              refine sc rfl rfl isfn15 (c_implNextMany L A n c xs i m _ (hT.keep hK19 (by simp)) (hR.keep hK19 (by simp)) (by have := ho.1; omega) (fun x h => by have := ho.2.2 x h; omega) (by omega) (by omega)) rfl ?_
              rintro _ w20 ⟨last, W, A20, c20, rfl, hW, hRW, hlast, hK20⟩
              rw [hs] at hW
              have hK21 := hK19.trans hK20 (by simp)
              refine st (y_move rfl) rfl ?_
              refine st (y_extract rfl rfl) rfl ?_
              refine st (y_extract rfl rfl) rfl ?_
              refine st (y_assign rfl) rfl ?_
              refine st (y_assign rfl) rfl ?_
              refine l_nil ?_
              refine q_then ?_
              refine c_seq ?_
              refine c_region ?_
              refine st (y_move rfl) rfl ?_
              refine st (y_move rfl) rfl ?_
              refine sc rfl rfl isfn16 (c_list _ _ _ _ _ _ _ _ _ hRW (hRp.keep hK20 (by simp)) (by rw [hW, hPe])) rfl ?_
              rintro _ w22 ⟨rfl, hK22⟩
              have hK23 := hK21.trans hK22 (by simp)
              have hRW2 := hRW.keep hK22 (by simp)
              refine st (y_move rfl) rfl ?_
              refine stg rfl rfl (y_move rfl) rfl ?_
              refine stg rfl rfl (y_len rfl Tryd.underlying23) rfl ?_
              refine stg_if rfl rfl (y_eq_i (b := 0) rfl rfl) rfl (fun h0 => ?_) (fun h0 => ?_)
              · refine stg rfl rfl (y_move rfl) rfl ?_
                refine sno rfl rfl rfl rfl ?_
                refine sno rfl rfl rfl rfl ?_
                refine sno rfl rfl rfl rfl ?_
                refine sno rfl rfl rfl rfl ?_
                refine sno rfl rfl rfl rfl ?_
                refine sno rfl rfl rfl rfl ?_
                refine sno rfl rfl rfl rfl ?_
                refine sno rfl rfl rfl rfl ?_
                refine stg rfl rfl (y_pickT rfl rfl) rfl ?_
                refine st (y_pickT rfl rfl) rfl ?_
                refine st (y_move rfl) rfl ?_
                refine scg rfl rfl rfl rfl isfn17 (c_alive _ (hT.keep hK23 (by simp))) rfl ?_
                rintro _ w28 ⟨rfl, hK28⟩
                refine st (y_pickT rfl rfl) rfl ?_
                refine st (y_assign rfl) rfl ?_
                refine l_nil ?_
                refine q_then ?_
                refine c_ret ?_
                refine q_end1 (.inl rfl) rfl rfl ?_
                exact ⟨_, rfl, rfl, hK23.trans hK28 (by simp)⟩
              ·
                obtain ⟨ad, rfl, had, hcell⟩ := hRW2.2.2 (by omega)
                have hc := hcell (W.length - 1) (by omega)
                have hll := hlast (by omega)
                have hWm : W.length ≤ m := by rw [hW, List.length_take]; omega
                rw [← hll] at hc
                refine stg rfl rfl (y_move rfl) rfl ?_
                refine stg rfl rfl (y_move rfl) rfl ?_
                refine stg rfl rfl (y_move rfl) rfl ?_
                refine stg rfl rfl (y_move rfl) rfl ?_
                refine stg rfl rfl (y_len rfl Tryd.underlying23) rfl ?_
                refine stg rfl rfl (y_sub_i (b := 1) rfl rfl (by omega) (by omega)) rfl ?_
                rw [show ((W.length : Int) - 1) = ((W.length - 1 : Nat) : Int) by omega]
                first | refine stg rfl rfl (y_index0 rfl rfl Tryd.underlying23 sz22 (by omega)) rfl ?_ | refine stg rfl rfl (y_index rfl rfl Tryd.underlying23 sz22 (by omega)) rfl ?_ | refine stg rfl rfl (y_indexA rfl rfl Tryd.underlying23 sz22 (by omega)) rfl ?_
                refine stg rfl rfl (y_load rfl one22 (by assumption)) rfl ?_
                refine stg_t rfl rfl (y_eq_u rfl rfl) (rfl) rfl ?_
                refine stg rfl rfl (y_pickF rfl rfl) rfl ?_
                refine st (y_pickT rfl rfl) rfl ?_
                refine st (y_move rfl) rfl ?_
                refine scg rfl rfl rfl rfl isfn17 (c_alive _ (hT.keep hK23 (by simp))) rfl ?_
                rintro _ w28 ⟨rfl, hK28⟩
                refine st (y_pickT rfl rfl) rfl ?_
                refine st (y_assign rfl) rfl ?_
                refine l_nil ?_
                refine q_then ?_
                refine c_ret ?_
                refine q_end1 (.inl rfl) rfl rfl ?_
                exact ⟨_, rfl, rfl, hK23.trans hK28 (by simp)⟩
    ·
      refine st (y_move rfl) rfl ?_
      refine st (y_extract rfl rfl) rfl ?_
      refine st (y_extract rfl rfl) rfl ?_
      refine st (y_assign rfl) rfl ?_
      refine st (y_assign rfl) rfl ?_
      refine l_nil ?_
      refine q_then ?_
      refine c_seq ?_
      refine c_seq ?_
      refine c_region ?_
      refine st (y_move rfl) rfl ?_
      refine st (y_not rfl) rfl ?_
      refine st (y_move rfl) rfl ?_
      refine sno rfl rfl rfl rfl ?_
      refine sno rfl rfl rfl rfl ?_
      refine st (y_pickT rfl rfl) rfl ?_
      refine st (y_move rfl) rfl ?_
      refine sno rfl rfl rfl rfl ?_
      refine sno rfl rfl rfl rfl ?_
      refine st (y_pickT rfl rfl) rfl ?_
      refine l_nil ?_
      refine q_then ?_
      refine c_true rfl rfl ?_
      refine c_seq ?_
      refine c_region ?_
      refine st (y_assign rfl) rfl ?_
      refine l_nil ?_
      refine q_then ?_
      refine c_ret ?_
      refine q_then_ret ?_
      refine q_end1 (.inl rfl) rfl rfl ?_
      exact ⟨_, rfl, rfl, hK.trans hK3 (by simp)⟩

end Go.Proofs.YtbahhdeblppooaaDoor

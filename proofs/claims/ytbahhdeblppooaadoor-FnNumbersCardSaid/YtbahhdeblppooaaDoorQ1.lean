/- NextSetMany, by its contract. -/
import Derived.Test.YtbahhdeblppooaaDoorT1
import Derived.Test.YtbahhdeblppooaaDoorB1
import Derived.Test.YtbahhdeblppooaaDoorK15
import Derived.Test.YtbahhdeblppooaaDoorL25
set_option linter.unusedVariables false
set_option linter.unusedSimpArgs false
set_option maxRecDepth 100000
set_option maxHeartbeats 2000000
namespace Go.Proofs.YtbahhdeblppooaaDoor
open Go Go.RowKit

theorem set_room {P : List Nat} {n v k : Nat} (hk : P.length = k) (h : k < n) : (P ++ List.replicate (n - P.length) 0).set k v = (P ++ [v]) ++ List.replicate (n - (P ++ [v]).length) 0 := by
  subst hk
  rw [List.set_append_right _ _ (Nat.le_refl _), Nat.sub_self]
  obtain ⟨m, hm⟩ : ∃ m, n - P.length = m + 1 := ⟨n - P.length - 1, by omega⟩
  rw [hm, List.replicate_succ, List.set_cons_zero, List.append_assoc]
  simp only [List.length_append, List.length_singleton]
  rw [show n - (P.length + 1) = m by omega]
  rfl
/-- what there is room for, in a row of its own -/
structure Room (w : World) (b n : Nat) (P : List Nat) : Prop where
  le : P.length ≤ n
  blk : Blk w b 22 ((P ++ List.replicate (n - P.length) 0).map vU)
theorem Room.keep {w w' : World} {b n : Nat} {P : List Nat} {L : List Nat} (h : Room w b n P) (k : Keep w w' L) (hb : b ∉ L) : Room w' b n P := ⟨h.le, h.blk.keep k hb⟩
theorem Room.len {w : World} {b n : Nat} {P : List Nat} (h : Room w b n P) : (P ++ List.replicate (n - P.length) 0).length = n := by have := h.le; simp; omega
theorem last_room {P : List Nat} {v n : Nat} : ((P ++ [v]) ++ List.replicate n 0).getD P.length 0 = v := by
  simp [List.getD_eq_getElem?_getD]
theorem last_room' {P : List Nat} {n : Nat} (h : 0 < P.length) : (P ++ List.replicate n 0).getD (P.length - 1) 0 = P.getD (P.length - 1) 0 := by
  rw [List.getD_eq_getElem?_getD, List.getElem?_append_left (by omega), ← List.getD_eq_getElem?_getD]

theorem lastA {P : List Nat} {v n k : Nat} (h : P.length = k) : ((P ++ [v]) ++ List.replicate n 0).getD k 0 = (P ++ [v]).getD ((P ++ [v]).length - 1) 0 := by
  subst h
  rw [last_room]
  simp [List.getD_eq_getElem?_getD]
theorem lastB {P : List Nat} {n k : Nat} (h : P.length = k) (h0 : 0 < k) : (P ++ List.replicate n 0).getD (k - 1) 0 = P.getD (P.length - 1) 0 := by
  subst h
  exact last_room' h0

theorem c_NextSetMany (p q : Nat) (s : List Bool) (i b n : Nat) (w : World) (hT : Tb w) (hB : BSet w p q s) (hi : i ≤ 100000) (hs : s.length ≤ 100001) (hn : n ≤ 1000) (hR : Room w b n []) (hbp : b ≠ p ∧ b ≠ q) (hbT : 0 ≠ b) :
    Cal Tryd.prog 28 [vP p, vU i, vS b n n] w fun v w' => ∃ last W, v = vT [vU last, vS b W.length n] ∧ W = ((nums s).filter fun x => decide (i ≤ x)).take n ∧ Room w' b n W ∧ (0 < W.length → last = W.getD (W.length - 1) 0) ∧ Keep w w' [b] := by
  obtain ⟨tl, hB⟩ := hB
  have hst := hB.st
  have hlen := pack_length s
  have hdiv := shr6 i
  have hmod : i &&& 63 = i % 64 := and63 i
  have hnl : (pack s).length ≤ 2000 := by rw [pack_length]; unfold nW; omega
  have hns : s.length ≤ 64 * (pack s).length := by rw [pack_length]; unfold nW; omega
  have hg : ∀ j, j < (pack s).length → (pack s ++ tl).getD j 0 = wordAt s j := fun j hj => by
    rw [List.getD_eq_getElem?_getD, List.getElem?_append_left hj, ← List.getD_eq_getElem?_getD, pack_getD]
  have hfin : ∀ y k, (numsB s i y).length = k → (k = n ∨ (s.length ≤ y ∧ k ≤ n)) → numsB s i y = ((nums s).filter fun x => decide (i ≤ x)).take n := by
    intro y k hk h
    rcases h with h | ⟨h, h2⟩
    · exact (numsB_take (by omega)).symm
    · rw [← numsB_end (i := i) h, List.take_of_length_le (by omega)]
  have hself := numsB_self s i
  refine go_in' Tryd.func28 rfl Tryd.ntmps28 (Nat.le_of_ble_eq_true rfl) ?_
  refine c_seq ?_
  refine c_region ?_
  refine st (y_assign (v := vU 0) rfl) rfl ?_
  refine st (y_assign rfl) rfl ?_
  refine l_nil ?_
  refine q_then ?_
  refine c_seq ?_
  refine c_region ?_
  refine st (y_move rfl) rfl ?_
  refine st (y_cap rfl Tryd.underlying23) rfl ?_
  refine st (y_assign rfl) rfl ?_
  refine l_nil ?_
  refine q_then ?_
  refine c_seq ?_
  refine c_region ?_
  refine st (y_move rfl) rfl ?_
  refine st (y_move rfl) rfl ?_
  refine st (y_slice_h rfl rfl Tryd.underlying23 sz22 (by omega)) rfl ?_
  refine st (y_assign rfl) rfl ?_
  refine l_nil ?_
  refine q_then ?_
  refine c_seq ?_
  refine c_region ?_
  refine st (y_move rfl) rfl ?_
  refine st (y_shr (k := 6) rfl rfl (by first | omega | assumption | (repeat (first | assumption | omega | decide | exact shl_lt64 _ _ | apply and_lt64 | apply or_lt64 | apply xor_lt64 | apply nt_lt | apply shr_lt64 | apply getD_lt64)))) rfl ?_
  rw [hdiv]
  refine st (y_conv_ui rfl us22 Tryd.underlying3 (by omega)) rfl ?_
  refine st (y_assign rfl) rfl ?_
  refine l_nil ?_
  refine q_then ?_
  refine c_seq ?_
  refine c_seq ?_
  refine c_region ?_
  refine st (y_move rfl) rfl ?_
  refine st (y_move rfl) rfl ?_
  refine st (y_nil rfl) rfl ?_
  refine st (fa66_1 rfl) rfl ?_
  refine st (y_loadb rfl one64 (by assumption) (by rfl)) rfl ?_
  refine st (y_len rfl Tryd.underlying64) rfl ?_
  refine st_if (y_ge_i rfl rfl) rfl (fun hge => ?_) (fun hge => ?_)
  · refine st (y_move rfl) rfl ?_
    refine sno rfl rfl rfl rfl ?_
    refine sno rfl rfl rfl rfl ?_
    refine st (y_pickT rfl rfl) rfl ?_
    refine l_nil ?_
    refine q_then ?_
    refine c_true rfl rfl ?_
    refine c_seq ?_
    refine c_still mixed (by kernel_rfl) ?_
    refine ss (y_move rfl) rfl ?_
    refine ss (y_slice_h (h := 0) rfl rfl Tryd.underlying23 sz22 (by omega)) rfl ?_
    refine ss (y_assign (v := vU 0) rfl) rfl ?_
    refine ss (y_assign rfl) rfl ?_
    refine s_nil ?_
    refine q_then ?_
    refine c_ret ?_
    refine q_then_ret ?_
    refine q_end2 (.inl rfl) rfl rfl rfl ?_
    have e := hfin i 0 (by rw [hself]; rfl) (.inr ⟨by omega, Nat.zero_le _⟩)
    rw [hself] at e
    exact ⟨_, rfl, 0, [], rfl, e, hR.keep (Keep.drew _ []) (by simp), fun h => absurd h (by simp), Keep.drew _ _⟩
  ·
    refine st (y_move rfl) rfl ?_
    refine stg rfl rfl (y_move rfl) rfl ?_
    refine stg_if rfl rfl (y_eq_i (b := 0) rfl rfl) rfl (fun hn0 => ?_) (fun hn0 => ?_)
    · refine st (y_pickF rfl rfl) rfl ?_
      refine l_nil ?_
      refine q_then ?_
      refine c_true rfl rfl ?_
      refine c_seq ?_
      refine c_still mixed (by kernel_rfl) ?_
      refine ss (y_move rfl) rfl ?_
      refine ss (y_slice_h (h := 0) rfl rfl Tryd.underlying23 sz22 (by omega)) rfl ?_
      refine ss (y_assign (v := vU 0) rfl) rfl ?_
      refine ss (y_assign rfl) rfl ?_
      refine s_nil ?_
      refine q_then ?_
      refine c_ret ?_
      refine q_then_ret ?_
      refine q_end2 (.inl rfl) rfl rfl rfl ?_
      have hn0' : n = 0 := by omega
      subst hn0'
      exact ⟨_, rfl, 0, [], rfl, by simp, hR.keep (Keep.drew _ []) (by simp), fun h => absurd h (by simp), Keep.drew _ _⟩
    ·
      have e1 := hg (i / 64) (by omega)
      have hl1 := wordAt_lt s (i / 64)
      have hKd : Keep w w.drew [] := Keep.drew w []
      have hTd := hT.keep hKd (by simp)
      have hRd0 := hR.keep hKd (by simp)
      refine st (y_pickF rfl rfl) rfl ?_
      refine l_nil ?_
      refine q_then ?_
      refine c_false rfl rfl ?_
      refine c_skip ?_
      refine q_then ?_
      refine c_seq ?_
      refine c_tail 10 mixed (by kernel_rfl) ?_
      have hst := hst.drew
      have hwd := hB.wd.drew
      refine ss (y_move rfl) rfl ?_
      refine ss (y_nil rfl) rfl ?_
      refine ss (fa66_1 rfl) rfl ?_
      refine ss (y_loadb rfl one64 (by assumption) (by rfl)) rfl ?_
      refine ss (y_move rfl) rfl ?_
      first | refine ss (y_index0 rfl rfl Tryd.underlying64 sz67 (by omega)) rfl ?_ | refine ss (y_index rfl rfl Tryd.underlying64 sz67 (by omega)) rfl ?_ | refine ss (y_indexA rfl rfl Tryd.underlying64 sz67 (by omega)) rfl ?_
      first | refine ss (y_loadM (0) rfl one67 (by assumption) (by first | omega | (simp only [List.length_append, List.length_map, List.length_replicate, List.length_set, List.length_take, List.length_drop]; omega) | (simp; done))) rfl ?_ | refine ss (y_load rfl one67 (by assumption)) rfl ?_
      refine ss (y_move rfl) rfl ?_
      rw [e1]
      refine ssc rfl rfl isfn40 (c_wordsIndex _ (by omega) _) rfl ?_
      rw [hmod]
      have hlt : wordAt s (i / 64) >>> (i % 64) < 18446744073709551616 := by
        rw [Nat.shiftRight_eq_div_pow]; exact Nat.lt_of_le_of_lt (Nat.div_le_self _ _) hl1
      have hWl0 := Wl.here s i
      obtain ⟨e, he⟩ : ∃ e, 64 * (i / 64 + 1) = e := ⟨_, rfl⟩
      obtain ⟨x0, hx0⟩ : ∃ x, wordAt s (i / 64) >>> (i % 64) = x := ⟨_, rfl⟩
      rw [he, hx0] at hWl0
      have hBd := hB.keep hKd (by simp) (by simp)
      refine ss (y_shr rfl rfl (by first | omega | assumption | (repeat (first | assumption | omega | decide | exact shl_lt64 _ _ | apply and_lt64 | apply or_lt64 | apply xor_lt64 | apply nt_lt | apply shr_lt64 | apply getD_lt64)))) rfl ?_
      refine s_nil ?_
      show wpL _ _ _ _ _ _ _ _
      refine st (y_assign rfl) rfl ?_
      refine l_nil ?_
      refine q_then ?_
      refine c_seq ?_
      refine c_region ?_
      refine st (y_assign (v := vI ((0 : Nat) : Int)) rfl) rfl ?_
      refine l_nil ?_
      refine q_then ?_
      refine c_seq ?_
      refine c_block ?_
      rw [hx0] at hlt ⊢
      clear hst hwd
      refine c_loop (fun x : Nat × Nat => [(0, vP p), (1, vU i), (8, vI (n : Nat)), (9, vS b n n), (10, vI ((i / 64 : Nat) : Int)), (11, vU x.1), (12, vI (x.2 : Nat))]) (fun x w' => x.1 < 18446744073709551616 ∧ x.2 < n ∧ ∃ y, i ≤ y ∧ y ≤ e ∧ Wl s i e y x.1 ∧ (numsB s i y).length = x.2 ∧ Room w' b n (numsB s i y) ∧ Keep w.drew w' [b]) (fun x => x.1) (x0, 0) ?_ ?_ ?_
      · exact ⟨rfl, rfl, rfl, rfl, rfl, rfl, rfl, trivial⟩
      · exact ⟨hlt, by simp only; omega, i, Nat.le_refl _, by omega, hWl0, by rw [hself]; rfl, by rw [hself]; exact hRd0, Keep.refl _ _⟩
      · rintro ⟨x, k⟩ w2 ⟨hx, hk, y, hy, hye, hWl, hkl, hRoom, hK2⟩
        simp only at hx hk hWl hkl ⊢
        have hT2 := hTd.keep hK2 (by simp only [List.mem_singleton]; exact hbT)
        obtain ⟨P, hP⟩ : ∃ P, numsB s i y = P := ⟨_, rfl⟩
        refine c_seq ?_
        refine c_seq ?_
        refine c_region ?_
        refine st (y_move rfl) rfl ?_
        refine st_if (y_ne_u (b := 0) rfl rfl) rfl (fun hx0 => ?_) (fun hx0 => ?_)
        · obtain ⟨hnx, hlx⟩ := hWl.nxt hx0 hx hy
          have hxl := hnx.lt
          have hP1 := numsB_nxt hnx hy
          rw [hP] at hP1 hkl hRoom
          have hle := hRoom.le
          have hrl := hRoom.len
          have hbk := hRoom.blk
          have hset := set_room (P := P) (n := n) (v := i + tz x) hkl hk
          have hWl3 := hWl.step hx0 hx hy
          refine l_nil ?_
          refine q_then ?_
          refine c_true rfl rfl ?_
          refine c_skip ?_
          refine q_then ?_
          refine c_block ?_
          refine c_seq ?_
          refine c_region ?_
          refine st (y_move rfl) rfl ?_
          refine st (y_move rfl) rfl ?_
          refine st (y_move rfl) rfl ?_
          refine st (y_move rfl) rfl ?_
          refine sc rfl rfl isfn41 (c_TrailingZeros64 _ hx _ hT2) rfl ?_
          rintro _ _ ⟨rfl, rfl⟩
          refine st (y_conv_iu rfl us3 Tryd.underlying22 rfl (by omega)) rfl ?_
          refine st (y_add_u rfl rfl (by omega)) rfl ?_
          first | refine st (y_index0 rfl rfl Tryd.underlying23 sz22 (by omega)) rfl ?_ | refine st (y_index rfl rfl Tryd.underlying23 sz22 (by omega)) rfl ?_ | refine st (y_indexA rfl rfl Tryd.underlying23 sz22 (by omega)) rfl ?_
          refine st_storeM vU rfl rfl rfl sz22 (by assumption) (by first | omega | (simp only [List.length_append, List.length_map, List.length_replicate, List.length_set, List.length_take, List.length_drop]; omega)) rfl ?_
          intro w3 hB3 hK3 hS3
          rw [hset] at hB3
          have hRoom3 : Room w3 b n (P ++ [i + tz x]) := ⟨by simp; omega, hB3⟩
          have hK23 := hK2.trans hK3 (fun j hj => .inl hj)
          have hl3 : (P ++ [i + tz x]).length = k + 1 := by simp; omega
          have hr3 := hRoom3.len
          refine l_nil ?_
          refine q_then ?_
          refine c_seq ?_
          refine c_region ?_
          refine st (y_move rfl) rfl ?_
          first | refine st (y_add_in (b := 1) rfl rfl (by omega)) rfl ?_ | refine st (y_add_i (b := 1) rfl rfl (by omega) (by omega)) rfl ?_
          refine st (y_assign rfl) rfl ?_
          refine l_nil ?_
          refine q_then ?_
          refine c_seq ?_
          refine c_seq ?_
          refine c_region ?_
          refine st (y_move rfl) rfl ?_
          refine st (y_move rfl) rfl ?_
          refine st_if (y_eq_i rfl rfl) rfl (fun hkn => ?_) (fun hkn => ?_)
          · have hkn' : k + 1 = n := by omega
            have hRoom4 := hRoom3.keep (Keep.drew w3 []) (by simp)
            have hbk4 := hRoom4.blk
            refine l_nil ?_
            refine q_then ?_
            refine c_true rfl rfl ?_
            refine c_seq ?_
            refine c_still mixed (by kernel_rfl) ?_
            refine ss (y_move rfl) rfl ?_
            refine ss (y_move rfl) rfl ?_
            refine ss (y_sub_i (b := 1) rfl rfl (by omega) (by omega)) rfl ?_
            rw [show (((k + 1 : Nat) : Int) - 1) = ((k : Nat) : Int) by omega]
            first | refine ss (y_index0 rfl rfl Tryd.underlying23 sz22 (by omega)) rfl ?_ | refine ss (y_index rfl rfl Tryd.underlying23 sz22 (by omega)) rfl ?_ | refine ss (y_indexA rfl rfl Tryd.underlying23 sz22 (by omega)) rfl ?_
            first | refine ss (y_loadM (0) rfl one22 (by assumption) (by first | omega | (simp only [List.length_append, List.length_map, List.length_replicate, List.length_set, List.length_take, List.length_drop]; omega) | (simp; done))) rfl ?_ | refine ss (y_load rfl one22 (by assumption)) rfl ?_
            refine ss (y_move rfl) rfl ?_
            refine ss (y_move rfl) rfl ?_
            refine ss (y_slice_h rfl rfl Tryd.underlying23 sz22 (by omega)) rfl ?_
            refine ss (y_assign rfl) rfl ?_
            refine ss (y_assign rfl) rfl ?_
            refine s_nil ?_
            refine q_then ?_
            refine c_ret ?_
            refine q_then_ret ?_
            refine q_block_ret ?_
            refine q_then_ret ?_
            refine q_block_ret ?_
            refine q_then_ret ?_
            refine q_end2 (.inl rfl) rfl rfl rfl ?_
            refine ⟨_, rfl, _, P ++ [i + tz x], by rw [hl3], ?_, hRoom4, fun _ => ?_, hKd.trans' (hK23.trans (Keep.drew _ []) (by simp))⟩
            · rw [← hP1]; exact hfin _ n (by rw [hP1, hl3]; exact hkn') (.inl rfl)
            · exact lastA hkl
          ·
            refine l_nil ?_
            refine q_then ?_
            refine c_false rfl rfl ?_
            refine c_skip ?_
            refine q_then ?_
            refine c_region ?_
            refine st (y_move rfl) rfl ?_
            refine st (y_move rfl) rfl ?_
            refine st (y_sub_u (b := 1) rfl rfl (by omega) (by omega)) rfl ?_
            refine st (y_and rfl rfl (by first | omega | assumption | (repeat (first | assumption | omega | decide | exact shl_lt64 _ _ | apply and_lt64 | apply or_lt64 | apply xor_lt64 | apply nt_lt | apply shr_lt64 | apply getD_lt64))) (by first | omega | assumption | (repeat (first | assumption | omega | decide | exact shl_lt64 _ _ | apply and_lt64 | apply or_lt64 | apply xor_lt64 | apply nt_lt | apply shr_lt64 | apply getD_lt64)))) rfl ?_
            refine st (y_assign rfl) rfl ?_
            refine l_nil ?_
            refine q_block ?_
            refine q_round (x &&& (x - 1), k + 1) ⟨rfl, rfl, rfl, rfl, rfl, rfl, rfl, trivial⟩ ⟨Nat.lt_of_le_of_lt Nat.and_le_left hx, by simp only; omega, i + tz x + 1, by omega, by omega, hWl3, by rw [hP1, hl3], by rw [hP1]; exact hRoom3, hK23⟩ ?_
            have := clr_lt hx
            simp only
            omega
        ·
          have hx00 : x = 0 := by omega
          subst hx00
          have hgap := numsB_gap (i := i) (hWl.none hy) hye
          rw [hP] at hgap
          rw [hP, ← hgap] at hkl
          rw [hP, ← hgap] at hRoom
          clear hP hT2 hWl hx hx0 hgap
          have hB2 := hBd.keep hK2 (by simp only [List.mem_singleton]; exact hbp.1.symm) (by simp only [List.mem_singleton]; exact hbp.2.symm)
          have hst := hB2.st
          refine l_nil ?_
          refine q_then ?_
          refine c_false rfl rfl ?_
          refine c_exit ?_
          refine q_then_exit ?_
          refine q_then_exit ?_
          refine q_block_hit ?_
          refine q_then ?_
          refine c_seq ?_
          refine c_region ?_
          refine st (y_move rfl) rfl ?_
          first | refine st (y_add_in (b := 1) rfl rfl (by omega)) rfl ?_ | refine st (y_add_i (b := 1) rfl rfl (by omega) (by omega)) rfl ?_
          refine st (y_assign rfl) rfl ?_
          refine l_nil ?_
          refine q_then ?_
          refine c_seq ?_
          refine c_seq ?_
          refine c_region ?_
          refine st (y_move rfl) rfl ?_
          refine st (y_nil rfl) rfl ?_
          refine st (fa66_1 rfl) rfl ?_
          refine st (y_loadb rfl one64 (by assumption) (by rfl)) rfl ?_
          refine st (y_move rfl) rfl ?_
          refine st (y_slice_l rfl rfl Tryd.underlying64 sz67 (by omega)) rfl ?_
          obtain ⟨As, hAs⟩ : ∃ As, some (if (pack s).length + tl.length = i / 64 + 1 then (⟨q, 0, none⟩ : Addr) else ⟨q, 0 + (i / 64 + 1), none⟩) = As := ⟨_, rfl⟩
          rw [hAs]
          subst he
          clear hst
          refine st (y_len rfl Tryd.underlying64) rfl ?_
          refine st (y_move (v := vI ((0 : Nat) : Int)) rfl) rfl ?_
          refine l_nil ?_
          refine q_then ?_
          refine c_block ?_
          refine c_loop (fun x : Nat × Nat => [(0, vP p), (8, vI (n : Nat)), (9, vS b n n), (10, vI ((i / 64 + 1 : Nat) : Int)), (12, vI (x.2 : Nat)), (80, .slice As ((pack s).length - (i / 64 + 1)) ((pack s).length + tl.length - (i / 64 + 1))), (81, vI (((pack s).length - (i / 64 + 1) : Nat) : Int)), (82, vI (x.1 : Nat))]) (fun x w' => x.1 ≤ (pack s).length - (i / 64 + 1) ∧ x.2 < n ∧ (numsB s i (64 * (i / 64 + 1 + x.1))).length = x.2 ∧ Room w' b n (numsB s i (64 * (i / 64 + 1 + x.1))) ∧ Keep w.drew w' [b]) (fun x => (pack s).length - (i / 64 + 1) - x.1) (0, k) ?_ ?_ ?_
          · exact ⟨rfl, rfl, rfl, rfl, rfl, rfl, rfl, rfl, trivial⟩
          · exact ⟨Nat.zero_le _, hk, hkl, hRoom, hK2⟩
          · clear hk hkl hRoom hK2 hB2 hy hye
            clear k w2
            rintro ⟨r, k⟩ w2 ⟨hr, hk, hkl, hRoom, hK2⟩
            simp only at hr hk hkl hRoom ⊢
            have hB2 := hBd.keep hK2 (by simp only [List.mem_singleton]; exact hbp.1.symm) (by simp only [List.mem_singleton]; exact hbp.2.symm)
            have hRd := hB2.rds (l := i / 64 + 1) (by omega)
            rw [hAs] at hRd
            refine c_seq ?_
            refine c_region ?_
            refine st_if (y_lt_i rfl rfl) rfl (fun hlt2 => ?_) (fun hlt2 => ?_)
            · obtain ⟨ad, rfl, had, hcell⟩ := hRd.2.2 (by omega)
              have hc := hcell r (by omega)
              have ew : ((pack s).drop (i / 64 + 1)).getD r 0 = wordAt s (i / 64 + 1 + r) := by
                rw [List.getD_eq_getElem?_getD, List.getElem?_drop, ← List.getD_eq_getElem?_getD, pack_getD]
              rw [ew] at hc
              have hl2 := wordAt_lt s (i / 64 + 1 + r)
              have hWlr := Wl.word s (i / 64 + 1 + r)
              refine l_nil ?_
              refine q_then ?_
              refine c_seq ?_
              refine c_true rfl rfl ?_
              refine c_skip ?_
              refine q_then ?_
              refine c_seq ?_
              refine c_block ?_
              refine c_seq ?_
              refine c_region ?_
              refine st (y_move rfl) rfl ?_
              first | refine st (y_index0 rfl rfl Tryd.underlying64 sz67 (by omega)) rfl ?_ | refine st (y_index rfl rfl Tryd.underlying64 sz67 (by omega)) rfl ?_ | refine st (y_indexA rfl rfl Tryd.underlying64 sz67 (by omega)) rfl ?_
              refine st (y_load rfl one67 (by assumption)) rfl ?_
              refine st (y_assign rfl) rfl ?_
              refine st (y_assign rfl) rfl ?_
              refine l_nil ?_
              refine q_then ?_
              refine c_block ?_
              refine c_loop (fun x : Nat × Nat => [(0, vP p), (8, vI (n : Nat)), (9, vS b n n), (10, vI ((i / 64 + 1 : Nat) : Int)), (12, vI (x.2 : Nat)), (13, vI (r : Nat)), (14, vU x.1), (80, .slice (some ad) ((pack s).length - (i / 64 + 1)) ((pack s).length + tl.length - (i / 64 + 1))), (81, vI (((pack s).length - (i / 64 + 1) : Nat) : Int)), (82, vI (r : Nat))]) (fun x w' => x.1 < 18446744073709551616 ∧ x.2 < n ∧ ∃ y, 64 * (i / 64 + 1 + r) ≤ y ∧ y ≤ 64 * (i / 64 + 1 + r + 1) ∧ Wl s (64 * (i / 64 + 1 + r)) (64 * (i / 64 + 1 + r + 1)) y x.1 ∧ (numsB s i y).length = x.2 ∧ Room w' b n (numsB s i y) ∧ Keep w.drew w' [b]) (fun x => x.1) (wordAt s (i / 64 + 1 + r), k) ?_ ?_ ?_
              · exact ⟨rfl, rfl, rfl, rfl, rfl, rfl, rfl, rfl, rfl, rfl, trivial⟩
              · exact ⟨hl2, hk, _, Nat.le_refl _, by omega, hWlr, hkl, hRoom, hK2⟩
              · clear hk hkl hRoom hB2 hRd hcell hc hWlr had
                have hK2c := hK2
                clear hK2c hK2
                clear k w2
                rintro ⟨x, k⟩ w2 ⟨hx, hk, y, hy, hye, hWl, hkl, hRoom, hK2⟩
                simp only at hx hk hWl hkl ⊢
                have hT2 := hTd.keep hK2 (by simp only [List.mem_singleton]; exact hbT)
                obtain ⟨P, hP⟩ : ∃ P, numsB s i y = P := ⟨_, rfl⟩
                refine c_seq ?_
                refine c_seq ?_
                refine c_region ?_
                refine st (y_move rfl) rfl ?_
                refine st_if (y_ne_u (b := 0) rfl rfl) rfl (fun hx0 => ?_) (fun hx0 => ?_)
                · obtain ⟨hnx, hlx⟩ := hWl.nxt hx0 hx hy
                  have hxl := hnx.lt
                  obtain ⟨z, hz⟩ : ∃ z, 64 * (i / 64 + 1 + r) + tz x = z := ⟨_, rfl⟩
                  rw [hz] at hnx hlx hxl
                  have hP1 := numsB_nxt (i := i) hnx (by omega)
                  rw [hP] at hP1 hkl hRoom
                  have hle := hRoom.le
                  have hrl := hRoom.len
                  have hbk := hRoom.blk
                  have hset := set_room (P := P) (n := n) (v := z) hkl hk
                  have hWl3 := hWl.step hx0 hx hy
                  rw [hz] at hWl3
                  refine l_nil ?_
                  refine q_then ?_
                  refine c_true rfl rfl ?_
                  refine c_skip ?_
                  refine q_then ?_
                  refine c_block ?_
                  refine c_seq ?_
                  refine c_region ?_
                  refine st (y_move rfl) rfl ?_
                  refine st (y_move rfl) rfl ?_
                  refine st (y_move rfl) rfl ?_
                  refine st (y_move rfl) rfl ?_
                  first | refine st (y_add_in rfl rfl (by omega)) rfl ?_ | refine st (y_add_i rfl rfl (by omega) (by omega)) rfl ?_
                  refine st (y_shl_i (k := 6) rfl rfl (by omega) (by omega) (by omega)) rfl ?_
                  rw [show (((i / 64 + 1 + r : Nat) : Int) * 2 ^ 6) = ((64 * (i / 64 + 1 + r) : Nat) : Int) by omega]
                  refine st (y_move rfl) rfl ?_
                  refine sc rfl rfl isfn41 (c_TrailingZeros64 _ hx _ hT2) rfl ?_
                  rintro _ _ ⟨rfl, rfl⟩
                  first | refine st (y_add_in rfl rfl (by omega)) rfl ?_ | refine st (y_add_i rfl rfl (by omega) (by omega)) rfl ?_
                  rw [hz]
                  refine st (y_conv_iu rfl us3 Tryd.underlying22 rfl (by omega)) rfl ?_
                  first | refine st (y_index0 rfl rfl Tryd.underlying23 sz22 (by omega)) rfl ?_ | refine st (y_index rfl rfl Tryd.underlying23 sz22 (by omega)) rfl ?_ | refine st (y_indexA rfl rfl Tryd.underlying23 sz22 (by omega)) rfl ?_
                  refine st_storeM vU rfl rfl rfl sz22 (by assumption) (by first | omega | (simp only [List.length_append, List.length_map, List.length_replicate, List.length_set, List.length_take, List.length_drop]; omega)) rfl ?_
                  intro w3 hB3 hK3 hS3
                  rw [hset] at hB3
                  have hRoom3 : Room w3 b n (P ++ [z]) := ⟨by simp; omega, hB3⟩
                  have hK23 := hK2.trans hK3 (fun j hj => .inl hj)
                  have hl3 : (P ++ [z]).length = k + 1 := by simp; omega
                  have hr3 := hRoom3.len
                  refine l_nil ?_
                  refine q_then ?_
                  refine c_seq ?_
                  refine c_region ?_
                  refine st (y_move rfl) rfl ?_
                  first | refine st (y_add_in (b := 1) rfl rfl (by omega)) rfl ?_ | refine st (y_add_i (b := 1) rfl rfl (by omega) (by omega)) rfl ?_
                  refine st (y_assign rfl) rfl ?_
                  refine l_nil ?_
                  refine q_then ?_
                  refine c_seq ?_
                  refine c_seq ?_
                  refine c_region ?_
                  refine st (y_move rfl) rfl ?_
                  refine st (y_move rfl) rfl ?_
                  refine st_if (y_eq_i rfl rfl) rfl (fun hkn => ?_) (fun hkn => ?_)
                  · have hkn' : k + 1 = n := by omega
                    have hRoom4 := hRoom3.keep (Keep.drew w3 []) (by simp)
                    have hbk4 := hRoom4.blk
                    refine l_nil ?_
                    refine q_then ?_
                    refine c_true rfl rfl ?_
                    refine c_seq ?_
                    refine c_still mixed (by kernel_rfl) ?_
                    refine ss (y_move rfl) rfl ?_
                    refine ss (y_move rfl) rfl ?_
                    refine ss (y_sub_i (b := 1) rfl rfl (by omega) (by omega)) rfl ?_
                    rw [show (((k + 1 : Nat) : Int) - 1) = ((k : Nat) : Int) by omega]
                    first | refine ss (y_index0 rfl rfl Tryd.underlying23 sz22 (by omega)) rfl ?_ | refine ss (y_index rfl rfl Tryd.underlying23 sz22 (by omega)) rfl ?_ | refine ss (y_indexA rfl rfl Tryd.underlying23 sz22 (by omega)) rfl ?_
                    first | refine ss (y_loadM (0) rfl one22 (by assumption) (by first | omega | (simp only [List.length_append, List.length_map, List.length_replicate, List.length_set, List.length_take, List.length_drop]; omega) | (simp; done))) rfl ?_ | refine ss (y_load rfl one22 (by assumption)) rfl ?_
                    refine ss (y_move rfl) rfl ?_
                    refine ss (y_move rfl) rfl ?_
                    refine ss (y_slice_h rfl rfl Tryd.underlying23 sz22 (by omega)) rfl ?_
                    refine ss (y_assign rfl) rfl ?_
                    refine ss (y_assign rfl) rfl ?_
                    refine s_nil ?_
                    refine q_then ?_
                    refine c_ret ?_
                    refine q_then_ret ?_
                    refine q_block_ret ?_
                    refine q_then_ret ?_
                    refine q_block_ret ?_
                    refine q_block_ret ?_
                    refine q_then_ret ?_
                    refine q_then_ret ?_
                    refine q_block_ret ?_
                    refine q_then_ret ?_
                    refine q_end2 (.inl rfl) rfl rfl rfl ?_
                    refine ⟨_, rfl, _, P ++ [z], by rw [hl3], ?_, hRoom4, fun _ => ?_, hKd.trans' (hK23.trans (Keep.drew _ []) (by simp))⟩
                    · rw [← hP1]; exact hfin _ n (by rw [hP1, hl3]; exact hkn') (.inl rfl)
                    · exact lastA hkl
                  ·
                    refine l_nil ?_
                    refine q_then ?_
                    refine c_false rfl rfl ?_
                    refine c_skip ?_
                    refine q_then ?_
                    refine c_region ?_
                    refine st (y_move rfl) rfl ?_
                    refine st (y_move rfl) rfl ?_
                    refine st (y_sub_u (b := 1) rfl rfl (by omega) (by omega)) rfl ?_
                    refine st (y_and rfl rfl (by first | omega | assumption | (repeat (first | assumption | omega | decide | exact shl_lt64 _ _ | apply and_lt64 | apply or_lt64 | apply xor_lt64 | apply nt_lt | apply shr_lt64 | apply getD_lt64))) (by first | omega | assumption | (repeat (first | assumption | omega | decide | exact shl_lt64 _ _ | apply and_lt64 | apply or_lt64 | apply xor_lt64 | apply nt_lt | apply shr_lt64 | apply getD_lt64)))) rfl ?_
                    refine st (y_assign rfl) rfl ?_
                    refine l_nil ?_
                    refine q_block ?_
                    refine q_round (x &&& (x - 1), k + 1) ⟨rfl, rfl, rfl, rfl, rfl, rfl, rfl, rfl, rfl, rfl, trivial⟩ ⟨Nat.lt_of_le_of_lt Nat.and_le_left hx, by simp only; omega, z + 1, by omega, by omega, hWl3, by rw [hP1, hl3], by rw [hP1]; exact hRoom3, hK23⟩ ?_
                    have := clr_lt hx
                    simp only
                    omega
                ·
                  have hx00 : x = 0 := by omega
                  subst hx00
                  have hgap := numsB_gap (i := i) (hWl.none hy) hye
                  rw [← hgap] at hkl
                  rw [← hgap] at hRoom
                  refine l_nil ?_
                  refine q_then ?_
                  refine c_false rfl rfl ?_
                  refine c_exit ?_
                  refine q_then_exit ?_
                  refine q_then_exit ?_
                  refine q_block_hit ?_
                  refine q_block ?_
                  refine q_then ?_
                  refine c_region ?_
                  first | refine st (y_add_in (b := 1) rfl rfl (by omega)) rfl ?_ | refine st (y_add_i (b := 1) rfl rfl (by omega) (by omega)) rfl ?_
                  refine st (y_move rfl) rfl ?_
                  refine l_nil ?_
                  exact q_round (r + 1, k) ⟨rfl, rfl, rfl, rfl, rfl, rfl, rfl, rfl, trivial⟩ ⟨by simp only; omega, hk, hkl, hRoom, hK2⟩ (by simp only; omega)
            ·
              have hend : s.length ≤ 64 * (i / 64 + 1 + r) := by omega
              have hW := hfin _ k hkl (.inr ⟨hend, by omega⟩)
              obtain ⟨P, hP⟩ : ∃ P, numsB s i (64 * (i / 64 + 1 + r)) = P := ⟨_, rfl⟩
              rw [hP] at hW hkl hRoom
              have hRoom4 := hRoom.keep (Keep.drew w2 []) (by simp)
              have hbk4 := hRoom4.blk
              have hrl := hRoom.len
              refine l_nil ?_
              refine q_then ?_
              refine c_seq ?_
              refine c_false rfl rfl ?_
              refine c_exit ?_
              refine q_then_exit ?_
              refine q_then_exit ?_
              refine q_block_hit ?_
              refine q_then ?_
              refine c_seq ?_
              refine c_seq ?_
              refine c_region ?_
              refine st (y_move rfl) rfl ?_
              refine st_if (y_gt_i (b := 0) rfl rfl) rfl (fun hk0 => ?_) (fun hk0 => ?_)
              · refine l_nil ?_
                refine q_then ?_
                refine c_true rfl rfl ?_
                refine c_seq ?_
                refine c_still mixed (by kernel_rfl) ?_
                refine ss (y_move rfl) rfl ?_
                refine ss (y_move rfl) rfl ?_
                refine ss (y_sub_i (b := 1) rfl rfl (by omega) (by omega)) rfl ?_
                rw [show ((k : Int) - 1) = ((k - 1 : Nat) : Int) by omega]
                first | refine ss (y_index0 rfl rfl Tryd.underlying23 sz22 (by omega)) rfl ?_ | refine ss (y_index rfl rfl Tryd.underlying23 sz22 (by omega)) rfl ?_ | refine ss (y_indexA rfl rfl Tryd.underlying23 sz22 (by omega)) rfl ?_
                first | refine ss (y_loadM (0) rfl one22 (by assumption) (by first | omega | (simp only [List.length_append, List.length_map, List.length_replicate, List.length_set, List.length_take, List.length_drop]; omega) | (simp; done))) rfl ?_ | refine ss (y_load rfl one22 (by assumption)) rfl ?_
                refine ss (y_move rfl) rfl ?_
                refine ss (y_move rfl) rfl ?_
                refine ss (y_slice_h rfl rfl Tryd.underlying23 sz22 (by omega)) rfl ?_
                refine ss (y_assign rfl) rfl ?_
                refine ss (y_assign rfl) rfl ?_
                refine s_nil ?_
                refine q_then ?_
                refine c_ret ?_
                refine q_then_ret ?_
                refine q_end2 (.inl rfl) rfl rfl rfl ?_
                refine ⟨_, rfl, _, P, by rw [hkl], hW, hRoom4, fun _ => ?_, hKd.trans' (hK2.trans (Keep.drew _ []) (by simp))⟩
                exact lastB hkl (by omega)
              ·
                refine l_nil ?_
                refine q_then ?_
                refine c_false rfl rfl ?_
                refine c_skip ?_
                refine q_then ?_
                refine c_seq ?_
                refine c_still mixed (by kernel_rfl) ?_
                refine ss (y_move rfl) rfl ?_
                refine ss (y_slice_h (h := 0) rfl rfl Tryd.underlying23 sz22 (by omega)) rfl ?_
                refine ss (y_assign (v := vU 0) rfl) rfl ?_
                refine ss (y_assign rfl) rfl ?_
                refine s_nil ?_
                refine q_then ?_
                refine c_ret ?_
                refine q_end2 (.inl rfl) rfl rfl rfl ?_
                refine ⟨_, rfl, _, P, by rw [hkl, show k = 0 by omega], hW, hRoom4, fun h => ?_, hKd.trans' (hK2.trans (Keep.drew _ []) (by simp))⟩
                omega

end Go.Proofs.YtbahhdeblppooaaDoor

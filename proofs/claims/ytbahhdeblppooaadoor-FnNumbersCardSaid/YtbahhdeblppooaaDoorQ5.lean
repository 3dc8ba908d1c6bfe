/- AsSlice and AppendTo; each by its contract. -/
import Derived.Test.YtbahhdeblppooaaDoorQ1
import Derived.Test.YtbahhdeblppooaaDoorT2
set_option linter.unusedVariables false
set_option linter.unusedSimpArgs false
set_option maxRecDepth 100000
set_option maxHeartbeats 2000000
namespace Go.Proofs.YtbahhdeblppooaaDoor
open Go Go.RowKit

theorem numsB_le (s : List Bool) (y : Nat) : (numsB s 0 y).length ≤ count s := by
  have e := nums_app (s.take y) (s.drop y)
  rw [List.take_append_drop] at e
  have h := congrArg List.length e
  rw [List.length_append, nums_length] at h
  rw [numsB_zero]
  omega

theorem c_AsSlice (p q : Nat) (s : List Bool) (b C : Nat) (w : World) (hT : Tb w) (hB : BSet w p q s) (hs : s.length ≤ 6001) (hC : count s = C) (hR : Room w b C []) (hbp : b ≠ p ∧ b ≠ q) (hbT : 0 ≠ b) :
    Cal Tryd.prog 31 [vP p, vS b C C] w fun v w' => v = vS b C C ∧ Room w' b C (nums s) ∧ Keep w w' [b] := by
  have hcl := count_le s
  obtain ⟨tl, hB⟩ := hB
  have hst := hB.st
  have hlen := pack_length s
  have hnl : (pack s).length ≤ 200 := by rw [pack_length]; unfold nW; omega
  have hns : s.length ≤ 64 * (pack s).length := by rw [pack_length]; unfold nW; omega
  have hg : ∀ j, j < (pack s).length → (pack s ++ tl).getD j 0 = wordAt s j := fun j hj => by
    rw [List.getD_eq_getElem?_getD, List.getElem?_append_left hj, ← List.getD_eq_getElem?_getD, pack_getD]
  have hz0 : numsB s 0 (64 * 0) = [] := by rw [Nat.mul_zero]; exact numsB_self s 0
  refine go_in' Tryd.func31 rfl Tryd.ntmps31 (Nat.le_of_ble_eq_true rfl) ?_
  refine c_seq ?_
  refine c_region ?_
  refine st (y_assign rfl) rfl ?_
  refine l_nil ?_
  refine q_then ?_
  refine c_seq ?_
  refine c_region ?_
  refine st (y_move rfl) rfl ?_
  refine st (y_move rfl) rfl ?_
  refine st (y_cap rfl Tryd.underlying23) rfl ?_
  refine st (y_slice_h rfl rfl Tryd.underlying23 sz22 (by omega)) rfl ?_
  refine st (y_assign rfl) rfl ?_
  refine l_nil ?_
  refine q_then ?_
  refine c_seq ?_
  refine c_region ?_
  refine st (y_assign (v := vI ((0 : Nat) : Int)) rfl) rfl ?_
  refine l_nil ?_
  refine q_then ?_
  refine c_seq ?_
  refine c_seq ?_
  refine c_region ?_
  refine st (y_move rfl) rfl ?_
  refine st (y_nil rfl) rfl ?_
  refine st (fa66_1 rfl) rfl ?_
  refine st (y_loadb rfl one64 (by assumption) (by rfl)) rfl ?_
  refine st (y_len rfl Tryd.underlying64) rfl ?_
  refine st (y_move (v := vI ((0 : Nat) : Int)) rfl) rfl ?_
  refine l_nil ?_
  refine q_then ?_
  refine c_block ?_
  refine c_loop (fun x : Nat × Nat => [(0, vP p), (1, vS b C C), (5, vI (x.2 : Nat)), (15, vS q (pack s).length ((pack s).length + tl.length)), (16, vI ((pack s).length : Nat)), (17, vI (x.1 : Nat))]) (fun x w' => x.1 ≤ (pack s).length ∧ (numsB s 0 (64 * x.1)).length = x.2 ∧ Room w' b C (numsB s 0 (64 * x.1)) ∧ Keep w w' [b]) (fun x => (pack s).length - x.1) (0, 0) ?_ ?_ ?_
  · exact ⟨rfl, rfl, rfl, rfl, rfl, rfl, trivial⟩
  · exact ⟨Nat.zero_le _, by simp only; rw [hz0]; rfl, by simp only; rw [hz0]; exact hR, Keep.refl _ _⟩
  · clear hst
    rintro ⟨r, k⟩ w2 ⟨hr, hkl, hRoom, hK2⟩
    simp only at hr hkl hRoom ⊢
    have hB2 := hB.keep hK2 (by simp only [List.mem_singleton]; exact hbp.1.symm) (by simp only [List.mem_singleton]; exact hbp.2.symm)
    have hwd := hB2.wd
    refine c_seq ?_
    refine c_region ?_
    refine st_if (y_lt_i rfl rfl) rfl (fun hlt2 => ?_) (fun hlt2 => ?_)
    · have hrn : r < (pack s).length := by omega
      have hgr := hg r hrn
      have hl2 := wordAt_lt s r
      have hWlr := Wl.word s r
      refine l_nil ?_
      refine q_then ?_
      refine c_seq ?_
      refine c_true rfl rfl ?_
      refine c_skip ?_
      refine q_then ?_
      refine c_seq ?_
      refine c_block ?_
      refine c_seq ?_
      refine c_region ?_
      refine st (y_move rfl) rfl ?_
      first | refine st (y_index0 rfl rfl Tryd.underlying64 sz67 (by omega)) rfl ?_ | refine st (y_index rfl rfl Tryd.underlying64 sz67 (by omega)) rfl ?_ | refine st (y_indexA rfl rfl Tryd.underlying64 sz67 (by omega)) rfl ?_
      first | refine st (y_loadM (0) rfl one67 (by assumption) (by first | omega | (simp only [List.length_append, List.length_map, List.length_replicate, List.length_set, List.length_take, List.length_drop]; omega) | (simp; done))) rfl ?_ | refine st (y_load rfl one67 (by assumption)) rfl ?_
      refine st (y_assign rfl) rfl ?_
      refine st (y_assign rfl) rfl ?_
      refine l_nil ?_
      refine q_then ?_
      refine c_block ?_
      rw [hgr]
      refine c_loop (fun x : Nat × Nat => [(0, vP p), (1, vS b C C), (5, vI (x.2 : Nat)), (6, vI (r : Nat)), (7, vU x.1), (15, vS q (pack s).length ((pack s).length + tl.length)), (16, vI ((pack s).length : Nat)), (17, vI (r : Nat))]) (fun x w' => x.1 < 18446744073709551616 ∧ ∃ y, 64 * r ≤ y ∧ y ≤ 64 * (r + 1) ∧ Wl s (64 * r) (64 * (r + 1)) y x.1 ∧ (numsB s 0 y).length = x.2 ∧ Room w' b C (numsB s 0 y) ∧ Keep w w' [b]) (fun x => x.1) (wordAt s r, k) ?_ ?_ ?_
      · exact ⟨rfl, rfl, rfl, rfl, rfl, rfl, rfl, rfl, trivial⟩
      · exact ⟨hl2, _, Nat.le_refl _, by omega, hWlr, hkl, hRoom, hK2⟩
      · clear hkl hRoom hB2 hwd hWlr hK2
        clear k w2
        rintro ⟨x, k⟩ w2 ⟨hx, y, hy, hye, hWl, hkl, hRoom, hK2⟩
        simp only at hx hWl hkl ⊢
        have hT2 := hT.keep hK2 (by simp only [List.mem_singleton]; exact hbT)
        obtain ⟨P, hP⟩ : ∃ P, numsB s 0 y = P := ⟨_, rfl⟩
        refine c_seq ?_
        refine c_seq ?_
        refine c_region ?_
        refine st (y_move rfl) rfl ?_
        refine st_if (y_ne_u (b := 0) rfl rfl) rfl (fun hx0 => ?_) (fun hx0 => ?_)
        · obtain ⟨hnx, hlx⟩ := hWl.nxt hx0 hx hy
          have hxl := hnx.lt
          obtain ⟨z, hz⟩ : ∃ z, 64 * r + tz x = z := ⟨_, rfl⟩
          rw [hz] at hnx hlx hxl
          have hP1 := numsB_nxt (i := 0) hnx (by omega)
          rw [hP] at hP1 hkl hRoom
          have hle := hRoom.le
          have hkC : k < C := by
            have h1 := numsB_le s (z + 1)
            rw [hP1, List.length_append, List.length_singleton] at h1
            omega
          have hrl := hRoom.len
          have hbk := hRoom.blk
          have hset := set_room (P := P) (n := C) (v := z) hkl hkC
          have hWl3 := hWl.step hx0 hx hy
          rw [hz] at hWl3
          refine l_nil ?_
          refine q_then ?_
          refine c_true rfl rfl ?_
          refine c_skip ?_
          refine q_then ?_
          refine c_seq ?_
          refine c_block ?_
          refine c_seq ?_
          refine c_region ?_
          refine st (y_move rfl) rfl ?_
          refine st (y_move rfl) rfl ?_
          refine st (y_move rfl) rfl ?_
          refine st (y_shl_i (k := 6) rfl rfl (by omega) (by omega) (by omega)) rfl ?_
          rw [show ((r : Int) * 2 ^ 6) = ((64 * r : Nat) : Int) by omega]
          refine st (y_move rfl) rfl ?_
          refine sc rfl rfl isfn41 (c_TrailingZeros64 _ hx _ hT2) rfl ?_
          rintro _ _ ⟨rfl, rfl⟩
          first | refine st (y_add_in rfl rfl (by omega)) rfl ?_ | refine st (y_add_i rfl rfl (by omega) (by omega)) rfl ?_
          rw [hz]
          refine st (y_conv_iu rfl us3 Tryd.underlying22 rfl (by omega)) rfl ?_
          first | refine st (y_index0 rfl rfl Tryd.underlying23 sz22 (by omega)) rfl ?_ | refine st (y_index rfl rfl Tryd.underlying23 sz22 (by omega)) rfl ?_ | refine st (y_indexA rfl rfl Tryd.underlying23 sz22 (by omega)) rfl ?_
          refine st_storeM vU rfl rfl rfl sz22 (by assumption) (by first | omega | (simp only [List.length_append, List.length_map, List.length_replicate, List.length_set, List.length_take, List.length_drop]; omega)) rfl ?_
          intro w3 hB3 hK3 hS3
          rw [hset] at hB3
          have hRoom3 : Room w3 b C (P ++ [z]) := ⟨by simp; omega, hB3⟩
          have hK23 := hK2.trans hK3 (fun j hj => .inl hj)
          have hl3 : (P ++ [z]).length = k + 1 := by simp; omega
          refine l_nil ?_
          refine q_then ?_
          refine c_region ?_
          refine st (y_move rfl) rfl ?_
          refine st (y_move rfl) rfl ?_
          refine st (y_sub_u (b := 1) rfl rfl (by omega) (by omega)) rfl ?_
          refine st (y_and rfl rfl (by first | omega | assumption | (repeat (first | assumption | omega | decide | exact shl_lt64 _ _ | apply and_lt64 | apply or_lt64 | apply xor_lt64 | apply nt_lt | apply shr_lt64 | apply getD_lt64))) (by first | omega | assumption | (repeat (first | assumption | omega | decide | exact shl_lt64 _ _ | apply and_lt64 | apply or_lt64 | apply xor_lt64 | apply nt_lt | apply shr_lt64 | apply getD_lt64)))) rfl ?_
          refine st (y_assign rfl) rfl ?_
          refine l_nil ?_
          refine q_block ?_
          refine q_then ?_
          refine c_region ?_
          refine st (y_move rfl) rfl ?_
          first | refine st (y_add_in (b := 1) rfl rfl (by omega)) rfl ?_ | refine st (y_add_i (b := 1) rfl rfl (by omega) (by omega)) rfl ?_
          refine st (y_assign rfl) rfl ?_
          refine l_nil ?_
          refine q_round (x &&& (x - 1), k + 1) ⟨rfl, rfl, rfl, rfl, rfl, rfl, rfl, rfl, trivial⟩ ⟨Nat.lt_of_le_of_lt Nat.and_le_left hx, z + 1, by omega, by omega, hWl3, by rw [hP1, hl3], by rw [hP1]; exact hRoom3, hK23⟩ ?_
          have := clr_lt hx
          simp only
          omega
        ·
          have hx00 : x = 0 := by omega
          subst hx00
          have hgap := numsB_gap (i := 0) (hWl.none hy) hye
          rw [← hgap] at hkl
          rw [← hgap] at hRoom
          refine l_nil ?_
          refine q_then ?_
          refine c_false rfl rfl ?_
          refine c_exit ?_
          refine q_then_exit ?_
          refine q_then_exit ?_
          refine q_block_hit ?_
          refine q_block ?_
          refine q_then ?_
          refine c_region ?_
          first | refine st (y_add_in (b := 1) rfl rfl (by omega)) rfl ?_ | refine st (y_add_i (b := 1) rfl rfl (by omega) (by omega)) rfl ?_
          refine st (y_move rfl) rfl ?_
          refine l_nil ?_
          exact q_round (r + 1, k) ⟨rfl, rfl, rfl, rfl, rfl, rfl, trivial⟩ ⟨by simp only; omega, hkl, hRoom, hK2⟩ (by simp only; omega)
    ·
      have hend : s.length ≤ 64 * r := by omega
      have hall : numsB s 0 (64 * r) = nums s := by
        rw [numsB_zero, List.take_of_length_le hend]
      rw [hall] at hkl hRoom
      have hkC : k = C := by rw [← hkl, nums_length, hC]
      subst hkC
      refine l_nil ?_
      refine q_then ?_
      refine c_seq ?_
      refine c_false rfl rfl ?_
      refine c_exit ?_
      refine q_then_exit ?_
      refine q_then_exit ?_
      refine q_block_hit ?_
      refine q_then ?_
      refine c_seq ?_
      refine c_region ?_
      refine st (y_move rfl) rfl ?_
      refine st (y_move rfl) rfl ?_
      refine st (y_slice_h rfl rfl Tryd.underlying23 sz22 (by omega)) rfl ?_
      refine st (y_assign rfl) rfl ?_
      refine l_nil ?_
      refine q_then ?_
      refine c_seq ?_
      refine c_region ?_
      refine st (y_move rfl) rfl ?_
      refine st (y_assign rfl) rfl ?_
      refine l_nil ?_
      refine q_then ?_
      refine c_ret ?_
      refine q_end1 (.inl rfl) rfl rfl ?_
      exact ⟨_, rfl, rfl, hRoom, hK2⟩

theorem c_AppendTo (p q : Nat) (s : List Bool) (w : World) (hT : Tb w) (hB : BSet w p q s) (hs : s.length ≤ 6001) :
    Cal Tryd.prog 33 [vP p, .slice none 0 0] w fun v w' => Ow w' w.heap.size 22 v ((nums s).map vU) ∧ Keep w w' [] := by
  have hcl := count_le s
  obtain ⟨tl, hB⟩ := hB
  have hst := hB.st
  have hlen := pack_length s
  have hnl : (pack s).length ≤ 200 := by rw [pack_length]; unfold nW; omega
  have hns : s.length ≤ 64 * (pack s).length := by rw [pack_length]; unfold nW; omega
  have hg : ∀ j, j < (pack s).length → (pack s ++ tl).getD j 0 = wordAt s j := fun j hj => by
    rw [List.getD_eq_getElem?_getD, List.getElem?_append_left hj, ← List.getD_eq_getElem?_getD, pack_getD]
  have hz0 : numsB s 0 (64 * 0) = [] := by rw [Nat.mul_zero]; exact numsB_self s 0
  refine go_in' Tryd.func33 rfl Tryd.ntmps33 (Nat.le_of_ble_eq_true rfl) ?_
  refine c_seq ?_
  refine c_region ?_
  refine st (y_assign rfl) rfl ?_
  refine l_nil ?_
  refine q_then ?_
  refine c_seq ?_
  refine c_seq ?_
  refine c_region ?_
  refine st (y_move rfl) rfl ?_
  refine st (y_nil rfl) rfl ?_
  refine st (fa66_1 rfl) rfl ?_
  refine st (y_loadb rfl one64 (by assumption) (by rfl)) rfl ?_
  refine st (y_len rfl Tryd.underlying64) rfl ?_
  refine st (y_move (v := vI ((0 : Nat) : Int)) rfl) rfl ?_
  refine l_nil ?_
  refine q_then ?_
  refine c_block ?_
  refine c_loop (fun x : Nat × Value => [(0, vP p), (1, x.2), (10, vS q (pack s).length ((pack s).length + tl.length)), (11, vI ((pack s).length : Nat)), (12, vI (x.1 : Nat))]) (fun x w' => x.1 ≤ (pack s).length ∧ Ow w' w.heap.size 22 x.2 ((numsB s 0 (64 * x.1)).map vU) ∧ Keep w w' []) (fun x => (pack s).length - x.1) (0, .slice none 0 0) ?_ ?_ ?_
  · exact ⟨rfl, rfl, rfl, rfl, rfl, trivial⟩
  · exact ⟨Nat.zero_le _, by simp only; rw [hz0]; exact Ow.nil _ _ _, Keep.refl _ _⟩
  · clear hst
    rintro ⟨r, v⟩ w2 ⟨hr, hO2, hK2⟩
    simp only at hr hO2 ⊢
    have hB2 := hB.keep hK2 (by simp) (by simp)
    have hwd := hB2.wd
    refine c_seq ?_
    refine c_region ?_
    refine st_if (y_lt_i rfl rfl) rfl (fun hlt2 => ?_) (fun hlt2 => ?_)
    · have hrn : r < (pack s).length := by omega
      have hgr := hg r hrn
      have hl2 := wordAt_lt s r
      have hWlr := Wl.word s r
      refine l_nil ?_
      refine q_then ?_
      refine c_seq ?_
      refine c_true rfl rfl ?_
      refine c_skip ?_
      refine q_then ?_
      refine c_seq ?_
      refine c_block ?_
      refine c_seq ?_
      refine c_region ?_
      refine st (y_move rfl) rfl ?_
      first | refine st (y_index0 rfl rfl Tryd.underlying64 sz67 (by omega)) rfl ?_ | refine st (y_index rfl rfl Tryd.underlying64 sz67 (by omega)) rfl ?_ | refine st (y_indexA rfl rfl Tryd.underlying64 sz67 (by omega)) rfl ?_
      first | refine st (y_loadM (0) rfl one67 (by assumption) (by first | omega | (simp only [List.length_append, List.length_map, List.length_replicate, List.length_set, List.length_take, List.length_drop]; omega) | (simp; done))) rfl ?_ | refine st (y_load rfl one67 (by assumption)) rfl ?_
      refine st (y_assign rfl) rfl ?_
      refine st (y_assign rfl) rfl ?_
      refine l_nil ?_
      refine q_then ?_
      refine c_block ?_
      rw [hgr]
      refine c_loop (fun x : Nat × Value => [(0, vP p), (1, x.2), (5, vI (r : Nat)), (6, vU x.1), (10, vS q (pack s).length ((pack s).length + tl.length)), (11, vI ((pack s).length : Nat)), (12, vI (r : Nat))]) (fun x w' => x.1 < 18446744073709551616 ∧ ∃ y, 64 * r ≤ y ∧ y ≤ 64 * (r + 1) ∧ Wl s (64 * r) (64 * (r + 1)) y x.1 ∧ Ow w' w.heap.size 22 x.2 ((numsB s 0 y).map vU) ∧ Keep w w' []) (fun x => x.1) (wordAt s r, v) ?_ ?_ ?_
      · exact ⟨rfl, rfl, rfl, rfl, rfl, rfl, rfl, trivial⟩
      · exact ⟨hl2, _, Nat.le_refl _, by omega, hWlr, hO2, hK2⟩
      · clear hO2 hB2 hwd hWlr hK2
        clear v w2
        rintro ⟨x, v⟩ w2 ⟨hx, y, hy, hye, hWl, hO2, hK2⟩
        simp only at hx hWl hO2 ⊢
        have hT2 := hT.keep hK2 (by simp)
        have hPle := numsB_le s y
        obtain ⟨P, hP⟩ : ∃ P, numsB s 0 y = P := ⟨_, rfl⟩
        refine c_seq ?_
        refine c_seq ?_
        refine c_region ?_
        refine st (y_move rfl) rfl ?_
        refine st_if (y_ne_u (b := 0) rfl rfl) rfl (fun hx0 => ?_) (fun hx0 => ?_)
        · obtain ⟨hnx, hlx⟩ := hWl.nxt hx0 hx hy
          have hxl := hnx.lt
          obtain ⟨z, hz⟩ : ∃ z, 64 * r + tz x = z := ⟨_, rfl⟩
          rw [hz] at hnx hlx hxl
          have hP1 := numsB_nxt (i := 0) hnx (by omega)
          rw [hP] at hP1 hO2 hPle
          have hWl3 := hWl.step hx0 hx hy
          rw [hz] at hWl3
          have hsz2 := hK2.size
          refine l_nil ?_
          refine q_then ?_
          refine c_true rfl rfl ?_
          refine c_skip ?_
          refine q_then ?_
          refine c_block ?_
          refine c_seq ?_
          refine c_region ?_
          refine st (y_move rfl) rfl ?_
          refine st (y_move rfl) rfl ?_
          refine st (y_shl_i (k := 6) rfl rfl (by omega) (by omega) (by omega)) rfl ?_
          rw [show ((r : Int) * 2 ^ 6) = ((64 * r : Nat) : Int) by omega]
          refine st (y_move rfl) rfl ?_
          refine sc rfl rfl isfn41 (c_TrailingZeros64 _ hx _ hT2) rfl ?_
          rintro _ _ ⟨rfl, rfl⟩
          first | refine st (y_add_in rfl rfl (by omega)) rfl ?_ | refine st (y_add_i rfl rfl (by omega) (by omega)) rfl ?_
          rw [hz]
          refine st (y_conv_iu rfl us3 Tryd.underlying22 rfl (by omega)) rfl ?_
          refine st_buildSlice [vU z] Tryd.underlying23 sz22 zv22 rfl (by decide) (by decide) (by kernel_rfl) rfl ?_
          intro b6 w6 hb6 hB6 hK6 hS6
          have hO6 := hO2.keep hK6 (by simp)
          clear hO2
          obtain ⟨i22, hi1, hi2, hi3, hi4⟩ := info_parts inf22
          refine st_append1 rfl rfl Tryd.underlying23 hi1 hi2 hi3 (by omega) rfl rfl (by assumption) (by assumption) (by first | omega | (simp only [List.length_map, List.length_nil, List.length_append, List.length_cons, List.length_take, List.length_drop]; omega)) (by omega) rfl ?_
          clear hi1 hi2 hi3 hi4
          intro v7 w7 L7 hO7 hK7 hL7
          refine st (y_assign rfl) rfl ?_
          refine l_nil ?_
          refine q_then ?_
          refine c_region ?_
          refine st (y_move rfl) rfl ?_
          refine st (y_move rfl) rfl ?_
          refine st (y_sub_u (b := 1) rfl rfl (by omega) (by omega)) rfl ?_
          refine st (y_and rfl rfl (by first | omega | assumption | (repeat (first | assumption | omega | decide | exact shl_lt64 _ _ | apply and_lt64 | apply or_lt64 | apply xor_lt64 | apply nt_lt | apply shr_lt64 | apply getD_lt64))) (by first | omega | assumption | (repeat (first | assumption | omega | decide | exact shl_lt64 _ _ | apply and_lt64 | apply or_lt64 | apply xor_lt64 | apply nt_lt | apply shr_lt64 | apply getD_lt64)))) rfl ?_
          refine st (y_assign rfl) rfl ?_
          refine l_nil ?_
          refine q_block ?_
          have hK27 : Keep w w7 [] := (hK2.trans hK6 (by simp)).trans hK7 (fun i hi => by have := hL7 i hi; exact .inr (by omega))
          refine q_round (x &&& (x - 1), v7) ⟨rfl, rfl, rfl, rfl, rfl, rfl, rfl, trivial⟩ ⟨Nat.lt_of_le_of_lt Nat.and_le_left hx, z + 1, by omega, by omega, hWl3, by rw [hP1, List.map_append]; exact hO7, hK27⟩ ?_
          have := clr_lt hx
          simp only
          omega
        ·
          have hx00 : x = 0 := by omega
          subst hx00
          have hgap := numsB_gap (i := 0) (hWl.none hy) hye
          rw [← hgap] at hO2
          refine l_nil ?_
          refine q_then ?_
          refine c_false rfl rfl ?_
          refine c_exit ?_
          refine q_then_exit ?_
          refine q_then_exit ?_
          refine q_block_hit ?_
          refine q_block ?_
          refine q_then ?_
          refine c_region ?_
          first | refine st (y_add_in (b := 1) rfl rfl (by omega)) rfl ?_ | refine st (y_add_i (b := 1) rfl rfl (by omega) (by omega)) rfl ?_
          refine st (y_move rfl) rfl ?_
          refine l_nil ?_
          exact q_round (r + 1, v) ⟨rfl, rfl, rfl, rfl, rfl, trivial⟩ ⟨by simp only; omega, hO2, hK2⟩ (by simp only; omega)
    ·
      have hend : s.length ≤ 64 * r := by omega
      have hall : numsB s 0 (64 * r) = nums s := by
        rw [numsB_zero, List.take_of_length_le hend]
      rw [hall] at hO2
      refine l_nil ?_
      refine q_then ?_
      refine c_seq ?_
      refine c_false rfl rfl ?_
      refine c_exit ?_
      refine q_then_exit ?_
      refine q_then_exit ?_
      refine q_block_hit ?_
      refine q_then ?_
      refine c_seq ?_
      refine c_region ?_
      refine st (y_move rfl) rfl ?_
      refine st (y_assign rfl) rfl ?_
      refine l_nil ?_
      refine q_then ?_
      refine c_ret ?_
      refine q_end1 (.inl rfl) rfl rfl ?_
      exact ⟨_, rfl, hO2, hK2⟩

end Go.Proofs.YtbahhdeblppooaaDoor

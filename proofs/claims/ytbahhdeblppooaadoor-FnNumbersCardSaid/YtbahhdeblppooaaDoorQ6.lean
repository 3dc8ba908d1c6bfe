/- EachSet: the function that it hands back yields all members in order; Numbers of the thin package by its three roads; each by its contract. -/
import Derived.Test.YtbahhdeblppooaaDoorQ5
import Derived.Test.YtbahhdeblppooaaDoorK21
set_option linter.unusedVariables false
set_option linter.unusedSimpArgs false
set_option maxRecDepth 100000
set_option maxHeartbeats 2000000
namespace Go.Proofs.YtbahhdeblppooaaDoor
open Go Go.RowKit

theorem c_EachSet (p : Nat) (w : World) : Cal Tryd.prog 34 [vP p] w fun v w' => ∃ bx, v = .func (.func 44) #[] #[vP bx] ∧ bx = w.heap.size ∧ Blk w' bx 49 [vP p] ∧ Keep w w' [] := by
  refine go_in' Tryd.func34 rfl Tryd.ntmps34 (Nat.le_of_ble_eq_true rfl) ?_
  refine c_seq ?_
  refine c_region ?_
  refine st_box _ rfl rfl rfl ?_
  intro b1 w1 hb1 hB1 hK1 hS1
  refine st (y_assign rfl) rfl ?_
  refine l_nil ?_
  refine q_then ?_
  refine c_seq ?_
  refine c_region ?_
  refine st (y_makeFunc rfl rfl) rfl ?_
  refine st (y_assign rfl) rfl ?_
  refine l_nil ?_
  refine q_then ?_
  refine c_ret ?_
  refine q_end1 (.inl rfl) rfl rfl ?_
  exact ⟨_, rfl, b1, rfl, hb1.symm, hB1, hK1⟩

theorem c_each (l p q bx : Nat) (s : List Bool) (J : List Nat → World → Prop) (w : World) (hJ : ∀ pre W, J pre W → Tb W ∧ BSet W p q s ∧ Blk W bx 49 [vP p]) (hs : s.length ≤ 6001) (h0 : J [] w)
    (hY : ∀ pre x W, J pre W → pre.length ≤ 6001 → Yield1 Tryd.prog l (vU x) W (fun b W' => b = true ∧ J (pre ++ [x]) W')) :
    Cal Tryd.prog 44 [.func (.yield l) #[] #[], vP bx] w (fun _ w' => J (nums s) w') := by
  have hcl := count_le s
  obtain ⟨hT, ⟨tl, hB⟩, hbx⟩ := hJ _ _ h0
  have hst := hB.st
  have hlen := pack_length s
  have hnl : (pack s).length ≤ 200 := by rw [pack_length]; unfold nW; omega
  have hns : s.length ≤ 64 * (pack s).length := by rw [pack_length]; unfold nW; omega
  have hz0 : numsB s 0 (64 * 0) = [] := by rw [Nat.mul_zero]; exact numsB_self s 0
  refine go_in' Tryd.func44 rfl Tryd.ntmps44 (Nat.le_of_ble_eq_true rfl) ?_
  refine c_seq ?_
  refine c_region ?_
  refine st (y_loadb rfl one49 (by assumption) (by rfl)) rfl ?_
  refine st (y_nil rfl) rfl ?_
  refine st (fa66_1 rfl) rfl ?_
  refine st (y_loadb rfl one64 (by assumption) (by rfl)) rfl ?_
  refine st (y_len rfl Tryd.underlying64) rfl ?_
  refine st (y_move (v := vI ((0 : Nat) : Int)) rfl) rfl ?_
  refine l_nil ?_
  refine q_then ?_
  refine c_block ?_
  refine c_loop (fun r : Nat => [(0, .func (.yield l) #[] #[]), (10, vS q (pack s).length ((pack s).length + tl.length)), (11, vI ((pack s).length : Nat)), (12, vI (r : Nat))]) (fun r w' => r ≤ (pack s).length ∧ J (numsB s 0 (64 * r)) w') (fun r => (pack s).length - r) 0 ?_ ?_ ?_
  · exact ⟨rfl, rfl, rfl, rfl, trivial⟩
  · exact ⟨Nat.zero_le _, by rw [hz0]; exact h0⟩
  · clear hst hbx
    rintro r w2 ⟨hr, hJ2⟩
    obtain ⟨hT2, ⟨tl2, hB2⟩, hbx2⟩ := hJ _ _ hJ2
    have hwd := hB2.wd
    refine c_seq ?_
    refine c_region ?_
    refine st_if (y_lt_i rfl rfl) rfl (fun hlt2 => ?_) (fun hlt2 => ?_)
    · have hrn : r < (pack s).length := by omega
      have hgr : (pack s ++ tl2).getD r 0 = wordAt s r := by
        rw [List.getD_eq_getElem?_getD, List.getElem?_append_left hrn, ← List.getD_eq_getElem?_getD, pack_getD]
      have hl2 := wordAt_lt s r
      refine l_nil ?_
      refine q_then ?_
      refine c_seq ?_
      refine c_true rfl rfl ?_
      refine c_skip ?_
      refine q_then ?_
      refine c_seq ?_
      refine c_block ?_
      refine c_seq ?_
      refine c_region ?_
      refine st (y_move rfl) rfl ?_
      first | refine st (y_index0 rfl rfl Tryd.underlying64 sz67 (by omega)) rfl ?_ | refine st (y_index rfl rfl Tryd.underlying64 sz67 (by omega)) rfl ?_ | refine st (y_indexA rfl rfl Tryd.underlying64 sz67 (by omega)) rfl ?_
      first | refine st (y_loadM (0) rfl one67 (by assumption) (by first | omega | (simp only [List.length_append, List.length_map, List.length_replicate, List.length_set, List.length_take, List.length_drop]; omega) | (simp; done))) rfl ?_ | refine st (y_load rfl one67 (by assumption)) rfl ?_
      refine st (y_assign rfl) rfl ?_
      refine st (y_assign rfl) rfl ?_
      refine l_nil ?_
      refine q_then ?_
      refine c_seq ?_
      refine c_region ?_
      refine st (y_assign (v := vI ((0 : Nat) : Int)) rfl) rfl ?_
      refine l_nil ?_
      refine q_then ?_
      refine c_seq ?_
      refine c_region ?_
      refine st (y_move rfl) rfl ?_
      rw [hgr]
      refine sc rfl rfl isfn41 (c_TrailingZeros64 _ hl2 _ hT2) rfl ?_
      rintro _ _ ⟨rfl, rfl⟩
      refine st (y_assign rfl) rfl ?_
      refine l_nil ?_
      refine q_then ?_
      refine c_block ?_
      refine c_loop (fun i : Nat => [(0, .func (.yield l) #[] #[]), (3, vI (r : Nat)), (4, vU (wordAt s r)), (5, vI (i : Nat)), (6, vI ((tz (wordAt s r >>> i) : Nat) : Int)), (10, vS q (pack s).length ((pack s).length + tl.length)), (11, vI ((pack s).length : Nat)), (12, vI (r : Nat))]) (fun i w' => i ≤ 64 ∧ J (numsB s 0 (64 * r + i)) w') (fun i => 64 - i) 0 ?_ ?_ ?_
      · exact ⟨rfl, rfl, rfl, rfl, rfl, rfl, rfl, rfl, trivial⟩
      · exact ⟨by omega, hJ2⟩
      · rintro i w3 ⟨hi, hJ3⟩
        obtain ⟨hT3, hB3, hbx3⟩ := hJ _ _ hJ3
        have hml := shr_lt64 i hl2
        have hgap : i = 64 → wordAt s r >>> i = 0 := fun e => by
          rw [e, Nat.shiftRight_eq_div_pow]; exact Nat.div_eq_of_lt hl2
        obtain ⟨m, hm⟩ : ∃ m, wordAt s r >>> i = m := ⟨_, rfl⟩
        have htz0 : tz 0 = 64 := rfl
        have hWl : i < 64 → Wl s (64 * r + i) (64 * (r + 1)) (64 * r + i) m := fun hi => by
          have h := Wl.here s (64 * r + i)
          rwa [show (64 * r + i) / 64 = r by omega, show (64 * r + i) % 64 = i by omega, hm] at h
        rw [hm] at hml hgap ⊢
        have hPle := numsB_le s (64 * r + i)
        refine c_seq ?_
        refine c_seq ?_
        refine c_region ?_
        refine st (y_move rfl) rfl ?_
        refine st_if (y_ne_i (b := 64) rfl rfl) rfl (fun h64 => ?_) (fun h64 => ?_)
        · have hm0 : m ≠ 0 := by
            intro e
            rw [e, htz0] at h64
            exact h64 rfl
          have hi64 : i < 64 := by
            rcases Nat.lt_or_ge i 64 with h | h
            · exact h
            · exact absurd (hgap (by omega)) hm0
          obtain ⟨hnx, hlx⟩ := (hWl hi64).nxt hm0 hml (Nat.le_refl _)
          have hxl := hnx.lt
          have hP1 := numsB_nxt (i := 0) hnx (by omega)
          refine l_nil ?_
          refine q_then ?_
          refine c_true rfl rfl ?_
          refine c_skip ?_
          refine q_then ?_
          refine c_seq ?_
          refine c_block ?_
          refine c_seq ?_
          refine c_seq ?_
          refine c_regionY ?_
          refine sty (y_move rfl) rfl ?_
          refine sty (y_move rfl) rfl ?_
          refine sty (y_shl_i (k := 6) rfl rfl (by omega) (by omega) (by omega)) rfl ?_
          rw [show ((r : Int) * 2 ^ 6) = ((64 * r : Nat) : Int) by omega]
          refine sty (y_move rfl) rfl ?_
          first | refine sty (y_add_in rfl rfl (by omega)) rfl ?_ | refine sty (y_add_i rfl rfl (by omega) (by omega)) rfl ?_
          refine sty (y_move rfl) rfl ?_
          first | refine sty (y_add_in rfl rfl (by omega)) rfl ?_ | refine sty (y_add_i rfl rfl (by omega) (by omega)) rfl ?_
          refine sty (y_conv_iu rfl us3 Tryd.underlying22 rfl (by omega)) rfl ?_
          refine scy rfl rfl (hY _ _ _ hJ3 (by omega)) rfl ?_
          rintro _ w4 ⟨rfl, hJ4⟩
          rw [← hP1, show 64 * r + i + tz m + 1 = 64 * r + (i + (tz m + 1)) by omega] at hJ4
          obtain ⟨hT4, hB4, hbx4⟩ := hJ _ _ hJ4
          have hml4 := shr_lt64 (i + (tz m + 1)) hl2
          refine sty (y_not rfl) rfl ?_
          refine ly_nil ?_
          refine q_then ?_
          refine c_false rfl rfl ?_
          refine c_skip ?_
          refine q_then ?_
          refine c_region ?_
          refine st (y_move rfl) rfl ?_
          refine st (y_move rfl) rfl ?_
          first | refine st (y_add_in (b := 1) rfl rfl (by omega)) rfl ?_ | refine st (y_add_i (b := 1) rfl rfl (by omega) (by omega)) rfl ?_
          first | refine st (y_add_in rfl rfl (by omega)) rfl ?_ | refine st (y_add_i rfl rfl (by omega) (by omega)) rfl ?_
          refine st (y_assign rfl) rfl ?_
          refine l_nil ?_
          refine q_block ?_
          refine q_then ?_
          refine c_region ?_
          refine st (y_move rfl) rfl ?_
          refine st (y_move rfl) rfl ?_
          refine st (y_shr rfl rfl (by first | omega | assumption | (repeat (first | assumption | omega | decide | exact shl_lt64 _ _ | apply and_lt64 | apply or_lt64 | apply xor_lt64 | apply nt_lt | apply shr_lt64 | apply getD_lt64)))) rfl ?_
          refine sc rfl rfl isfn41 (c_TrailingZeros64 _ hml4 _ hT4) rfl ?_
          rintro _ _ ⟨rfl, rfl⟩
          refine st (y_assign rfl) rfl ?_
          refine l_nil ?_
          exact q_round (i + (tz m + 1)) ⟨rfl, rfl, rfl, rfl, rfl, rfl, rfl, rfl, trivial⟩ ⟨by omega, hJ4⟩ (by omega)
        ·
          have hm0 : m = 0 := by
            rcases Decidable.em (m = 0) with h | h
            · exact h
            · have := (tz_spec h hml).1
              omega
          have hend : numsB s 0 (64 * (r + 1)) = numsB s 0 (64 * r + i) := by
            rcases Nat.lt_or_ge i 64 with h | h
            · have h1 := hWl h
              rw [hm0] at h1
              exact numsB_gap (i := 0) (h1.none (Nat.le_refl _)) (by omega)
            · rw [show 64 * (r + 1) = 64 * r + i by omega]
          rw [← hend] at hJ3
          refine l_nil ?_
          refine q_then ?_
          refine c_false rfl rfl ?_
          refine c_exit ?_
          refine q_then_exit ?_
          refine q_then_exit ?_
          refine q_block_hit ?_
          refine q_block ?_
          refine q_then ?_
          refine c_region ?_
          first | refine st (y_add_in (b := 1) rfl rfl (by omega)) rfl ?_ | refine st (y_add_i (b := 1) rfl rfl (by omega) (by omega)) rfl ?_
          refine st (y_move rfl) rfl ?_
          refine l_nil ?_
          exact q_round (r + 1) ⟨rfl, rfl, rfl, rfl, trivial⟩ ⟨by omega, hJ3⟩ (by omega)
    ·
      have hall : numsB s 0 (64 * r) = nums s := by
        rw [numsB_zero, List.take_of_length_le (by omega)]
      rw [hall] at hJ2
      refine l_nil ?_
      refine q_then ?_
      refine c_seq ?_
      refine c_false rfl rfl ?_
      refine c_exit ?_
      refine q_then_exit ?_
      refine q_then_exit ?_
      refine q_block_hit ?_
      refine q_end0 (.inr rfl) rfl ?_
      exact ⟨_, rfl, hJ2⟩

end Go.Proofs.YtbahhdeblppooaaDoor

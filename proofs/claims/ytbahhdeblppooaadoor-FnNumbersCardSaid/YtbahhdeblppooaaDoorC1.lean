/- Counting: OnesCount64, popcntSlice, panicIfNull, Count, wordsNeededUnbound, wordCount; each by its contract. -/
import Derived.Test.YtbahhdeblppooaaDoorA5
import Derived.Test.YtbahhdeblppooaaDoorL5
set_option linter.unusedVariables false
set_option linter.unusedSimpArgs false
set_option maxRecDepth 100000
namespace Go.Proofs.YtbahhdeblppooaaDoor
open Go Go.RowKit

theorem c_OnesCount64 (m : Nat) (h : m < 18446744073709551616) (w : World) : Cal Tryd.prog 52 [vU m] w fun v w' => v = vI (popc m : Nat) ∧ w = w' := by
  obtain ⟨y, z, u, e1, hy, e2, hz, e3, hu, e4⟩ := swar m h
  have n1 : (m >>> 1 &&& 6148914691236517205) + (m &&& 6148914691236517205) < 18446744073709551616 := by rw [e1]; exact hy
  refine go_in' Tryd.func52 rfl Tryd.ntmps52 (Nat.le_of_ble_eq_true rfl) ?_
  refine c_seq ?_
  refine c_region ?_
  refine st (y_assign (v := vI ((0 : Nat) : Int)) rfl) rfl ?_
  refine l_nil ?_
  refine q_then ?_
  refine c_seq ?_
  refine c_region ?_
  refine st (y_move rfl) rfl ?_
  refine st (y_shr (k := 1) rfl rfl (by first | omega | assumption | (repeat (first | assumption | omega | decide | exact shl_lt64 _ _ | apply and_lt64 | apply or_lt64 | apply xor_lt64 | apply nt_lt | apply shr_lt64 | apply getD_lt64)))) rfl ?_
  refine st (y_and (b := 6148914691236517205) rfl rfl (by first | omega | assumption | (repeat (first | assumption | omega | decide | exact shl_lt64 _ _ | apply and_lt64 | apply or_lt64 | apply xor_lt64 | apply nt_lt | apply shr_lt64 | apply getD_lt64))) (by first | omega | assumption | (repeat (first | assumption | omega | decide | exact shl_lt64 _ _ | apply and_lt64 | apply or_lt64 | apply xor_lt64 | apply nt_lt | apply shr_lt64 | apply getD_lt64)))) rfl ?_
  refine st (y_move rfl) rfl ?_
  refine st (y_and (b := 6148914691236517205) rfl rfl (by first | omega | assumption | (repeat (first | assumption | omega | decide | exact shl_lt64 _ _ | apply and_lt64 | apply or_lt64 | apply xor_lt64 | apply nt_lt | apply shr_lt64 | apply getD_lt64))) (by first | omega | assumption | (repeat (first | assumption | omega | decide | exact shl_lt64 _ _ | apply and_lt64 | apply or_lt64 | apply xor_lt64 | apply nt_lt | apply shr_lt64 | apply getD_lt64)))) rfl ?_
  refine st (y_add_u rfl rfl (by omega)) rfl ?_
  refine st (y_assign rfl) rfl ?_
  refine l_nil ?_
  refine q_then ?_
  rw [e1]
  clear e1 n1
  have n2 : (y >>> 2 &&& 3689348814741910323) + (y &&& 3689348814741910323) < 18446744073709551616 := by rw [e2]; omega
  refine c_seq ?_
  refine c_region ?_
  refine st (y_move rfl) rfl ?_
  refine st (y_shr (k := 2) rfl rfl (by first | omega | assumption | (repeat (first | assumption | omega | decide | exact shl_lt64 _ _ | apply and_lt64 | apply or_lt64 | apply xor_lt64 | apply nt_lt | apply shr_lt64 | apply getD_lt64)))) rfl ?_
  refine st (y_and (b := 3689348814741910323) rfl rfl (by first | omega | assumption | (repeat (first | assumption | omega | decide | exact shl_lt64 _ _ | apply and_lt64 | apply or_lt64 | apply xor_lt64 | apply nt_lt | apply shr_lt64 | apply getD_lt64))) (by first | omega | assumption | (repeat (first | assumption | omega | decide | exact shl_lt64 _ _ | apply and_lt64 | apply or_lt64 | apply xor_lt64 | apply nt_lt | apply shr_lt64 | apply getD_lt64)))) rfl ?_
  refine st (y_move rfl) rfl ?_
  refine st (y_and (b := 3689348814741910323) rfl rfl (by first | omega | assumption | (repeat (first | assumption | omega | decide | exact shl_lt64 _ _ | apply and_lt64 | apply or_lt64 | apply xor_lt64 | apply nt_lt | apply shr_lt64 | apply getD_lt64))) (by first | omega | assumption | (repeat (first | assumption | omega | decide | exact shl_lt64 _ _ | apply and_lt64 | apply or_lt64 | apply xor_lt64 | apply nt_lt | apply shr_lt64 | apply getD_lt64)))) rfl ?_
  refine st (y_add_u rfl rfl (by omega)) rfl ?_
  refine st (y_assign rfl) rfl ?_
  refine l_nil ?_
  refine q_then ?_
  rw [e2]
  clear e2 n2
  have hz4 : z >>> 4 ≤ z := Nat.shiftRight_le _ _
  refine c_seq ?_
  refine c_region ?_
  refine st (y_move rfl) rfl ?_
  refine st (y_shr (k := 4) rfl rfl (by first | omega | assumption | (repeat (first | assumption | omega | decide | exact shl_lt64 _ _ | apply and_lt64 | apply or_lt64 | apply xor_lt64 | apply nt_lt | apply shr_lt64 | apply getD_lt64)))) rfl ?_
  refine st (y_move rfl) rfl ?_
  refine st (y_add_u rfl rfl (by omega)) rfl ?_
  refine st (y_and (b := 1085102592571150095) rfl rfl (by first | omega | assumption | (repeat (first | assumption | omega | decide | exact shl_lt64 _ _ | apply and_lt64 | apply or_lt64 | apply xor_lt64 | apply nt_lt | apply shr_lt64 | apply getD_lt64))) (by first | omega | assumption | (repeat (first | assumption | omega | decide | exact shl_lt64 _ _ | apply and_lt64 | apply or_lt64 | apply xor_lt64 | apply nt_lt | apply shr_lt64 | apply getD_lt64)))) rfl ?_
  refine st (y_assign rfl) rfl ?_
  refine l_nil ?_
  refine q_then ?_
  rw [e3]
  clear e3 hz4
  have h8 : u >>> 8 ≤ u := Nat.shiftRight_le _ _
  obtain ⟨a, ha⟩ : ∃ a, u + u >>> 8 = a := ⟨_, rfl⟩
  refine c_seq ?_
  refine c_region ?_
  refine st (y_move rfl) rfl ?_
  refine st (y_move rfl) rfl ?_
  refine st (y_shr (k := 8) rfl rfl (by first | omega | assumption | (repeat (first | assumption | omega | decide | exact shl_lt64 _ _ | apply and_lt64 | apply or_lt64 | apply xor_lt64 | apply nt_lt | apply shr_lt64 | apply getD_lt64)))) rfl ?_
  refine st (y_add_u rfl rfl (by omega)) rfl ?_
  refine st (y_assign rfl) rfl ?_
  refine l_nil ?_
  refine q_then ?_
  rw [ha]
  have h16 : a >>> 16 ≤ a := Nat.shiftRight_le _ _
  obtain ⟨b, hb⟩ : ∃ b, a + a >>> 16 = b := ⟨_, rfl⟩
  refine c_seq ?_
  refine c_region ?_
  refine st (y_move rfl) rfl ?_
  refine st (y_move rfl) rfl ?_
  refine st (y_shr (k := 16) rfl rfl (by first | omega | assumption | (repeat (first | assumption | omega | decide | exact shl_lt64 _ _ | apply and_lt64 | apply or_lt64 | apply xor_lt64 | apply nt_lt | apply shr_lt64 | apply getD_lt64)))) rfl ?_
  refine st (y_add_u rfl rfl (by omega)) rfl ?_
  refine st (y_assign rfl) rfl ?_
  refine l_nil ?_
  refine q_then ?_
  rw [hb]
  have h32 : b >>> 32 ≤ b := Nat.shiftRight_le _ _
  obtain ⟨c, hc⟩ : ∃ c, b + b >>> 32 = c := ⟨_, rfl⟩
  refine c_seq ?_
  refine c_region ?_
  refine st (y_move rfl) rfl ?_
  refine st (y_move rfl) rfl ?_
  refine st (y_shr (k := 32) rfl rfl (by first | omega | assumption | (repeat (first | assumption | omega | decide | exact shl_lt64 _ _ | apply and_lt64 | apply or_lt64 | apply xor_lt64 | apply nt_lt | apply shr_lt64 | apply getD_lt64)))) rfl ?_
  refine st (y_add_u rfl rfl (by omega)) rfl ?_
  refine st (y_assign rfl) rfl ?_
  refine l_nil ?_
  refine q_then ?_
  rw [hc]
  have hlast : c &&& 127 = popc m := by
    rw [show (127 : Nat) = 2 ^ 7 - 1 from rfl, Nat.and_two_pow_sub_one_eq_mod, ← e4, ← hc, ← hb, ← ha]
  refine c_seq ?_
  refine c_region ?_
  refine st (y_move rfl) rfl ?_
  refine st (y_conv_ui rfl us67 Tryd.underlying3 (by omega)) rfl ?_
  refine st (y_and_i (b := 127) rfl rfl (by omega) (by omega)) rfl ?_
  refine st (y_assign rfl) rfl ?_
  refine l_nil ?_
  refine q_then ?_
  refine c_ret ?_
  refine q_end1 (.inl rfl) rfl rfl ?_
  exact ⟨_, rfl, by rw [hlast], rfl⟩

theorem c_popcntSlice (A : Option Addr) (n c : Nat) (xs : List Nat) (hx : ∀ x ∈ xs, x < 18446744073709551616) (hn : n ≤ 1000000) (w : World) (hR : Rd w A n xs) : Cal Tryd.prog 43 [.slice A n c] w fun v w' => v = vU (psum xs) ∧ w = w' := by
  have hl := hR.1
  refine go_in' Tryd.func43 rfl Tryd.ntmps43 (Nat.le_of_ble_eq_true rfl) ?_
  refine c_seq ?_
  refine c_region ?_
  refine st (y_assign (v := vU 0) rfl) rfl ?_
  refine l_nil ?_
  refine q_then ?_
  refine c_seq ?_
  refine c_region ?_
  refine st (y_assign (v := vU 0) rfl) rfl ?_
  refine st (y_assign (v := vU 0) rfl) rfl ?_
  refine st (y_assign (v := vU 0) rfl) rfl ?_
  refine st (y_assign (v := vU 0) rfl) rfl ?_
  refine l_nil ?_
  refine q_then ?_
  refine c_seq ?_
  refine c_region ?_
  refine st (y_move rfl) rfl ?_
  refine st (y_len rfl Tryd.underlying64) rfl ?_
  refine st (y_assign rfl) rfl ?_
  refine l_nil ?_
  refine q_then ?_
  refine c_seq ?_
  refine c_region ?_
  refine st (y_assign (v := vI ((0 : Nat) : Int)) rfl) rfl ?_
  refine l_nil ?_
  refine q_then ?_
  refine c_seq ?_
  refine c_block ?_
  refine c_loop (fun x : Nat × Nat × Nat × Nat × Nat => [(0, .slice A n c), (3, vU x.2.1), (4, vU x.2.2.1), (5, vU x.2.2.2.1), (6, vU x.2.2.2.2), (7, vI (n : Nat)), (8, vI (x.1 : Nat))]) (fun x w' => x.1 ≤ n ∧ w = w' ∧ x.2.1 + x.2.2.1 + x.2.2.2.1 + x.2.2.2.2 = psum (xs.take x.1)) (fun x => n - x.1) (0, 0, 0, 0, 0) ?_ ?_ ?_
  · exact ⟨rfl, rfl, rfl, rfl, rfl, rfl, rfl, trivial⟩
  · exact ⟨Nat.zero_le _, rfl, rfl⟩
  · rintro ⟨k, a0, a1, a2, a3⟩ w1 ⟨hk, rfl, hsum⟩
    simp only at hk hsum ⊢
    have hps := psum_le (xs.take k)
    have htl : (xs.take k).length ≤ n := by simp; omega
    refine c_seq ?_
    refine c_seq ?_
    refine c_region ?_
    refine st (y_move rfl) rfl ?_
    refine st (y_move rfl) rfl ?_
    refine st (y_sub_i (b := 4) rfl rfl (by omega) (by omega)) rfl ?_
    refine st_if (y_le_i rfl rfl) rfl (fun h4 => ?_) (fun h4 => ?_)
    · obtain ⟨ad, rfl, had, hcell⟩ := hR.2.2 (by omega)
      have hc0 := hcell k (by omega)
      have hc1 := hcell (k + 1) (by omega)
      have hc2 := hcell (k + 2) (by omega)
      have hc3 := hcell (k + 3) (by omega)
      have hp0 := popc_le (xs.getD k 0)
      have hp1 := popc_le (xs.getD (k + 1) 0)
      have hp2 := popc_le (xs.getD (k + 2) 0)
      have hp3 := popc_le (xs.getD (k + 3) 0)
      refine l_nil ?_
      refine q_then ?_
      refine c_true rfl rfl ?_
      refine c_skip ?_
      refine q_then ?_
      refine c_seq ?_
      refine c_block ?_
      refine c_seq ?_
      refine c_region ?_
      refine st (y_move rfl) rfl ?_
      refine st (y_move rfl) rfl ?_
      refine st (y_move rfl) rfl ?_
      first | refine st (y_index0 rfl rfl Tryd.underlying64 sz67 (by omega)) rfl ?_ | refine st (y_index rfl rfl Tryd.underlying64 sz67 (by omega)) rfl ?_ | refine st (y_indexA rfl rfl Tryd.underlying64 sz67 (by omega)) rfl ?_
      refine st (y_load rfl one67 (by assumption)) rfl ?_
      refine sc rfl rfl isfn52 (c_OnesCount64 _ (getD_lt64 hx _) _) rfl ?_
      rintro _ _ ⟨rfl, rfl⟩
      refine st (y_conv_iu rfl us3 Tryd.underlying67 rfl (by omega)) rfl ?_
      refine st (y_add_u rfl rfl (by omega)) rfl ?_
      refine st (y_assign rfl) rfl ?_
      refine l_nil ?_
      refine q_then ?_
      refine c_seq ?_
      refine c_region ?_
      refine st (y_move rfl) rfl ?_
      refine st (y_move rfl) rfl ?_
      refine st (y_move rfl) rfl ?_
      first | refine st (y_add_in (b := 1) rfl rfl (by omega)) rfl ?_ | refine st (y_add_i (b := 1) rfl rfl (by omega) (by omega)) rfl ?_
      first | refine st (y_index0 rfl rfl Tryd.underlying64 sz67 (by omega)) rfl ?_ | refine st (y_index rfl rfl Tryd.underlying64 sz67 (by omega)) rfl ?_ | refine st (y_indexA rfl rfl Tryd.underlying64 sz67 (by omega)) rfl ?_
      refine st (y_load rfl one67 (by assumption)) rfl ?_
      refine sc rfl rfl isfn52 (c_OnesCount64 _ (getD_lt64 hx _) _) rfl ?_
      rintro _ _ ⟨rfl, rfl⟩
      refine st (y_conv_iu rfl us3 Tryd.underlying67 rfl (by omega)) rfl ?_
      refine st (y_add_u rfl rfl (by omega)) rfl ?_
      refine st (y_assign rfl) rfl ?_
      refine l_nil ?_
      refine q_then ?_
      refine c_seq ?_
      refine c_region ?_
      refine st (y_move rfl) rfl ?_
      refine st (y_move rfl) rfl ?_
      refine st (y_move rfl) rfl ?_
      first | refine st (y_add_in (b := 2) rfl rfl (by omega)) rfl ?_ | refine st (y_add_i (b := 2) rfl rfl (by omega) (by omega)) rfl ?_
      first | refine st (y_index0 rfl rfl Tryd.underlying64 sz67 (by omega)) rfl ?_ | refine st (y_index rfl rfl Tryd.underlying64 sz67 (by omega)) rfl ?_ | refine st (y_indexA rfl rfl Tryd.underlying64 sz67 (by omega)) rfl ?_
      refine st (y_load rfl one67 (by assumption)) rfl ?_
      refine sc rfl rfl isfn52 (c_OnesCount64 _ (getD_lt64 hx _) _) rfl ?_
      rintro _ _ ⟨rfl, rfl⟩
      refine st (y_conv_iu rfl us3 Tryd.underlying67 rfl (by omega)) rfl ?_
      refine st (y_add_u rfl rfl (by omega)) rfl ?_
      refine st (y_assign rfl) rfl ?_
      refine l_nil ?_
      refine q_then ?_
      refine c_region ?_
      refine st (y_move rfl) rfl ?_
      refine st (y_move rfl) rfl ?_
      refine st (y_move rfl) rfl ?_
      first | refine st (y_add_in (b := 3) rfl rfl (by omega)) rfl ?_ | refine st (y_add_i (b := 3) rfl rfl (by omega) (by omega)) rfl ?_
      first | refine st (y_index0 rfl rfl Tryd.underlying64 sz67 (by omega)) rfl ?_ | refine st (y_index rfl rfl Tryd.underlying64 sz67 (by omega)) rfl ?_ | refine st (y_indexA rfl rfl Tryd.underlying64 sz67 (by omega)) rfl ?_
      refine st (y_load rfl one67 (by assumption)) rfl ?_
      refine sc rfl rfl isfn52 (c_OnesCount64 _ (getD_lt64 hx _) _) rfl ?_
      rintro _ _ ⟨rfl, rfl⟩
      refine st (y_conv_iu rfl us3 Tryd.underlying67 rfl (by omega)) rfl ?_
      refine st (y_add_u rfl rfl (by omega)) rfl ?_
      refine st (y_assign rfl) rfl ?_
      refine l_nil ?_
      refine q_block ?_
      refine q_then ?_
      refine c_region ?_
      refine st (y_move rfl) rfl ?_
      first | refine st (y_add_in (b := 4) rfl rfl (by omega)) rfl ?_ | refine st (y_add_i (b := 4) rfl rfl (by omega) (by omega)) rfl ?_
      refine st (y_assign rfl) rfl ?_
      refine l_nil ?_
      refine q_round (k + 4, a0 + popc (xs.getD k 0), a1 + popc (xs.getD (k + 1) 0), a2 + popc (xs.getD (k + 2) 0), a3 + popc (xs.getD (k + 3) 0)) ⟨rfl, rfl, rfl, rfl, rfl, rfl, rfl, trivial⟩ ⟨by simp only; omega, rfl, ?_⟩ (by simp only; omega)
      simp only
      rw [show k + 4 = k + 3 + 1 by omega, take_succ_getD xs (k + 3) (by omega), take_succ_getD xs (k + 2) (by omega), take_succ_getD xs (k + 1) (by omega), take_succ_getD xs k (by omega)]
      simp only [psum_snoc]
      omega
    ·
      refine l_nil ?_
      refine q_then ?_
      refine c_false rfl rfl ?_
      refine c_exit ?_
      refine q_then_exit ?_
      refine q_then_exit ?_
      refine q_block_hit ?_
      refine q_then ?_
      refine c_seq ?_
      refine c_region ?_
      refine st (y_move rfl) rfl ?_
      refine st (y_move rfl) rfl ?_
      refine st (y_add_u rfl rfl (by omega)) rfl ?_
      refine st (y_move rfl) rfl ?_
      refine st (y_add_u rfl rfl (by omega)) rfl ?_
      refine st (y_move rfl) rfl ?_
      refine st (y_add_u rfl rfl (by omega)) rfl ?_
      refine st (y_assign rfl) rfl ?_
      refine l_nil ?_
      refine q_then ?_
      refine c_seq ?_
      refine c_block ?_
      refine c_loop (fun k : Nat => [(0, .slice A n c), (2, vU (psum (xs.take k))), (7, vI (n : Nat)), (8, vI (k : Nat))]) (fun k w' => k ≤ n ∧ w = w') (fun k => n - k) k ?_ ?_ ?_
      · exact ⟨rfl, by rw [← hsum]; rfl, rfl, rfl, trivial⟩
      · exact ⟨hk, rfl⟩
      · rintro j w1 ⟨hj, rfl⟩
        have hps := psum_le (xs.take j)
        have htl : (xs.take j).length ≤ n := by simp; omega
        refine c_seq ?_
        refine c_seq ?_
        refine c_region ?_
        refine st (y_move rfl) rfl ?_
        refine st (y_move rfl) rfl ?_
        refine st_if (y_lt_i rfl rfl) rfl (fun hlt => ?_) (fun hlt => ?_)
        · obtain ⟨ad, rfl, had, hcell⟩ := hR.2.2 (by omega)
          have hc0 := hcell j (by omega)
          have hp0 := popc_le (xs.getD j 0)
          refine l_nil ?_
          refine q_then ?_
          refine c_true rfl rfl ?_
          refine c_skip ?_
          refine q_then ?_
          refine c_seq ?_
          refine c_block ?_
          refine c_region ?_
          refine st (y_move rfl) rfl ?_
          refine st (y_move rfl) rfl ?_
          refine st (y_move rfl) rfl ?_
          first | refine st (y_index0 rfl rfl Tryd.underlying64 sz67 (by omega)) rfl ?_ | refine st (y_index rfl rfl Tryd.underlying64 sz67 (by omega)) rfl ?_ | refine st (y_indexA rfl rfl Tryd.underlying64 sz67 (by omega)) rfl ?_
          refine st (y_load rfl one67 (by assumption)) rfl ?_
          refine sc rfl rfl isfn52 (c_OnesCount64 _ (getD_lt64 hx _) _) rfl ?_
          rintro _ _ ⟨rfl, rfl⟩
          refine st (y_conv_iu rfl us3 Tryd.underlying67 rfl (by omega)) rfl ?_
          refine st (y_add_u rfl rfl (by omega)) rfl ?_
          refine st (y_assign rfl) rfl ?_
          refine l_nil ?_
          refine q_block ?_
          refine q_then ?_
          refine c_region ?_
          refine st (y_move rfl) rfl ?_
          first | refine st (y_add_in (b := 1) rfl rfl (by omega)) rfl ?_ | refine st (y_add_i (b := 1) rfl rfl (by omega) (by omega)) rfl ?_
          refine st (y_assign rfl) rfl ?_
          refine l_nil ?_
          refine q_round (j + 1) ⟨rfl, ?_, rfl, rfl, trivial⟩ ⟨by omega, rfl⟩ (by omega)
          rw [take_succ_getD xs j (by omega), psum_snoc]; rfl
        ·
          have hjn : j = n := by omega
          refine l_nil ?_
          refine q_then ?_
          refine c_false rfl rfl ?_
          refine c_exit ?_
          refine q_then_exit ?_
          refine q_then_exit ?_
          refine q_block_hit ?_
          refine q_then ?_
          refine c_ret ?_
          refine q_end1 (.inl rfl) rfl rfl ?_
          exact ⟨_, rfl, by rw [hjn, ← hl, List.take_length], rfl⟩

theorem c_panicIfNull (p : Nat) (w : World) : Cal Tryd.prog 45 [vP p] w fun v w' => v = vT [] ∧ w = w' := by
  refine go_in' Tryd.func45 rfl Tryd.ntmps45 (Nat.le_of_ble_eq_true rfl) ?_
  refine c_seq ?_
  refine c_region ?_
  refine st (y_move rfl) rfl ?_
  refine st (y_pnil_eq rfl rfl pte49) rfl ?_
  refine l_nil ?_
  refine q_then ?_
  refine c_false rfl rfl ?_
  refine c_skip ?_
  refine q_end0 (.inr rfl) rfl ?_
  exact ⟨_, rfl, rfl, rfl⟩

end Go.Proofs.YtbahhdeblppooaaDoor

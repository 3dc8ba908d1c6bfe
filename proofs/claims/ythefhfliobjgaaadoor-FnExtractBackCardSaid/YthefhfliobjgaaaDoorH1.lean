/- Bytes packed and spread by a mask; their counts; each by its contract. -/
import Derived.Test.YthefhfliobjgaaaDoorA5
import Derived.Test.YthefhfliobjgaaaDoorK13
import Derived.Test.YthefhfliobjgaaaDoorL18
set_option linter.unusedVariables false
set_option linter.unusedSimpArgs false
set_option maxRecDepth 100000
namespace Go.Proofs.YthefhfliobjgaaaDoor
open Go Go.RowKit

theorem fin_all {n : Nat} {p : Nat → Prop} (h : ∀ b : Fin n, p b.val) {m : Nat} (hm : m < n) : p m := h ⟨m, hm⟩

theorem c_OnesCount8 (m : Nat) (h : m < 256) (w : World) : Cal Tryd.prog 43 [v8 m] w fun v w' => v = vI (cnt m.testBit 8 : Nat) ∧ w = w' := by
  have hc := cnt_le m.testBit 8
  have hn : (UInt8.ofNat (cnt m.testBit 8)).toNat = cnt m.testBit 8 := by simp; omega
  refine go_in' Tryd.func43 rfl Tryd.ntmps43 (Nat.le_of_ble_eq_true rfl) ?_
  refine c_seq ?_
  refine c_region ?_
  refine st (y_assign (v := vI ((0 : Nat) : Int)) rfl) rfl ?_
  refine l_nil ?_
  refine q_then ?_
  refine c_seq ?_
  refine c_region ?_
  refine st (y_move rfl) rfl ?_
  refine st (y_indexStr (b := UInt8.ofNat (cnt m.testBit 8)) rfl rfl Tryd.underlying9 (by refine fin_all (n := 256) (p := fun m => (_ : ByteArray)[m]? = some (UInt8.ofNat (cnt m.testBit 8))) ?_ h; decide +kernel)) rfl ?_
  rw [hn]
  refine st (y_conv_8i rfl us5 Tryd.underlying3 (by omega)) rfl ?_
  refine st (y_assign rfl) rfl ?_
  refine l_nil ?_
  refine q_then ?_
  refine c_ret ?_
  refine q_end1 (.inl rfl) rfl rfl ?_
  exact ⟨_, rfl, rfl, rfl⟩

theorem c_popByte (m : Nat) (h : m < 256) (w : World) : Cal Tryd.prog 41 [v8 m] w fun v w' => v = v8 (cnt m.testBit 8) ∧ w = w' := by
  have hc := cnt_le m.testBit 8
  refine go_in' Tryd.func41 rfl Tryd.ntmps41 (Nat.le_of_ble_eq_true rfl) ?_
  refine c_seq ?_
  refine c_region ?_
  refine st (y_assign (v := v8 0) rfl) rfl ?_
  refine l_nil ?_
  refine q_then ?_
  refine c_seq ?_
  refine c_region ?_
  refine st (y_move rfl) rfl ?_
  refine sc rfl rfl isfn43 (c_OnesCount8 m h _) rfl ?_
  rintro _ _ ⟨rfl, rfl⟩
  refine st (y_conv_i8 rfl us3 Tryd.underlying5 (by omega)) rfl ?_
  refine st (y_assign rfl) rfl ?_
  refine l_nil ?_
  refine q_then ?_
  refine c_ret ?_
  refine q_end1 (.inl rfl) rfl rfl ?_
  exact ⟨_, rfl, rfl, rfl⟩

theorem c_pextByte (b m : Nat) (hb : b < 256) (hm : m < 256) (w : World) : Cal Tryd.prog 40 [v8 b, v8 m] w fun v w' => v = v8 (num (exL m.testBit b.testBit 8)) ∧ w = w' := by
  refine go_in' Tryd.func40 rfl Tryd.ntmps40 (Nat.le_of_ble_eq_true rfl) ?_
  refine c_seq ?_
  refine c_region ?_
  refine st (y_assign (v := v8 0) rfl) rfl ?_
  refine l_nil ?_
  refine q_then ?_
  refine c_seq ?_
  refine c_region ?_
  refine st (y_assign (v := v8 0) rfl) rfl ?_
  refine st (y_assign (v := v8 0) rfl) rfl ?_
  refine l_nil ?_
  refine q_then ?_
  refine c_seq ?_
  refine c_seq ?_
  refine c_region ?_
  refine st (y_assign (v := v8 0) rfl) rfl ?_
  refine l_nil ?_
  refine q_then ?_
  refine c_block ?_
  refine c_loop (fun i : Nat => [(0, v8 b), (1, v8 m), (5, v8 (num (exL m.testBit b.testBit i))), (6, v8 (cnt m.testBit i)), (7, v8 i)]) (fun i w' => i ≤ 8 ∧ w = w') (fun i => 8 - i) 0 ?_ ?_ ?_
  · exact ⟨rfl, rfl, rfl, rfl, rfl, trivial⟩
  · exact ⟨by omega, rfl⟩
  · rintro i w1 ⟨hi, rfl⟩
    have hc := cnt_le m.testBit i
    have hel := exL_length m.testBit b.testBit i
    have hr := num_lt8 (l := exL m.testBit b.testBit i) (by omega)
    refine c_seq ?_
    refine c_seq ?_
    refine c_region ?_
    refine st (y_move rfl) rfl ?_
    refine st_if (y_lt_8 (b := 8) rfl rfl) rfl (fun hlt => ?_) (fun hlt => ?_)
    · have hs : (1 <<< i) % 256 = 2 ^ i := shl8 (by omega)
      have hs2 : (2 : Nat) ^ i < 256 := by rw [← hs]; omega
      have hp : (1 <<< (cnt m.testBit i)) % 256 = 2 ^ (cnt m.testBit i) := shl8 (by omega)
      have hp2 : (2 : Nat) ^ (cnt m.testBit i) < 256 := by rw [← hp]; omega
      refine l_nil ?_
      refine q_then ?_
      refine c_true rfl rfl ?_
      refine c_skip ?_
      refine q_then ?_
      refine c_seq ?_
      refine c_block ?_
      refine c_seq ?_
      refine c_region ?_
      refine st (y_move rfl) rfl ?_
      refine st (y_move rfl) rfl ?_
      refine st (y_shl_8 (a := 1) rfl rfl) rfl ?_
      rw [hs]
      refine st (y_and_8 rfl rfl (by first | omega | assumption | (repeat (first | assumption | omega | decide | apply and_lt8 | apply or_lt8))) (by first | omega | assumption | (repeat (first | assumption | omega | decide | apply and_lt8 | apply or_lt8)))) rfl ?_
      refine st_if (y_ne_8 (b := 0) rfl rfl) rfl (fun hmi => ?_) (fun hmi => ?_)
      · have hmt : m.testBit i = true := by rw [← and_pow_ne]; exact decide_eq_true hmi
        refine l_nil ?_
        refine q_then ?_
        refine c_true rfl rfl ?_
        refine c_seq ?_
        refine c_seq ?_
        refine c_region ?_
        refine st (y_move rfl) rfl ?_
        refine st (y_move rfl) rfl ?_
        refine st (y_shl_8 (a := 1) rfl rfl) rfl ?_
        rw [hs]
        refine st (y_and_8 rfl rfl (by first | omega | assumption | (repeat (first | assumption | omega | decide | apply and_lt8 | apply or_lt8))) (by first | omega | assumption | (repeat (first | assumption | omega | decide | apply and_lt8 | apply or_lt8)))) rfl ?_
        refine st_if (y_ne_8 (b := 0) rfl rfl) rfl (fun hbi => ?_) (fun hbi => ?_)
        · have hbt : b.testBit i = true := by rw [← and_pow_ne]; exact decide_eq_true hbi
          refine l_nil ?_
          refine q_then ?_
          refine c_true rfl rfl ?_
          refine c_region ?_
          refine st (y_move rfl) rfl ?_
          refine st (y_move rfl) rfl ?_
          refine st (y_shl_8 (a := 1) rfl rfl) rfl ?_
          rw [hp]
          refine st (y_or_8 rfl rfl (by first | omega | assumption | (repeat (first | assumption | omega | decide | apply and_lt8 | apply or_lt8))) (by first | omega | assumption | (repeat (first | assumption | omega | decide | apply and_lt8 | apply or_lt8)))) rfl ?_
          refine st (y_assign rfl) rfl ?_
          refine l_nil ?_
          refine q_then ?_
          refine c_region ?_
          refine st (y_move rfl) rfl ?_
          refine st (y_add_8 (b := 1) rfl rfl (by omega)) rfl ?_
          refine st (y_assign rfl) rfl ?_
          refine l_nil ?_
          refine q_block ?_
          refine q_then ?_
          refine c_region ?_
          refine st (y_move rfl) rfl ?_
          refine st (y_add_8 (b := 1) rfl rfl (by omega)) rfl ?_
          refine st (y_assign rfl) rfl ?_
          refine l_nil ?_
          refine q_round (i + 1) ⟨rfl, rfl, ?_, ?_, rfl, trivial⟩ ⟨by omega, rfl⟩ (by omega)
          · simp only [exL, hmt, if_true, hbt]; rw [num_true, hel]; rfl
          · simp only [cnt, hmt, if_true]; rfl
        ·
          have hbt : b.testBit i = false := by rw [← and_pow_ne]; exact decide_eq_false hbi
          refine l_nil ?_
          refine q_then ?_
          refine c_false rfl rfl ?_
          refine c_skip ?_
          refine q_then ?_
          refine c_region ?_
          refine st (y_move rfl) rfl ?_
          refine st (y_add_8 (b := 1) rfl rfl (by omega)) rfl ?_
          refine st (y_assign rfl) rfl ?_
          refine l_nil ?_
          refine q_block ?_
          refine q_then ?_
          refine c_region ?_
          refine st (y_move rfl) rfl ?_
          refine st (y_add_8 (b := 1) rfl rfl (by omega)) rfl ?_
          refine st (y_assign rfl) rfl ?_
          refine l_nil ?_
          refine q_round (i + 1) ⟨rfl, rfl, ?_, ?_, rfl, trivial⟩ ⟨by omega, rfl⟩ (by omega)
          · simp only [exL, hmt, if_true, hbt]; rw [num_false]; rfl
          · simp only [cnt, hmt, if_true]; rfl
      ·
        have hmt : m.testBit i = false := by rw [← and_pow_ne]; exact decide_eq_false hmi
        refine l_nil ?_
        refine q_then ?_
        refine c_false rfl rfl ?_
        refine c_skip ?_
        refine q_block ?_
        refine q_then ?_
        refine c_region ?_
        refine st (y_move rfl) rfl ?_
        refine st (y_add_8 (b := 1) rfl rfl (by omega)) rfl ?_
        refine st (y_assign rfl) rfl ?_
        refine l_nil ?_
        refine q_round (i + 1) ⟨rfl, rfl, ?_, ?_, rfl, trivial⟩ ⟨by omega, rfl⟩ (by omega)
        · simp only [exL, hmt, Bool.false_eq_true, if_false, List.append_nil]; rfl
        · simp only [cnt, hmt, Bool.false_eq_true, if_false, Nat.add_zero]; rfl
    ·
      have hi8 : i = 8 := by omega
      subst hi8
      refine l_nil ?_
      refine q_then ?_
      refine c_false rfl rfl ?_
      refine c_exit ?_
      refine q_then_exit ?_
      refine q_then_exit ?_
      refine q_block_hit ?_
      refine q_then ?_
      refine c_seq ?_
      refine c_region ?_
      refine st (y_move rfl) rfl ?_
      refine st (y_assign rfl) rfl ?_
      refine l_nil ?_
      refine q_then ?_
      refine c_ret ?_
      refine q_end1 (.inl rfl) rfl rfl ?_
      exact ⟨_, rfl, rfl, rfl⟩

theorem c_pdepByte (b m : Nat) (hb : b < 256) (hm : m < 256) (w : World) : Cal Tryd.prog 42 [v8 b, v8 m] w fun v w' => v = v8 (num (pdepL b m 8)) ∧ w = w' := by
  refine go_in' Tryd.func42 rfl Tryd.ntmps42 (Nat.le_of_ble_eq_true rfl) ?_
  refine c_seq ?_
  refine c_region ?_
  refine st (y_assign (v := v8 0) rfl) rfl ?_
  refine l_nil ?_
  refine q_then ?_
  refine c_seq ?_
  refine c_region ?_
  refine st (y_assign (v := v8 0) rfl) rfl ?_
  refine st (y_assign (v := v8 0) rfl) rfl ?_
  refine l_nil ?_
  refine q_then ?_
  refine c_seq ?_
  refine c_seq ?_
  refine c_region ?_
  refine st (y_assign (v := v8 0) rfl) rfl ?_
  refine l_nil ?_
  refine q_then ?_
  refine c_block ?_
  refine c_loop (fun i : Nat => [(0, v8 b), (1, v8 m), (5, v8 (num (pdepL b m i))), (6, v8 (cnt m.testBit i)), (7, v8 i)]) (fun i w' => i ≤ 8 ∧ w = w') (fun i => 8 - i) 0 ?_ ?_ ?_
  · exact ⟨rfl, rfl, rfl, rfl, rfl, trivial⟩
  · exact ⟨by omega, rfl⟩
  · rintro i w1 ⟨hi, rfl⟩
    have hc := cnt_le m.testBit i
    have hel := pdepL_length b m i
    have hr := num_lt8 (l := pdepL b m i) (by omega)
    refine c_seq ?_
    refine c_seq ?_
    refine c_region ?_
    refine st (y_move rfl) rfl ?_
    refine st_if (y_lt_8 (b := 8) rfl rfl) rfl (fun hlt => ?_) (fun hlt => ?_)
    · have hs : (1 <<< i) % 256 = 2 ^ i := shl8 (by omega)
      have hs2 : (2 : Nat) ^ i < 256 := by rw [← hs]; omega
      have hp : (1 <<< (cnt m.testBit i)) % 256 = 2 ^ (cnt m.testBit i) := shl8 (by omega)
      have hp2 : (2 : Nat) ^ (cnt m.testBit i) < 256 := by rw [← hp]; omega
      refine l_nil ?_
      refine q_then ?_
      refine c_true rfl rfl ?_
      refine c_skip ?_
      refine q_then ?_
      refine c_seq ?_
      refine c_block ?_
      refine c_seq ?_
      refine c_region ?_
      refine st (y_move rfl) rfl ?_
      refine st (y_move rfl) rfl ?_
      refine st (y_shl_8 (a := 1) rfl rfl) rfl ?_
      rw [hs]
      refine st (y_and_8 rfl rfl (by first | omega | assumption | (repeat (first | assumption | omega | decide | apply and_lt8 | apply or_lt8))) (by first | omega | assumption | (repeat (first | assumption | omega | decide | apply and_lt8 | apply or_lt8)))) rfl ?_
      refine st_if (y_ne_8 (b := 0) rfl rfl) rfl (fun hmi => ?_) (fun hmi => ?_)
      · have hmt : m.testBit i = true := by rw [← and_pow_ne]; exact decide_eq_true hmi
        refine l_nil ?_
        refine q_then ?_
        refine c_true rfl rfl ?_
        refine c_seq ?_
        refine c_seq ?_
        refine c_region ?_
        refine st (y_move rfl) rfl ?_
        refine st (y_move rfl) rfl ?_
        refine st (y_shl_8 (a := 1) rfl rfl) rfl ?_
        rw [hp]
        refine st (y_and_8 rfl rfl (by first | omega | assumption | (repeat (first | assumption | omega | decide | apply and_lt8 | apply or_lt8))) (by first | omega | assumption | (repeat (first | assumption | omega | decide | apply and_lt8 | apply or_lt8)))) rfl ?_
        refine st_if (y_ne_8 (b := 0) rfl rfl) rfl (fun hbi => ?_) (fun hbi => ?_)
        · have hbt : b.testBit (cnt m.testBit i) = true := by rw [← and_pow_ne]; exact decide_eq_true hbi
          refine l_nil ?_
          refine q_then ?_
          refine c_true rfl rfl ?_
          refine c_region ?_
          refine st (y_move rfl) rfl ?_
          refine st (y_move rfl) rfl ?_
          refine st (y_shl_8 (a := 1) rfl rfl) rfl ?_
          rw [hs]
          refine st (y_or_8 rfl rfl (by first | omega | assumption | (repeat (first | assumption | omega | decide | apply and_lt8 | apply or_lt8))) (by first | omega | assumption | (repeat (first | assumption | omega | decide | apply and_lt8 | apply or_lt8)))) rfl ?_
          refine st (y_assign rfl) rfl ?_
          refine l_nil ?_
          refine q_then ?_
          refine c_region ?_
          refine st (y_move rfl) rfl ?_
          refine st (y_add_8 (b := 1) rfl rfl (by omega)) rfl ?_
          refine st (y_assign rfl) rfl ?_
          refine l_nil ?_
          refine q_block ?_
          refine q_then ?_
          refine c_region ?_
          refine st (y_move rfl) rfl ?_
          refine st (y_add_8 (b := 1) rfl rfl (by omega)) rfl ?_
          refine st (y_assign rfl) rfl ?_
          refine l_nil ?_
          refine q_round (i + 1) ⟨rfl, rfl, ?_, ?_, rfl, trivial⟩ ⟨by omega, rfl⟩ (by omega)
          · rw [pdepL_succ, hmt, hbt, Bool.true_and, num_true, hel]; rfl
          · simp only [cnt, hmt, if_true]; rfl
        ·
          have hbt : b.testBit (cnt m.testBit i) = false := by rw [← and_pow_ne]; exact decide_eq_false hbi
          refine l_nil ?_
          refine q_then ?_
          refine c_false rfl rfl ?_
          refine c_skip ?_
          refine q_then ?_
          refine c_region ?_
          refine st (y_move rfl) rfl ?_
          refine st (y_add_8 (b := 1) rfl rfl (by omega)) rfl ?_
          refine st (y_assign rfl) rfl ?_
          refine l_nil ?_
          refine q_block ?_
          refine q_then ?_
          refine c_region ?_
          refine st (y_move rfl) rfl ?_
          refine st (y_add_8 (b := 1) rfl rfl (by omega)) rfl ?_
          refine st (y_assign rfl) rfl ?_
          refine l_nil ?_
          refine q_round (i + 1) ⟨rfl, rfl, ?_, ?_, rfl, trivial⟩ ⟨by omega, rfl⟩ (by omega)
          · rw [pdepL_succ, hmt, hbt, Bool.true_and, num_false]; rfl
          · simp only [cnt, hmt, if_true]; rfl
      ·
        have hmt : m.testBit i = false := by rw [← and_pow_ne]; exact decide_eq_false hmi
        refine l_nil ?_
        refine q_then ?_
        refine c_false rfl rfl ?_
        refine c_skip ?_
        refine q_block ?_
        refine q_then ?_
        refine c_region ?_
        refine st (y_move rfl) rfl ?_
        refine st (y_add_8 (b := 1) rfl rfl (by omega)) rfl ?_
        refine st (y_assign rfl) rfl ?_
        refine l_nil ?_
        refine q_round (i + 1) ⟨rfl, rfl, ?_, ?_, rfl, trivial⟩ ⟨by omega, rfl⟩ (by omega)
        · rw [pdepL_succ, hmt, Bool.false_and, num_false]; rfl
        · simp only [cnt, hmt, Bool.false_eq_true, if_false, Nat.add_zero]; rfl
    ·
      have hi8 : i = 8 := by omega
      subst hi8
      refine l_nil ?_
      refine q_then ?_
      refine c_false rfl rfl ?_
      refine c_exit ?_
      refine q_then_exit ?_
      refine q_then_exit ?_
      refine q_block_hit ?_
      refine q_then ?_
      refine c_seq ?_
      refine c_region ?_
      refine st (y_move rfl) rfl ?_
      refine st (y_assign rfl) rfl ?_
      refine l_nil ?_
      refine q_then ?_
      refine c_ret ?_
      refine q_end1 (.inl rfl) rfl rfl ?_
      exact ⟨_, rfl, rfl, rfl⟩

theorem c_pext (x m : Nat) (hx : x < 18446744073709551616) (hm : m < 18446744073709551616) (w : World) : Cal Tryd.prog 36 [vU x, vU m] w fun v w' => v = vU (num (exL m.testBit x.testBit 64)) ∧ w = w' := by
  refine go_in' Tryd.func36 rfl Tryd.ntmps36 (Nat.le_of_ble_eq_true rfl) ?_
  refine c_seq ?_
  refine c_region ?_
  refine st (y_assign (v := vU 0) rfl) rfl ?_
  refine l_nil ?_
  refine q_then ?_
  refine c_seq ?_
  refine c_region ?_
  refine st (y_assign (v := vU 0) rfl) rfl ?_
  refine l_nil ?_
  refine q_then ?_
  refine c_seq ?_
  refine c_seq ?_
  refine c_region ?_
  refine st (y_assign (v := vI ((0 : Nat) : Int)) rfl) rfl ?_
  refine l_nil ?_
  refine q_then ?_
  refine c_block ?_
  refine c_loop (fun i : Nat => [(0, vU x), (1, vU m), (4, vU (num (exL m.testBit x.testBit (8 * i)))), (5, vU (cnt m.testBit (8 * i))), (6, vI (i : Nat))]) (fun i w' => i ≤ 8 ∧ w = w') (fun i => 8 - i) 0 ?_ ?_ ?_
  · exact ⟨rfl, rfl, rfl, rfl, rfl, trivial⟩
  · exact ⟨by omega, rfl⟩
  · rintro i w1 ⟨hi, rfl⟩
    have hc := cnt_le m.testBit (8 * i)
    have hel := exL_length m.testBit x.testBit (8 * i)
    refine c_seq ?_
    refine c_seq ?_
    refine c_region ?_
    refine st (y_move rfl) rfl ?_
    refine st_if (y_lt_i (b := 8) rfl rfl) rfl (fun hlt => ?_) (fun hlt => ?_)
    · have hr := num_lt64 (l := exL m.testBit x.testBit (8 * i)) (by omega)
      refine l_nil ?_
      refine q_then ?_
      refine c_true rfl rfl ?_
      refine c_skip ?_
      refine q_then ?_
      refine c_seq ?_
      refine c_block ?_
      refine c_seq ?_
      refine c_region ?_
      refine st (y_move rfl) rfl ?_
      refine st (y_shl_i (k := 3) rfl rfl (by omega) (by omega) (by omega)) rfl ?_
      rw [show ((i : Int) * 2 ^ 3) = ((8 * i : Nat) : Int) by omega]
      refine st (y_assign rfl) rfl ?_
      refine l_nil ?_
      refine q_then ?_
      refine c_seq ?_
      refine c_region ?_
      refine st (y_move rfl) rfl ?_
      refine st (y_move rfl) rfl ?_
      refine st (y_shr rfl rfl (by first | omega | assumption | (repeat (first | assumption | omega | decide | exact shl_lt64 _ _ | apply and_lt64 | apply or_lt64 | apply xor_lt64 | apply nt_lt | apply shr_lt64 | apply getD_lt64)))) rfl ?_
      refine st (y_conv_u8 rfl us58 Tryd.underlying5) rfl ?_
      refine st (y_assign rfl) rfl ?_
      refine l_nil ?_
      refine q_then ?_
      refine c_seq ?_
      refine c_region ?_
      refine st (y_move rfl) rfl ?_
      refine st (y_move rfl) rfl ?_
      refine st (y_shr rfl rfl (by first | omega | assumption | (repeat (first | assumption | omega | decide | exact shl_lt64 _ _ | apply and_lt64 | apply or_lt64 | apply xor_lt64 | apply nt_lt | apply shr_lt64 | apply getD_lt64)))) rfl ?_
      refine st (y_conv_u8 rfl us58 Tryd.underlying5) rfl ?_
      refine st (y_assign rfl) rfl ?_
      refine l_nil ?_
      refine q_then ?_
      refine c_seq ?_
      refine c_region ?_
      refine st (y_move rfl) rfl ?_
      refine st (y_move rfl) rfl ?_
      refine sc rfl rfl isfn40 (c_pextByte _ _ (Nat.mod_lt _ (by decide)) (Nat.mod_lt _ (by decide)) _) rfl ?_
      rintro _ _ ⟨rfl, rfl⟩
      have hel2 := exL_length ((m >>> (8 * i)) % 256).testBit ((x >>> (8 * i)) % 256).testBit 8
      have hc2 := cnt_le ((m >>> (8 * i)) % 256).testBit 8
      have hr2 := num_lt8 (l := exL ((m >>> (8 * i)) % 256).testBit ((x >>> (8 * i)) % 256).testBit 8) (by omega)
      refine st (y_assign rfl) rfl ?_
      refine l_nil ?_
      refine q_then ?_
      refine c_seq ?_
      refine c_region ?_
      refine st (y_move rfl) rfl ?_
      refine sc rfl rfl isfn41 (c_popByte _ (Nat.mod_lt _ (by decide)) _) rfl ?_
      rintro _ _ ⟨rfl, rfl⟩
      refine st (y_assign rfl) rfl ?_
      refine l_nil ?_
      refine q_then ?_
      refine c_seq ?_
      refine c_region ?_
      refine st (y_move rfl) rfl ?_
      refine st (y_move rfl) rfl ?_
      refine st (y_conv_8u rfl us5 Tryd.underlying58 (by omega)) rfl ?_
      refine st (y_move rfl) rfl ?_
      refine st (y_shl rfl rfl) rfl ?_
      refine st (y_or rfl rfl (by first | omega | assumption | (repeat (first | assumption | omega | decide | exact shl_lt64 _ _ | apply and_lt64 | apply or_lt64 | apply xor_lt64 | apply nt_lt | apply shr_lt64 | apply getD_lt64))) (by first | omega | assumption | (repeat (first | assumption | omega | decide | exact shl_lt64 _ _ | apply and_lt64 | apply or_lt64 | apply xor_lt64 | apply nt_lt | apply shr_lt64 | apply getD_lt64)))) rfl ?_
      refine st (y_assign rfl) rfl ?_
      refine l_nil ?_
      refine q_then ?_
      refine c_region ?_
      refine st (y_move rfl) rfl ?_
      refine st (y_move rfl) rfl ?_
      refine st (y_conv_8u rfl us5 Tryd.underlying22 (by omega)) rfl ?_
      refine st (y_add_u rfl rfl (by omega)) rfl ?_
      refine st (y_assign rfl) rfl ?_
      refine l_nil ?_
      refine q_block ?_
      refine q_then ?_
      refine c_region ?_
      refine st (y_move rfl) rfl ?_
      first | refine st (y_add_in (b := 1) rfl rfl (by omega)) rfl ?_ | refine st (y_add_i (b := 1) rfl rfl (by omega) (by omega)) rfl ?_
      refine st (y_assign rfl) rfl ?_
      refine l_nil ?_
      refine q_round (i + 1) ⟨rfl, rfl, ?_, ?_, rfl, trivial⟩ ⟨by omega, rfl⟩ (by omega)
      · rw [show 8 * (i + 1) = 8 * i + 8 by omega, pext_step x m i (by omega), num_app _ _ (by omega), hel]; rfl
      · rw [show 8 * (i + 1) = 8 * i + 8 by omega, cnt_add, ← cnt_byte]; rfl
    ·
      have hi8 : i = 8 := by omega
      subst hi8
      refine l_nil ?_
      refine q_then ?_
      refine c_false rfl rfl ?_
      refine c_exit ?_
      refine q_then_exit ?_
      refine q_then_exit ?_
      refine q_block_hit ?_
      refine q_then ?_
      refine c_seq ?_
      refine c_region ?_
      refine st (y_move rfl) rfl ?_
      refine st (y_assign rfl) rfl ?_
      refine l_nil ?_
      refine q_then ?_
      refine c_ret ?_
      refine q_end1 (.inl rfl) rfl rfl ?_
      exact ⟨_, rfl, rfl, rfl⟩

theorem c_pdep (x m : Nat) (hx : x < 18446744073709551616) (hm : m < 18446744073709551616) (w : World) : Cal Tryd.prog 38 [vU x, vU m] w fun v w' => v = vU (num (pdepL x m 64)) ∧ w = w' := by
  refine go_in' Tryd.func38 rfl Tryd.ntmps38 (Nat.le_of_ble_eq_true rfl) ?_
  refine c_seq ?_
  refine c_region ?_
  refine st (y_assign (v := vU 0) rfl) rfl ?_
  refine l_nil ?_
  refine q_then ?_
  refine c_seq ?_
  refine c_region ?_
  refine st (y_assign (v := vU 0) rfl) rfl ?_
  refine l_nil ?_
  refine q_then ?_
  refine c_seq ?_
  refine c_seq ?_
  refine c_region ?_
  refine st (y_assign (v := vI ((0 : Nat) : Int)) rfl) rfl ?_
  refine l_nil ?_
  refine q_then ?_
  refine c_block ?_
  refine c_loop (fun i : Nat => [(0, vU x), (1, vU m), (4, vU (num (pdepL x m (8 * i)))), (5, vU (cnt m.testBit (8 * i))), (6, vI (i : Nat))]) (fun i w' => i ≤ 8 ∧ w = w') (fun i => 8 - i) 0 ?_ ?_ ?_
  · exact ⟨rfl, rfl, rfl, rfl, rfl, trivial⟩
  · exact ⟨by omega, rfl⟩
  · rintro i w1 ⟨hi, rfl⟩
    have hc := cnt_le m.testBit (8 * i)
    have hel := pdepL_length x m (8 * i)
    refine c_seq ?_
    refine c_seq ?_
    refine c_region ?_
    refine st (y_move rfl) rfl ?_
    refine st_if (y_lt_i (b := 8) rfl rfl) rfl (fun hlt => ?_) (fun hlt => ?_)
    · have hr := num_lt64 (l := pdepL x m (8 * i)) (by omega)
      refine l_nil ?_
      refine q_then ?_
      refine c_true rfl rfl ?_
      refine c_skip ?_
      refine q_then ?_
      refine c_seq ?_
      refine c_block ?_
      refine c_seq ?_
      refine c_region ?_
      refine st (y_move rfl) rfl ?_
      refine st (y_shl_i (k := 3) rfl rfl (by omega) (by omega) (by omega)) rfl ?_
      rw [show ((i : Int) * 2 ^ 3) = ((8 * i : Nat) : Int) by omega]
      refine st (y_assign rfl) rfl ?_
      refine l_nil ?_
      refine q_then ?_
      refine c_seq ?_
      refine c_region ?_
      refine st (y_move rfl) rfl ?_
      refine st (y_move rfl) rfl ?_
      refine st (y_shr rfl rfl (by first | omega | assumption | (repeat (first | assumption | omega | decide | exact shl_lt64 _ _ | apply and_lt64 | apply or_lt64 | apply xor_lt64 | apply nt_lt | apply shr_lt64 | apply getD_lt64)))) rfl ?_
      refine st (y_conv_u8 rfl us58 Tryd.underlying5) rfl ?_
      refine st (y_assign rfl) rfl ?_
      refine l_nil ?_
      refine q_then ?_
      refine c_seq ?_
      refine c_region ?_
      refine st (y_move rfl) rfl ?_
      refine sc rfl rfl isfn41 (c_popByte _ (Nat.mod_lt _ (by decide)) _) rfl ?_
      rintro _ _ ⟨rfl, rfl⟩
      have hc2 := cnt_le ((m >>> (8 * i)) % 256).testBit 8
      refine st (y_assign rfl) rfl ?_
      refine l_nil ?_
      refine q_then ?_
      refine c_seq ?_
      refine c_region ?_
      refine st (y_move rfl) rfl ?_
      refine st (y_move rfl) rfl ?_
      refine st (y_shr rfl rfl (by first | omega | assumption | (repeat (first | assumption | omega | decide | exact shl_lt64 _ _ | apply and_lt64 | apply or_lt64 | apply xor_lt64 | apply nt_lt | apply shr_lt64 | apply getD_lt64)))) rfl ?_
      refine st (y_conv_u8 rfl us58 Tryd.underlying5) rfl ?_
      refine st (y_assign rfl) rfl ?_
      refine l_nil ?_
      refine q_then ?_
      refine c_seq ?_
      refine c_region ?_
      refine st (y_move rfl) rfl ?_
      refine st (y_move rfl) rfl ?_
      refine sc rfl rfl isfn42 (c_pdepByte _ _ (Nat.mod_lt _ (by decide)) (Nat.mod_lt _ (by decide)) _) rfl ?_
      rintro _ _ ⟨rfl, rfl⟩
      have hel2 := pdepL_length ((x >>> (cnt m.testBit (8 * i))) % 256) ((m >>> (8 * i)) % 256) 8
      have hr2 := num_lt8 (l := pdepL ((x >>> (cnt m.testBit (8 * i))) % 256) ((m >>> (8 * i)) % 256) 8) (by omega)
      refine st (y_assign rfl) rfl ?_
      refine l_nil ?_
      refine q_then ?_
      refine c_seq ?_
      refine c_region ?_
      refine st (y_move rfl) rfl ?_
      refine st (y_move rfl) rfl ?_
      refine st (y_conv_8u rfl us5 Tryd.underlying58 (by omega)) rfl ?_
      refine st (y_move rfl) rfl ?_
      refine st (y_shl rfl rfl) rfl ?_
      refine st (y_or rfl rfl (by first | omega | assumption | (repeat (first | assumption | omega | decide | exact shl_lt64 _ _ | apply and_lt64 | apply or_lt64 | apply xor_lt64 | apply nt_lt | apply shr_lt64 | apply getD_lt64))) (by first | omega | assumption | (repeat (first | assumption | omega | decide | exact shl_lt64 _ _ | apply and_lt64 | apply or_lt64 | apply xor_lt64 | apply nt_lt | apply shr_lt64 | apply getD_lt64)))) rfl ?_
      refine st (y_assign rfl) rfl ?_
      refine l_nil ?_
      refine q_then ?_
      refine c_region ?_
      refine st (y_move rfl) rfl ?_
      refine st (y_move rfl) rfl ?_
      refine st (y_conv_8u rfl us5 Tryd.underlying22 (by omega)) rfl ?_
      refine st (y_add_u rfl rfl (by omega)) rfl ?_
      refine st (y_assign rfl) rfl ?_
      refine l_nil ?_
      refine q_block ?_
      refine q_then ?_
      refine c_region ?_
      refine st (y_move rfl) rfl ?_
      first | refine st (y_add_in (b := 1) rfl rfl (by omega)) rfl ?_ | refine st (y_add_i (b := 1) rfl rfl (by omega) (by omega)) rfl ?_
      refine st (y_assign rfl) rfl ?_
      refine l_nil ?_
      refine q_round (i + 1) ⟨rfl, rfl, ?_, ?_, rfl, trivial⟩ ⟨by omega, rfl⟩ (by omega)
      · rw [show 8 * (i + 1) = 8 * i + 8 by omega, pdep_step x m i, num_app _ _ (by omega), hel]; rfl
      · rw [show 8 * (i + 1) = 8 * i + 8 by omega, cnt_add, ← cnt_byte]; rfl
    ·
      have hi8 : i = 8 := by omega
      subst hi8
      refine l_nil ?_
      refine q_then ?_
      refine c_false rfl rfl ?_
      refine c_exit ?_
      refine q_then_exit ?_
      refine q_then_exit ?_
      refine q_block_hit ?_
      refine q_then ?_
      refine c_seq ?_
      refine c_region ?_
      refine st (y_move rfl) rfl ?_
      refine st (y_assign rfl) rfl ?_
      refine l_nil ?_
      refine q_then ?_
      refine c_ret ?_
      refine q_end1 (.inl rfl) rfl rfl ?_
      exact ⟨_, rfl, rfl, rfl⟩

end Go.Proofs.YthefhfliobjgaaaDoor

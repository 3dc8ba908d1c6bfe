/- The number of the j-th member: select64, Select, impl.Select and the statement's own walk. -/
import Derived.Test.YtlhbbndedbacpaaC2
import Derived.Test.YtlhbbndedbacpaaL8
set_option linter.unusedVariables false
set_option linter.unusedSimpArgs false
set_option maxRecDepth 100000
namespace Go.Proofs.Ytlhbbndedbacpaa
open Go Go.RowKit

theorem c_select64 (m j : Nat) (w : World) (hm : m < 18446744073709551616) (hj : j < popc m) :
    Cal Try.prog 64 [vU m, vU j] w fun v w' => ∃ r, v = vU r ∧ r < 64 ∧ m.testBit r = true ∧ cnt m.testBit r = j ∧ w = w' := by
  have hjl := popc_le m
  have s0 := Sel.start hm hj
  refine go_in' Try.func64 rfl Try.ntmps64 (Nat.le_of_ble_eq_true rfl) ?_
  have hb0 := low_mask m 32 4294967295 (by decide)
  have hl0 : (m &&& 4294967295) < 18446744073709551616 := Nat.lt_of_le_of_lt Nat.and_le_left s0.1
  have hp0 := popc_le (m &&& 4294967295)
  refine c_seq ?_
  refine c_region ?_
  refine st (y_assign rfl) rfl ?_
  refine l_nil ?_
  refine q_then ?_
  refine c_seq ?_
  refine c_region ?_
  refine st (y_assign rfl) rfl ?_
  refine l_nil ?_
  refine q_then ?_
  refine c_seq ?_
  refine c_region ?_
  refine st (y_move rfl) rfl ?_
  refine st (y_and (b := 4294967295) rfl rfl (by first | omega | assumption | (repeat (first | assumption | omega | decide | exact shl_lt64 _ _ | apply and_lt64 | apply or_lt64 | apply xor_lt64 | apply nt_lt | apply shr_lt64 | apply getD_lt64))) (by first | omega | assumption | (repeat (first | assumption | omega | decide | exact shl_lt64 _ _ | apply and_lt64 | apply or_lt64 | apply xor_lt64 | apply nt_lt | apply shr_lt64 | apply getD_lt64)))) rfl ?_
  refine st (y_assign rfl) rfl ?_
  refine l_nil ?_
  refine q_then ?_
  refine c_seq ?_
  refine c_region ?_
  refine st (y_move rfl) rfl ?_
  refine sc rfl rfl isfn63 (c_OnesCount64 _ hl0 _) rfl ?_
  rintro _ _ ⟨rfl, rfl⟩
  refine st (y_conv_iu rfl us3 Try.underlying22 rfl (by omega)) rfl ?_
  refine st (y_assign rfl) rfl ?_
  refine l_nil ?_
  refine q_then ?_
  refine c_cut (fun x : Nat × Nat × Nat => [(0, vU m), (1, vU x.2.2), (5, vI (x.1 : Nat)), (6, vU x.2.1)]) (fun x w' => Sel m j x.1 32 x.2.1 x.2.2 ∧ w = w') ?_ ?_
  · refine c_seq ?_
    refine c_region ?_
    refine st (y_move rfl) rfl ?_
    refine st (y_move rfl) rfl ?_
    refine st_if (y_le_u rfl rfl) rfl (fun hc => ?_) (fun hc => ?_)
    · refine l_nil ?_
      refine q_then ?_
      refine c_true rfl rfl ?_
      refine c_seq ?_
      refine c_region ?_
      refine st (y_move rfl) rfl ?_
      refine st (y_shr (k := 32) rfl rfl (by first | omega | assumption | (repeat (first | assumption | omega | decide | exact shl_lt64 _ _ | apply and_lt64 | apply or_lt64 | apply xor_lt64 | apply nt_lt | apply shr_lt64 | apply getD_lt64)))) rfl ?_
      refine st (y_assign rfl) rfl ?_
      refine l_nil ?_
      refine q_then ?_
      refine c_seq ?_
      refine c_region ?_
      refine st (y_move rfl) rfl ?_
      first | refine st (y_add_in (b := 32) rfl rfl (by omega)) rfl ?_ | refine st (y_add_i (b := 32) rfl rfl (by omega) (by omega)) rfl ?_
      refine st (y_assign rfl) rfl ?_
      refine l_nil ?_
      refine q_then ?_
      refine c_region ?_
      refine st (y_move rfl) rfl ?_
      refine st (y_move rfl) rfl ?_
      refine st (y_sub_u rfl rfl (by omega) (by omega)) rfl ?_
      refine st (y_assign rfl) rfl ?_
      refine l_nil ?_
      have hs := Sel.high (h := 32) s0 hb0 hc
      refine q_meet (0 + 32, m >>> 32, j - popc (m &&& 4294967295)) ⟨rfl, rfl, rfl, rfl, trivial⟩ ⟨hs, rfl⟩
    ·
      refine l_nil ?_
      refine q_then ?_
      refine c_false rfl rfl ?_
      refine c_skip ?_
      have hs := Sel.low (h := 32) s0 hl0 hb0 (by omega)
      refine q_meet (0, (m &&& 4294967295), j) ⟨rfl, rfl, rfl, rfl, trivial⟩ ⟨hs, rfl⟩
  ·
    rintro ⟨p1, x1, i1⟩ w' ⟨s1, rfl⟩
    simp only at s1 ⊢
    have hx1 := s1.1
    obtain ⟨_, _, _, hi1, hq1⟩ := id s1
    have hz1 := cnt_le x1.testBit 32
    have hb1 := low_mask x1 16 65535 (by decide)
    have hl1 : (x1 &&& 65535) < 18446744073709551616 := Nat.lt_of_le_of_lt Nat.and_le_left s1.1
    have hp1 := popc_le (x1 &&& 65535)
    refine c_seq ?_
    refine c_region ?_
    refine st (y_move rfl) rfl ?_
    refine st (y_assign rfl) rfl ?_
    refine l_nil ?_
    refine q_then ?_
    refine c_seq ?_
    refine c_region ?_
    refine st (y_move rfl) rfl ?_
    refine st (y_and (b := 65535) rfl rfl (by first | omega | assumption | (repeat (first | assumption | omega | decide | exact shl_lt64 _ _ | apply and_lt64 | apply or_lt64 | apply xor_lt64 | apply nt_lt | apply shr_lt64 | apply getD_lt64))) (by first | omega | assumption | (repeat (first | assumption | omega | decide | exact shl_lt64 _ _ | apply and_lt64 | apply or_lt64 | apply xor_lt64 | apply nt_lt | apply shr_lt64 | apply getD_lt64)))) rfl ?_
    refine st (y_assign rfl) rfl ?_
    refine l_nil ?_
    refine q_then ?_
    refine c_seq ?_
    refine c_region ?_
    refine st (y_move rfl) rfl ?_
    refine sc rfl rfl isfn63 (c_OnesCount64 _ hl1 _) rfl ?_
    rintro _ _ ⟨rfl, rfl⟩
    refine st (y_conv_iu rfl us3 Try.underlying22 rfl (by omega)) rfl ?_
    refine st (y_assign rfl) rfl ?_
    refine l_nil ?_
    refine q_then ?_
    refine c_cut (fun x : Nat × Nat × Nat => [(0, vU m), (1, vU x.2.2), (5, vI (x.1 : Nat)), (6, vU x.2.1)]) (fun x w' => Sel m j x.1 16 x.2.1 x.2.2 ∧ w = w') ?_ ?_
    · refine c_seq ?_
      refine c_region ?_
      refine st (y_move rfl) rfl ?_
      refine st (y_move rfl) rfl ?_
      refine st_if (y_le_u rfl rfl) rfl (fun hc => ?_) (fun hc => ?_)
      · refine l_nil ?_
        refine q_then ?_
        refine c_true rfl rfl ?_
        refine c_seq ?_
        refine c_region ?_
        refine st (y_move rfl) rfl ?_
        refine st (y_shr (k := 16) rfl rfl (by first | omega | assumption | (repeat (first | assumption | omega | decide | exact shl_lt64 _ _ | apply and_lt64 | apply or_lt64 | apply xor_lt64 | apply nt_lt | apply shr_lt64 | apply getD_lt64)))) rfl ?_
        refine st (y_assign rfl) rfl ?_
        refine l_nil ?_
        refine q_then ?_
        refine c_seq ?_
        refine c_region ?_
        refine st (y_move rfl) rfl ?_
        first | refine st (y_add_in (b := 16) rfl rfl (by omega)) rfl ?_ | refine st (y_add_i (b := 16) rfl rfl (by omega) (by omega)) rfl ?_
        refine st (y_assign rfl) rfl ?_
        refine l_nil ?_
        refine q_then ?_
        refine c_region ?_
        refine st (y_move rfl) rfl ?_
        refine st (y_move rfl) rfl ?_
        refine st (y_sub_u rfl rfl (by omega) (by omega)) rfl ?_
        refine st (y_assign rfl) rfl ?_
        refine l_nil ?_
        have hs := Sel.high (h := 16) s1 hb1 hc
        refine q_meet (p1 + 16, x1 >>> 16, i1 - popc (x1 &&& 65535)) ⟨rfl, rfl, rfl, rfl, trivial⟩ ⟨hs, rfl⟩
      ·
        refine l_nil ?_
        refine q_then ?_
        refine c_false rfl rfl ?_
        refine c_skip ?_
        have hs := Sel.low (h := 16) s1 hl1 hb1 (by omega)
        refine q_meet (p1, (x1 &&& 65535), i1) ⟨rfl, rfl, rfl, rfl, trivial⟩ ⟨hs, rfl⟩
    ·
      rintro ⟨p2, x2, i2⟩ w' ⟨s2, rfl⟩
      simp only at s2 ⊢
      have hx2 := s2.1
      obtain ⟨_, _, _, hi2, hq2⟩ := id s2
      have hz2 := cnt_le x2.testBit 16
      have hb2 := low_mask x2 8 255 (by decide)
      have hl2 : (x2 &&& 255) < 18446744073709551616 := Nat.lt_of_le_of_lt Nat.and_le_left s2.1
      have hp2 := popc_le (x2 &&& 255)
      refine c_seq ?_
      refine c_region ?_
      refine st (y_move rfl) rfl ?_
      refine st (y_assign rfl) rfl ?_
      refine l_nil ?_
      refine q_then ?_
      refine c_seq ?_
      refine c_region ?_
      refine st (y_move rfl) rfl ?_
      refine st (y_and (b := 255) rfl rfl (by first | omega | assumption | (repeat (first | assumption | omega | decide | exact shl_lt64 _ _ | apply and_lt64 | apply or_lt64 | apply xor_lt64 | apply nt_lt | apply shr_lt64 | apply getD_lt64))) (by first | omega | assumption | (repeat (first | assumption | omega | decide | exact shl_lt64 _ _ | apply and_lt64 | apply or_lt64 | apply xor_lt64 | apply nt_lt | apply shr_lt64 | apply getD_lt64)))) rfl ?_
      refine st (y_assign rfl) rfl ?_
      refine l_nil ?_
      refine q_then ?_
      refine c_seq ?_
      refine c_region ?_
      refine st (y_move rfl) rfl ?_
      refine sc rfl rfl isfn63 (c_OnesCount64 _ hl2 _) rfl ?_
      rintro _ _ ⟨rfl, rfl⟩
      refine st (y_conv_iu rfl us3 Try.underlying22 rfl (by omega)) rfl ?_
      refine st (y_assign rfl) rfl ?_
      refine l_nil ?_
      refine q_then ?_
      refine c_cut (fun x : Nat × Nat × Nat => [(0, vU m), (1, vU x.2.2), (5, vI (x.1 : Nat)), (6, vU x.2.1)]) (fun x w' => Sel m j x.1 8 x.2.1 x.2.2 ∧ w = w') ?_ ?_
      · refine c_seq ?_
        refine c_region ?_
        refine st (y_move rfl) rfl ?_
        refine st (y_move rfl) rfl ?_
        refine st_if (y_le_u rfl rfl) rfl (fun hc => ?_) (fun hc => ?_)
        · refine l_nil ?_
          refine q_then ?_
          refine c_true rfl rfl ?_
          refine c_seq ?_
          refine c_region ?_
          refine st (y_move rfl) rfl ?_
          refine st (y_shr (k := 8) rfl rfl (by first | omega | assumption | (repeat (first | assumption | omega | decide | exact shl_lt64 _ _ | apply and_lt64 | apply or_lt64 | apply xor_lt64 | apply nt_lt | apply shr_lt64 | apply getD_lt64)))) rfl ?_
          refine st (y_assign rfl) rfl ?_
          refine l_nil ?_
          refine q_then ?_
          refine c_seq ?_
          refine c_region ?_
          refine st (y_move rfl) rfl ?_
          first | refine st (y_add_in (b := 8) rfl rfl (by omega)) rfl ?_ | refine st (y_add_i (b := 8) rfl rfl (by omega) (by omega)) rfl ?_
          refine st (y_assign rfl) rfl ?_
          refine l_nil ?_
          refine q_then ?_
          refine c_region ?_
          refine st (y_move rfl) rfl ?_
          refine st (y_move rfl) rfl ?_
          refine st (y_sub_u rfl rfl (by omega) (by omega)) rfl ?_
          refine st (y_assign rfl) rfl ?_
          refine l_nil ?_
          have hs := Sel.high (h := 8) s2 hb2 hc
          refine q_meet (p2 + 8, x2 >>> 8, i2 - popc (x2 &&& 255)) ⟨rfl, rfl, rfl, rfl, trivial⟩ ⟨hs, rfl⟩
        ·
          refine l_nil ?_
          refine q_then ?_
          refine c_false rfl rfl ?_
          refine c_skip ?_
          have hs := Sel.low (h := 8) s2 hl2 hb2 (by omega)
          refine q_meet (p2, (x2 &&& 255), i2) ⟨rfl, rfl, rfl, rfl, trivial⟩ ⟨hs, rfl⟩
      ·
        rintro ⟨p3, x3, i3⟩ w' ⟨s3, rfl⟩
        simp only at s3 ⊢
        have hx3 := s3.1
        obtain ⟨_, _, _, hi3, hq3⟩ := id s3
        have hz3 := cnt_le x3.testBit 8
        refine c_seq ?_
        refine c_region ?_
        refine st (y_move rfl) rfl ?_
        refine st (y_assign rfl) rfl ?_
        refine l_nil ?_
        refine q_then ?_
        refine c_seq ?_
        refine c_region ?_
        refine st (y_assign rfl) rfl ?_
        refine l_nil ?_
        refine q_then ?_
        refine c_seq ?_
        refine c_block ?_
        refine c_loop (fun a : Nat => [(5, vI (p3 : Nat)), (8, vU x3), (1, vU (i3 - cnt x3.testBit a)), (9, vI (a : Nat))]) (fun a w' => a ≤ 8 ∧ cnt x3.testBit a ≤ i3 ∧ w = w') (fun a => 8 - a) 0 ?_ ?_ ?_
        · exact ⟨rfl, rfl, rfl, rfl, trivial⟩
        · exact ⟨Nat.zero_le _, Nat.zero_le _, rfl⟩
        · rintro a w1 ⟨ha, hca, rfl⟩
          have ha8 : a < 8 := by
            rcases Nat.lt_or_ge a 8 with h | h
            · exact h
            · have e : a = 8 := by omega
              subst e; omega
          have hbn := bit_toNat x3 a
          have hcb := cnt_bit x3.testBit a
          have hb1 : (x3.testBit a).toNat ≤ 1 := by cases x3.testBit a <;> decide
          refine c_seq ?_
          refine c_seq ?_
          refine c_region ?_
          refine st (y_move rfl) rfl ?_
          refine st_t (y_lt_i (b := 8) rfl rfl) (by omega) rfl ?_
          refine l_nil ?_
          refine q_then ?_
          refine c_true rfl rfl ?_
          refine c_skip ?_
          refine q_then ?_
          refine c_seq ?_
          refine c_block ?_
          refine c_seq ?_
          refine c_region ?_
          refine st (y_move rfl) rfl ?_
          refine st (y_move rfl) rfl ?_
          refine st (y_move rfl) rfl ?_
          refine st (y_shr rfl rfl (by first | omega | assumption | (repeat (first | assumption | omega | decide | exact shl_lt64 _ _ | apply and_lt64 | apply or_lt64 | apply xor_lt64 | apply nt_lt | apply shr_lt64 | apply getD_lt64)))) rfl ?_
          refine st (y_and (b := 1) rfl rfl (by first | omega | assumption | (repeat (first | assumption | omega | decide | exact shl_lt64 _ _ | apply and_lt64 | apply or_lt64 | apply xor_lt64 | apply nt_lt | apply shr_lt64 | apply getD_lt64))) (by first | omega | assumption | (repeat (first | assumption | omega | decide | exact shl_lt64 _ _ | apply and_lt64 | apply or_lt64 | apply xor_lt64 | apply nt_lt | apply shr_lt64 | apply getD_lt64)))) rfl ?_
          rw [hbn]
          refine st (y_subw_u rfl rfl (by omega) (by omega)) rfl ?_
          refine st (y_assign rfl) rfl ?_
          refine l_nil ?_
          refine q_then ?_
          refine c_seq ?_
          refine c_region ?_
          refine st (y_move rfl) rfl ?_
          refine st (y_addw_u (b := 1) rfl rfl) rfl ?_
          refine st_if (y_eq_u (b := 0) rfl rfl) rfl (fun hz => ?_) (fun hz => ?_)
          · have hbt : (x3.testBit a).toNat = 1 := by omega
            have hf := s3.found (a := a) ha8 (by cases h : x3.testBit a; · rw [h] at hbt; cases hbt
                                                 · rfl) (by omega)
            refine l_nil ?_
            refine q_then ?_
            refine c_true rfl rfl ?_
            refine c_exit ?_
            refine q_block_miss rfl ?_
            refine q_then_exit ?_
            refine q_then_exit ?_
            refine q_block_hit ?_
            refine q_then ?_
            refine c_seq ?_
            refine c_region ?_
            refine st (y_move rfl) rfl ?_
            refine st (y_move rfl) rfl ?_
            first | refine st (y_add_in rfl rfl (by omega)) rfl ?_ | refine st (y_add_i rfl rfl (by omega) (by omega)) rfl ?_
            refine st (y_conv_iu rfl us3 Try.underlying22 rfl (by omega)) rfl ?_
            refine st (y_assign rfl) rfl ?_
            refine l_nil ?_
            refine q_then ?_
            refine c_ret ?_
            refine q_end1 (.inl rfl) rfl rfl ?_
            exact ⟨_, rfl, _, rfl, hf.2.2, hf.1, hf.2.1, rfl⟩
          ·
            refine l_nil ?_
            refine q_then ?_
            refine c_false rfl rfl ?_
            refine c_skip ?_
            refine q_block ?_
            refine q_then ?_
            refine c_region ?_
            refine st (y_move rfl) rfl ?_
            first | refine st (y_add_in (b := 1) rfl rfl (by omega)) rfl ?_ | refine st (y_add_i (b := 1) rfl rfl (by omega) (by omega)) rfl ?_
            refine st (y_assign rfl) rfl ?_
            refine l_nil ?_
            refine q_round (a + 1) ⟨rfl, rfl, ?_, rfl, trivial⟩ ⟨by omega, by omega, rfl⟩ (by omega)
            have e : (i3 - cnt x3.testBit a + (18446744073709551616 - (x3.testBit a).toNat)) % 18446744073709551616 = i3 - cnt x3.testBit (a + 1) := by omega
            rw [e]; rfl

theorem c_Select (p q : Nat) (s : List Bool) (j : Nat) (w : World) (hB : BSet w p q s) (hj : j ≤ 100000) (hs : s.length ≤ 100001) :
    Cal Try.prog 40 [vP p, vU j] w fun v w' => v = vU (sel s j) ∧ w = w' := by
  obtain ⟨tl, hB⟩ := hB
  have hst := hB.st
  have hwd := hB.wd
  have hlen := pack_length s
  have hn : nW s.length ≤ 2000 := by unfold nW; omega
  have hg : ∀ j, j < (pack s).length → (pack s ++ tl).getD j 0 = (pack s).getD j 0 := fun j hj => by
    rw [List.getD_eq_getElem?_getD, List.getElem?_append_left hj, ← List.getD_eq_getElem?_getD]
  refine go_in' Try.func40 rfl Try.ntmps40 (Nat.le_of_ble_eq_true rfl) ?_
  refine c_seq ?_
  refine c_region ?_
  refine st (y_assign rfl) rfl ?_
  refine l_nil ?_
  refine q_then ?_
  refine c_seq ?_
  refine c_region ?_
  refine st (y_move rfl) rfl ?_
  refine st (y_assign rfl) rfl ?_
  refine l_nil ?_
  refine q_then ?_
  refine c_seq ?_
  refine c_seq ?_
  refine c_region ?_
  refine st (y_move rfl) rfl ?_
  refine st (y_nil rfl) rfl ?_
  refine st (fa93_1 rfl) rfl ?_
  refine st (y_loadb rfl one69 (by assumption) (by rfl)) rfl ?_
  refine st (y_len rfl Try.underlying69) rfl ?_
  refine st (y_move rfl) rfl ?_
  refine l_nil ?_
  refine q_then ?_
  refine c_block ?_
  refine c_loop (fun k : Nat => [(0, vP p), (5, vU (j - psum ((pack s).take k))), (13, vS q (pack s).length ((pack s).length + tl.length)), (14, vI ((pack s).length : Nat)), (15, vI (k : Nat))]) (fun k w' => k ≤ (pack s).length ∧ psum ((pack s).take k) ≤ j ∧ w = w') (fun k => (pack s).length - k) 0 ?_ ?_ ?_
  · exact ⟨rfl, rfl, rfl, rfl, rfl, trivial⟩
  · exact ⟨Nat.zero_le _, Nat.zero_le _, rfl⟩
  · rintro k w1 ⟨hk, hps, rfl⟩
    refine c_seq ?_
    refine c_region ?_
    refine st_if (y_lt_i rfl rfl) rfl (fun hlt => ?_) (fun hlt => ?_)
    · have e1 := hg k (by omega)
      have hl1 := pack_getD_lt s k
      have hp1 := popc_le ((pack s).getD k 0)
      have esn := take_succ_getD (pack s) k (by omega)
      have hps1 : psum ((pack s).take (k + 1)) = psum ((pack s).take k) + popc ((pack s).getD k 0) := by rw [esn, psum_snoc]
      refine l_nil ?_
      refine q_then ?_
      refine c_seq ?_
      refine c_true rfl rfl ?_
      refine c_skip ?_
      refine q_then ?_
      refine c_seq ?_
      refine c_block ?_
      refine c_seq ?_
      refine c_region ?_
      refine st (y_move rfl) rfl ?_
      first | refine st (y_index0 rfl rfl Try.underlying69 sz34 (by omega)) rfl ?_ | refine st (y_index rfl rfl Try.underlying69 sz34 (by omega)) rfl ?_ | refine st (y_indexA rfl rfl Try.underlying69 sz34 (by omega)) rfl ?_
      first | refine st (y_loadM (0) rfl one34 (by assumption) (by first | omega | (simp only [List.length_append, List.length_map, List.length_replicate, List.length_set, List.length_take, List.length_drop]; omega) | (simp; done))) rfl ?_ | refine st (y_load rfl one34 (by assumption)) rfl ?_
      refine st (y_assign rfl) rfl ?_
      refine st (y_assign rfl) rfl ?_
      refine l_nil ?_
      refine q_then ?_
      refine c_seq ?_
      refine c_region ?_
      refine st (y_move rfl) rfl ?_
      rw [e1]
      refine sc rfl rfl isfn63 (c_OnesCount64 _ hl1 _) rfl ?_
      rintro _ _ ⟨rfl, rfl⟩
      refine st (y_conv_iu rfl us3 Try.underlying22 rfl (by omega)) rfl ?_
      refine st (y_assign rfl) rfl ?_
      refine l_nil ?_
      refine q_then ?_
      refine c_seq ?_
      refine c_seq ?_
      refine c_region ?_
      refine st (y_move rfl) rfl ?_
      refine st (y_move rfl) rfl ?_
      refine st_if (y_gt_u rfl rfl) rfl (fun hgt => ?_) (fun hgt => ?_)
      · refine l_nil ?_
        refine q_then ?_
        refine c_true rfl rfl ?_
        refine c_seq ?_
        refine c_region ?_
        refine st (y_move rfl) rfl ?_
        refine st (y_conv_iu rfl us3 Try.underlying22 rfl (by omega)) rfl ?_
        refine st (y_mul_u (b := 64) rfl rfl (by omega)) rfl ?_
        refine st (y_move rfl) rfl ?_
        refine st (y_move rfl) rfl ?_
        refine sc rfl rfl isfn64 (c_select64 _ _ _ hl1 hgt) rfl ?_
        rintro _ _ ⟨r, rfl, hr, hb, hc, rfl⟩
        rw [pack_getD] at hb hc
        have fin := sel_word (by omega) hps hr hb hc
        refine st (y_add_u rfl rfl (by omega)) rfl ?_
        refine st (y_assign rfl) rfl ?_
        refine l_nil ?_
        refine q_then ?_
        refine c_ret ?_
        refine q_then_ret ?_
        refine q_block_ret ?_
        refine q_then_ret ?_
        refine q_then_ret ?_
        refine q_block_ret ?_
        refine q_then_ret ?_
        refine q_end1 (.inl rfl) rfl rfl ?_
        exact ⟨_, rfl, by rw [fin, Nat.mul_comm], rfl⟩
      ·
        refine l_nil ?_
        refine q_then ?_
        refine c_false rfl rfl ?_
        refine c_skip ?_
        refine q_then ?_
        refine c_region ?_
        refine st (y_move rfl) rfl ?_
        refine st (y_move rfl) rfl ?_
        refine st (y_sub_u rfl rfl (by omega) (by omega)) rfl ?_
        refine st (y_assign rfl) rfl ?_
        refine l_nil ?_
        refine q_block ?_
        refine q_then ?_
        refine c_region ?_
        first | refine st (y_add_in (b := 1) rfl rfl (by omega)) rfl ?_ | refine st (y_add_i (b := 1) rfl rfl (by omega) (by omega)) rfl ?_
        refine st (y_move rfl) rfl ?_
        refine l_nil ?_
        refine q_round (k + 1) ⟨rfl, ?_, rfl, rfl, rfl, trivial⟩ ⟨by omega, by omega, rfl⟩ (by omega)
        rw [hps1, Nat.sub_add_eq]; rfl
    ·
      have hke : k = (pack s).length := by omega
      rw [hke, List.take_length, psum_pack] at hps
      refine l_nil ?_
      refine q_then ?_
      refine c_seq ?_
      refine c_false rfl rfl ?_
      refine c_exit ?_
      refine q_then_exit ?_
      refine q_then_exit ?_
      refine q_block_hit ?_
      refine q_then ?_
      refine c_seq ?_
      refine c_region ?_
      refine st (y_move rfl) rfl ?_
      refine st (y_nil rfl) rfl ?_
      refine st (fa93_0 rfl) rfl ?_
      refine st (y_loadb rfl one22 (by assumption) (by rfl)) rfl ?_
      refine st (y_assign rfl) rfl ?_
      refine l_nil ?_
      refine q_then ?_
      refine c_ret ?_
      refine q_end1 (.inl rfl) rfl rfl ?_
      exact ⟨_, rfl, by rw [sel_past hps], rfl⟩

theorem c_implSelect (L : Nat) (A : Option Addr) (n c : Nat) (xs : List Nat) (j : Nat) (w : World) (hR : Rd w A n xs) (ho : Ok L n xs) (hj : j ≤ 3000) :
    Cal Try.prog 21 [aB L A n c, vU j] w fun v w' => v = vU (sel (mkS L xs) j) ∧ Keep w w' [] := by
  have hlen := ho.len
  refine go_in' Try.func21 rfl Try.ntmps21 (Nat.le_of_ble_eq_true rfl) ?_
  refine c_seq ?_
  refine c_region ?_
  refine st_box _ rfl rfl rfl ?_
  intro b1 w1 hb1 hB1 hK1 hS1
  refine st (y_assign rfl) rfl ?_
  refine l_nil ?_
  refine q_then ?_
  refine c_seq ?_
  refine c_region ?_
  refine st (y_loadagg rfl agg25 us25 sz25 (by assumption) (by simp) (by rfl)) rfl ?_
  refine sc rfl rfl isfn36 (c_made L A n c xs _ (hR.keep hK1 (by simp)) (by have := ho.1; omega) (fun x h => by have := ho.2.2 x h; omega)) rfl ?_
  rintro _ w2 ⟨p, q, rfl, hp, hq, hB, hK2⟩
  have hK := hK1.trans hK2 (by simp)
  refine st (y_move rfl) rfl ?_
  refine st (y_extract rfl rfl) rfl ?_
  refine st (y_extract rfl rfl) rfl ?_
  refine st (y_assign rfl) rfl ?_
  refine st (y_assign rfl) rfl ?_
  refine l_nil ?_
  refine q_then ?_
  refine c_seq ?_
  refine c_seq ?_
  refine c_region ?_
  refine st (y_move rfl) rfl ?_
  refine st (y_not rfl) rfl ?_
  refine st (y_move rfl) rfl ?_
  refine stg rfl rfl (y_move rfl) rfl ?_
  refine stg_f rfl rfl (y_gt_u (b := 6000) rfl rfl) (by omega) rfl ?_
  refine st (y_pickF rfl rfl) rfl ?_
  refine l_nil ?_
  refine q_then ?_
  refine c_false rfl rfl ?_
  refine c_skip ?_
  refine q_then ?_
  refine c_seq ?_
  refine c_region ?_
  refine st (y_move rfl) rfl ?_
  refine st (y_move rfl) rfl ?_
  refine sc rfl rfl isfn40 (c_Select p q _ j _ hB (by omega) (by omega)) rfl ?_
  rintro _ w3 ⟨rfl, rfl⟩
  refine st (y_assign rfl) rfl ?_
  refine l_nil ?_
  refine q_then ?_
  refine c_ret ?_
  refine q_end1 (.inl rfl) rfl rfl ?_
  exact ⟨_, rfl, rfl, hK⟩

theorem c_FnSelect (L : Nat) (A : Option Addr) (n c : Nat) (xs : List Nat) (i : Nat) (w : World) (hR : Rd w A n xs) (hi : i < 18446744073709551616) :
    Cal Try.prog 6 [aB L A n c, vU i] w fun v w' => v = vB true ∧ Keep w w' [] := by
  refine go_in' Try.func6 rfl Try.ntmps6 (Nat.le_of_ble_eq_true rfl) ?_
  refine c_seq ?_
  refine c_region ?_
  refine st_box _ rfl rfl rfl ?_
  intro b1 w1 hb1 hB1 hK1 hS1
  refine st (y_assign rfl) rfl ?_
  refine l_nil ?_
  refine q_then ?_
  refine c_seq ?_
  refine c_seq ?_
  refine c_region ?_
  refine st (y_loadagg rfl agg25 us25 sz25 (by assumption) (by simp) (by rfl)) rfl ?_
  refine sc rfl rfl isfn12 (c_zzFits1 L A n c _) rfl ?_
  rintro _ w2 ⟨rfl, hK2⟩
  have hB1 := hB1.keep hK2 (by simp only [List.mem_cons, List.not_mem_nil, or_false, not_or, not_false_eq_true] <;> omega)
  have hK := hK1.trans hK2 (by simp)
  clear hK1 hK2
  refine st (y_not rfl) rfl ?_
  refine l_nil ?_
  refine q_then ?_
  refine c_ifb rfl (fun hz => ?_) (fun hz => ?_)
  · refine c_seq ?_
    refine c_region ?_
    refine st (y_assign rfl) rfl ?_
    refine l_nil ?_
    refine q_then ?_
    refine c_ret ?_
    refine q_then_ret ?_
    refine q_end1 (.inl rfl) rfl rfl ?_
    exact ⟨_, rfl, rfl, hK⟩
  ·
    refine c_skip ?_
    refine q_then ?_
    refine c_seq ?_
    refine c_region ?_
    refine st (y_loadagg rfl agg25 us25 sz25 (by assumption) (by simp) (by rfl)) rfl ?_
    refine sc rfl rfl isfn13 (c_set L A n c xs _ (hR.keep hK (by simp))) rfl ?_
    rintro _ w3 ⟨hK3, ⟨ho, b, rfl, hBl, hb⟩ | rfl⟩
    · have hB1 := hB1.keep hK3 (by simp only [List.mem_cons, List.not_mem_nil, or_false, not_or, not_false_eq_true] <;> omega)
      have hK' := hK.trans hK3 (by simp)
      have hlen := ho.len
      clear hK hK3
      refine st (y_move rfl) rfl ?_
      refine st (y_extract rfl rfl) rfl ?_
      refine st (y_extract rfl rfl) rfl ?_
      refine st (y_assign rfl) rfl ?_
      refine st (y_assign rfl) rfl ?_
      refine l_nil ?_
      refine q_then ?_
      refine c_seq ?_
      refine c_seq ?_
      refine c_region ?_
      refine st (y_move rfl) rfl ?_
      refine st (y_not rfl) rfl ?_
      refine st (y_move rfl) rfl ?_
      refine stg rfl rfl (y_move rfl) rfl ?_
      refine stg_if rfl rfl (y_gt_u (b := 3000) rfl rfl) rfl (fun hbig => ?_) (fun hbig => ?_)
      · refine st (y_pickF rfl rfl) rfl ?_
        refine l_nil ?_
        refine q_then ?_
        refine c_true rfl rfl ?_
        refine c_seq ?_
        refine c_region ?_
        refine st (y_assign rfl) rfl ?_
        refine l_nil ?_
        refine q_then ?_
        refine c_ret ?_
        refine q_then_ret ?_
        refine q_end1 (.inl rfl) rfl rfl ?_
        exact ⟨_, rfl, rfl, hK'⟩
      ·
        refine st (y_pickF rfl rfl) rfl ?_
        refine l_nil ?_
        refine q_then ?_
        refine c_false rfl rfl ?_
        refine c_skip ?_
        refine q_then ?_
        refine c_seq ?_
        refine c_region ?_
        refine st (y_move rfl) rfl ?_
        refine sc rfl rfl isfn20 (c_Numbers b _ _ hBl (by omega)) rfl ?_
        rintro v1 w4 ⟨hO, hK4⟩
        obtain ⟨A1, c1, rfl, hRd⟩ := hO.rd
        have hnl := nums_length (mkS L xs)
        have hcl := count_le (mkS L xs)
        have hsl := sel_le (mkS L xs) i
        have hB1 := hB1.keep hK4 (by simp only [List.mem_cons, List.not_mem_nil, or_false, not_or, not_false_eq_true] <;> omega)
        have hK5 := hK'.trans hK4 (by simp)
        clear hK' hK4
        refine st (y_assign rfl) rfl ?_
        refine l_nil ?_
        refine q_then ?_
        refine c_seq ?_
        refine c_region ?_
        refine st (y_move rfl) rfl ?_
        refine st (y_len rfl Try.underlying28) rfl ?_
        refine st (y_conv_iu rfl us3 Try.underlying22 rfl (by omega)) rfl ?_
        refine st (y_assign rfl) rfl ?_
        refine l_nil ?_
        refine q_then ?_
        refine c_cut (fun _ : Unit => [(1, vU i), (2, vP b1), (8, vU (sel (mkS L xs) i))]) (fun _ w' => w4 = w') ?_ ?_
        · refine c_seq ?_
          refine c_region ?_
          refine st (y_move rfl) rfl ?_
          refine st (y_move rfl) rfl ?_
          refine st (y_len rfl Try.underlying23) rfl ?_
          refine st (y_conv_iu rfl us3 Try.underlying22 rfl (by omega)) rfl ?_
          refine st_if (y_lt_u rfl rfl) rfl (fun hlt => ?_) (fun hlt => ?_)
          · obtain ⟨ad, rfl, had, hcell⟩ := hRd.2.2 (by omega)
            have hc := hcell i (by omega)
            refine l_nil ?_
            refine q_then ?_
            refine c_true rfl rfl ?_
            refine c_region ?_
            refine st (y_move rfl) rfl ?_
            refine st (y_move rfl) rfl ?_
            first | refine st (y_index0 rfl rfl Try.underlying23 sz22 (by omega)) rfl ?_ | refine st (y_index rfl rfl Try.underlying23 sz22 (by omega)) rfl ?_ | refine st (y_indexA rfl rfl Try.underlying23 sz22 (by omega)) rfl ?_
            first | refine st (y_loadM (0) rfl one22 (by assumption) (by first | omega | (simp only [List.length_append, List.length_map, List.length_replicate, List.length_set, List.length_take, List.length_drop]; omega) | (simp; done))) rfl ?_ | refine st (y_load rfl one22 (by assumption)) rfl ?_
            refine st (y_assign rfl) rfl ?_
            refine l_nil ?_
            refine q_meet () ⟨rfl, rfl, ?_, trivial⟩ rfl
            rw [sel_in hlt]; rfl
          ·
            refine l_nil ?_
            refine q_then ?_
            refine c_false rfl rfl ?_
            refine c_skip ?_
            refine q_meet () ⟨rfl, rfl, ?_, trivial⟩ rfl
            rw [sel_past (by omega)]; rfl
        ·
          rintro _ w' rfl
          refine c_seq ?_
          refine c_region ?_
          refine st (y_loadagg rfl agg25 us25 sz25 (by assumption) (by simp) (by rfl)) rfl ?_
          refine st (y_move rfl) rfl ?_
          refine sc rfl rfl isfn21 (c_implSelect L A n c xs i _ (hR.keep hK5 (by simp)) ho (by omega)) rfl ?_
          rintro _ w6 ⟨rfl, hK6⟩
          refine st (y_move rfl) rfl ?_
          refine st_t (y_eq_u rfl rfl) (rfl) rfl ?_
          refine st (y_move rfl) rfl ?_
          refine scg rfl rfl rfl rfl isfn16 (c_three _) rfl ?_
          rintro _ w7 ⟨b3, rfl, hR3, hb3, hK7⟩
          refine scg rfl rfl rfl rfl isfn21 (c_implSelect 9 _ 3 3 [1, 2, 5] 2 _ hR3 ⟨by omega, by omega, by decide⟩ (by omega)) rfl ?_
          rintro _ w8 ⟨rfl, hK8⟩
          refine stg_t rfl rfl (y_eq_u (b := 5) rfl rfl) (by decide) rfl ?_
          refine st (y_pickT rfl rfl) rfl ?_
          refine st (y_assign rfl) rfl ?_
          refine l_nil ?_
          refine q_then ?_
          refine c_ret ?_
          refine q_end1 (.inl rfl) rfl rfl ?_
          have hKK : Keep w _ [] := (((((Keep.refl w []).trans hK5 (by intro i; simp only [List.mem_cons, List.not_mem_nil, or_false, false_or, false_implies] <;> omega)).trans hK6 (by intro i; simp only [List.mem_cons, List.not_mem_nil, or_false, false_or, false_implies] <;> omega)).trans hK7 (by intro i; simp only [List.mem_cons, List.not_mem_nil, or_false, false_or, false_implies] <;> omega)).trans hK8 (by intro i; simp only [List.mem_cons, List.not_mem_nil, or_false, false_or, false_implies] <;> omega))
          exact ⟨_, rfl, rfl, hKK⟩
    ·
      refine st (y_move rfl) rfl ?_
      refine st (y_extract rfl rfl) rfl ?_
      refine st (y_extract rfl rfl) rfl ?_
      refine st (y_assign rfl) rfl ?_
      refine st (y_assign rfl) rfl ?_
      refine l_nil ?_
      refine q_then ?_
      refine c_seq ?_
      refine c_seq ?_
      refine c_region ?_
      refine st (y_move rfl) rfl ?_
      refine st (y_not rfl) rfl ?_
      refine st (y_move rfl) rfl ?_
      refine sno rfl rfl rfl rfl ?_
      refine sno rfl rfl rfl rfl ?_
      refine st (y_pickT rfl rfl) rfl ?_
      refine l_nil ?_
      refine q_then ?_
      refine c_true rfl rfl ?_
      refine c_seq ?_
      refine c_region ?_
      refine st (y_assign rfl) rfl ?_
      refine l_nil ?_
      refine q_then ?_
      refine c_ret ?_
      refine q_then_ret ?_
      refine q_end1 (.inl rfl) rfl rfl ?_
      exact ⟨_, rfl, rfl, hK.trans hK3 (by simp)⟩

end Go.Proofs.Ytlhbbndedbacpaa

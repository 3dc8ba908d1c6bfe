/- The reference's Words and Bytes; each by its contract. -/
import Derived.Test.YtlhbbndedbacpaaA5
import Derived.Test.YtlhbbndedbacpaaO2
import Derived.Test.YtlhbbndedbacpaaK16
import Derived.Test.YtlhbbndedbacpaaL28
set_option linter.unusedVariables false
set_option linter.unusedSimpArgs false
set_option maxRecDepth 100000
set_option maxHeartbeats 1000000
namespace Go.Proofs.Ytlhbbndedbacpaa
open Go Go.RowKit

theorem one_mapU' (xs : List Nat) : ∀ v ∈ xs.map vU, v.oneCell' = true := by
  intro v hv; obtain ⟨x, _, rfl⟩ := List.mem_map.1 hv; rfl
theorem Ow.ofBlk {w : World} {b : Nat} {e : TypeId} {v : Value} (h : Blk w b e [v]) : Ow w b e (vS b 1 1) [v] :=
  .inr ⟨b, 1, [], rfl, Nat.le_refl _, by simpa using h, by simp, by unfold maxLen; omega⟩

theorem c_specWords (b : Nat) (s : List Bool) (w : World) (hB : Bl w b s) (hs : s.length ≤ 6001) :
    Cal Try.prog 45 [vS b s.length s.length] w fun v w' => ∃ q, v = vS q (pack s).length (pack s).length ∧ w.heap.size ≤ q ∧ Blk w' q 34 ((pack s).map vU) ∧ Keep w w' [] := by
  have hn : nW s.length ≤ 100 := by unfold nW; omega
  have hnn : (s.length + 63) / 64 = nW s.length := rfl
  have hBl : Blk w b 4 (s.map vB) := hB
  have hbl := hBl.lt
  obtain ⟨N, hN⟩ : ∃ N, nW s.length = N := ⟨_, rfl⟩
  have hpl : ∀ t : List Bool, t.length = s.length → (pack t).length = N := fun t ht => by rw [pack_length, ht]; exact hN
  have hps := hpl s rfl
  refine go_in' Try.func45 rfl Try.ntmps45 (Nat.le_of_ble_eq_true rfl) ?_
  refine c_seq ?_
  refine c_region ?_
  refine st (y_assign rfl) rfl ?_
  refine l_nil ?_
  refine q_then ?_
  refine c_seq ?_
  refine c_region ?_
  refine st (y_move rfl) rfl ?_
  refine st (y_len rfl Try.underlying28) rfl ?_
  first | refine st (y_add_in (b := 63) rfl rfl (by omega)) rfl ?_ | refine st (y_add_i (b := 63) rfl rfl (by omega) (by omega)) rfl ?_
  refine st (y_quo_i (b := 64) rfl rfl (by omega) (by omega)) rfl ?_
  rw [hnn, hN]
  refine mk69 rfl rfl (by omega) (by omega) rfl ?_
  intro q w1 hq hB1 hK1 hS1
  refine st (y_assign rfl) rfl ?_
  refine l_nil ?_
  refine q_then ?_
  refine c_seq ?_
  refine c_seq ?_
  refine c_region ?_
  refine st (y_move rfl) rfl ?_
  refine st (y_len rfl Try.underlying28) rfl ?_
  refine st (y_move (v := vI ((0 : Nat) : Int)) rfl) rfl ?_
  refine l_nil ?_
  refine q_then ?_
  refine c_block ?_
  refine c_loop (fun k : Nat => [(3, vS q N N), (11, vS b s.length s.length), (12, vI (s.length : Nat)), (13, vI (k : Nat))]) (fun k w' => k ≤ s.length ∧ Blk w' q 34 ((pack (upto s k)).map vU) ∧ Keep w1 w' [q]) (fun k => s.length - k) 0 ?_ ?_ ?_
  · exact ⟨rfl, rfl, rfl, rfl, trivial⟩
  · refine ⟨Nat.zero_le _, ?_, Keep.refl _ _⟩
    rw [upto_zero, pack_zeros, hN]
    simpa using hB1
  · rintro k w2 ⟨hk, hBk, hK2⟩
    have hK12 : Keep w w2 [] := hK1.trans hK2 (fun i hi => by simp only [List.mem_singleton] at hi; exact .inr (by omega))
    have hB2 := hBl.keep hK12 (by simp)
    have hul := hpl (upto s k) (upto_len hk)
    refine c_seq ?_
    refine c_region ?_
    refine st_if (y_lt_i rfl rfl) rfl (fun hlt => ?_) (fun hlt => ?_)
    · have hkl : k < s.length := by omega
      have hkN : k / 64 < N := by rw [← hN]; unfold nW; omega
      refine l_nil ?_
      refine q_then ?_
      refine c_seq ?_
      refine c_true rfl rfl ?_
      refine c_skip ?_
      refine q_then ?_
      refine c_seq ?_
      refine c_block ?_
      refine c_seq ?_
      refine c_region ?_
      refine st (y_move rfl) rfl ?_
      first | refine st (y_index0 rfl rfl Try.underlying28 sz4 (by omega)) rfl ?_ | refine st (y_index rfl rfl Try.underlying28 sz4 (by omega)) rfl ?_ | refine st (y_indexA rfl rfl Try.underlying28 sz4 (by omega)) rfl ?_
      first | refine st (y_loadM (false) rfl one4 (by assumption) (by first | omega | (simp only [List.length_append, List.length_map, List.length_replicate, List.length_set, List.length_take, List.length_drop]; omega) | (simp; done))) rfl ?_ | refine st (y_load rfl one4 (by assumption)) rfl ?_
      refine st (y_assign rfl) rfl ?_
      refine st (y_assign rfl) rfl ?_
      refine l_nil ?_
      refine q_then ?_
      refine c_seq ?_
      refine c_region ?_
      refine st (y_move rfl) rfl ?_
      refine l_nil ?_
      refine q_then ?_
      refine c_ifb rfl (fun hb => ?_) (fun hb => ?_)
      · have hset := pack_set (upto s k) k (by rw [upto_len hk]; exact hkl)
        rw [upto_true hkl hb] at hset
        have hgd := pack_getD_lt (upto s k) (k / 64)
        have hBkd := hBk.drew
        refine c_tail 10 mixed (by kernel_rfl) ?_
        refine ss (y_move rfl) rfl ?_
        refine ss (y_move rfl) rfl ?_
        refine ss (y_quo_i (b := 64) rfl rfl (by omega) (by omega)) rfl ?_
        first | refine ss (y_index0 rfl rfl Try.underlying69 sz34 (by omega)) rfl ?_ | refine ss (y_index rfl rfl Try.underlying69 sz34 (by omega)) rfl ?_ | refine ss (y_indexA rfl rfl Try.underlying69 sz34 (by omega)) rfl ?_
        first | refine ss (y_loadM (0) rfl one34 (by assumption) (by first | omega | (simp only [List.length_append, List.length_map, List.length_replicate, List.length_set, List.length_take, List.length_drop]; omega) | (simp; done))) rfl ?_ | refine ss (y_load rfl one34 (by assumption)) rfl ?_
        refine ss (y_move rfl) rfl ?_
        refine ss (y_rem_i (b := 64) rfl rfl (by omega)) rfl ?_
        refine ss (y_shl (a := 1) rfl rfl) rfl ?_
        refine ss (y_or rfl rfl (by first | omega | assumption | (repeat (first | assumption | omega | decide | exact shl_lt64 _ _ | apply and_lt64 | apply or_lt64 | apply xor_lt64 | apply nt_lt | apply shr_lt64 | apply getD_lt64))) (by first | omega | assumption | (repeat (first | assumption | omega | decide | exact shl_lt64 _ _ | apply and_lt64 | apply or_lt64 | apply xor_lt64 | apply nt_lt | apply shr_lt64 | apply getD_lt64)))) rfl ?_
        first | refine ss (y_index0 rfl rfl Try.underlying69 sz34 (by omega)) rfl ?_ | refine ss (y_index rfl rfl Try.underlying69 sz34 (by omega)) rfl ?_ | refine ss (y_indexA rfl rfl Try.underlying69 sz34 (by omega)) rfl ?_
        refine s_nil ?_
        show wpL _ _ _ _ _ _ _ _
        refine st_storeM vU rfl rfl rfl sz34 (by assumption) (by first | omega | (simp only [List.length_append, List.length_map, List.length_replicate, List.length_set, List.length_take, List.length_drop]; omega)) rfl ?_
        intro w3 hB3 hK3 hS3
        refine l_nil ?_
        refine q_block ?_
        refine q_then ?_
        refine c_region ?_
        first | refine st (y_add_in (b := 1) rfl rfl (by omega)) rfl ?_ | refine st (y_add_i (b := 1) rfl rfl (by omega) (by omega)) rfl ?_
        refine st (y_move rfl) rfl ?_
        refine l_nil ?_
        refine q_round (k + 1) ⟨rfl, rfl, rfl, rfl, trivial⟩ ⟨by omega, ?_, (hK2.trans (Keep.drew w2 []) (by simp)).trans hK3 (fun i h => .inl h)⟩ (by omega)
        rw [hset] at hB3
        exact hB3
      ·
        have e := upto_false hkl hb
        refine c_skip ?_
        refine q_block ?_
        refine q_then ?_
        refine c_region ?_
        first | refine st (y_add_in (b := 1) rfl rfl (by omega)) rfl ?_ | refine st (y_add_i (b := 1) rfl rfl (by omega) (by omega)) rfl ?_
        refine st (y_move rfl) rfl ?_
        refine l_nil ?_
        exact q_round (k + 1) ⟨rfl, rfl, rfl, rfl, trivial⟩ ⟨by omega, by rw [← e]; exact hBk, hK2⟩ (by omega)
    ·
      have hke : k = s.length := by omega
      subst hke
      rw [upto_full] at hBk
      refine l_nil ?_
      refine q_then ?_
      refine c_seq ?_
      refine c_false rfl rfl ?_
      refine c_exit ?_
      refine q_then_exit ?_
      refine q_then_exit ?_
      refine q_block_hit ?_
      refine q_then ?_
      refine c_seq ?_
      refine c_region ?_
      refine st (y_move rfl) rfl ?_
      refine st (y_assign rfl) rfl ?_
      refine l_nil ?_
      refine q_then ?_
      refine c_ret ?_
      refine q_end1 (.inl rfl) rfl rfl ?_
      exact ⟨_, rfl, q, by rw [hps], by omega, hBk, hK12⟩

theorem be8_val {x u : Nat} : ((x >>> (56 - 8 * u)) % 256) = ((x >>> (56 - 8 * u)) % 256) := rfl

theorem c_specBytes (b : Nat) (s : List Bool) (w : World) (hB : Bl w b s) (hs : s.length ≤ 6001) :
    Cal Try.prog 25 [vS b s.length s.length] w fun v w' => ∃ pb pc, v = vS pb (setB s).length pc ∧ Ow w' w.heap.size 5 (vS pb (setB s).length pc) ((setB s).map v8) ∧ Keep w w' [] := by
  have hn : nW s.length ≤ 100 := by unfold nW; omega
  have hpl := pack_length s
  obtain ⟨X, hX⟩ : ∃ X, s.length :: pack s = X := ⟨_, rfl⟩
  have hXl : X.length = nW s.length + 1 := by rw [← hX, List.length_cons, hpl]
  have hXlt : ∀ x ∈ X, x < 18446744073709551616 := by
    intro x hx
    rw [← hX] at hx
    rcases List.mem_cons.1 hx with h | h
    · omega
    · exact pack_lt s x h
  have hset : setB s = byt X := by unfold setB; rw [hX]
  refine go_in' Try.func25 rfl Try.ntmps25 (Nat.le_of_ble_eq_true rfl) ?_
  refine c_seq ?_
  refine c_region ?_
  refine st (y_assign rfl) rfl ?_
  refine l_nil ?_
  refine q_then ?_
  refine c_seq ?_
  refine c_region ?_
  refine st_buildSlice0 Try.underlying42 sz5 rfl ?_
  intro b6 w6 hb6 hB6 hK6 hS6
  have hO6 : Ow w6 b6 5 (vS b6 0 0) ([] : List Value) := Ow.empty hB6 (Nat.le_refl _)
  have hBl6 := Blk.keep hB hK6 (by simp)
  refine st (y_assign rfl) rfl ?_
  refine l_nil ?_
  refine q_then ?_
  refine c_seq ?_
  refine c_seq ?_
  refine c_region ?_
  refine st (y_move rfl) rfl ?_
  refine st (y_len rfl Try.underlying28) rfl ?_
  refine st (y_conv_iu rfl us3 Try.underlying34 rfl (by omega)) rfl ?_
  refine st_buildSlice [vU s.length] Try.underlying69 sz34 zv34 rfl (by decide) (by decide) (by kernel_rfl) rfl ?_
  intro b7 w7 hb7 hB7 hK7 hS7
  have hB6 := hB6.keep hK7 (by simp only [List.mem_cons, List.not_mem_nil, or_false, not_or, not_false_eq_true] <;> omega)
  have hBl7 := Blk.keep hBl6 hK7 (by simp)
  have hK17 := hK6.trans hK7 (by simp)
  refine st (y_move rfl) rfl ?_
  refine sc rfl rfl isfn45 (c_specWords b s _ hBl7 hs) rfl ?_
  rintro _ w8 ⟨q, rfl, hq, hBq, hK8⟩
  have hB6 := hB6.keep hK8 (by simp only [List.mem_cons, List.not_mem_nil, or_false, not_or, not_false_eq_true] <;> omega)
  have hB7 := hB7.keep hK8 (by simp only [List.mem_cons, List.not_mem_nil, or_false, not_or, not_false_eq_true] <;> omega)
  have hK18 := hK17.trans hK8 (by simp)
  have hO7 : Ow w8 b7 34 (vS b7 1 1) ([vU s.length]) := Ow.ofBlk hB7
  have hsz8 := hK8.size
  have hqn : ∀ j u', ((pack s).map vU)[j]? = some u' → w8.cell? ((⟨q, 0, none⟩ : Addr).add j) = some u' := by
    intro j u' hj
    rw [add_pt, Nat.zero_add]
    exact hBq.cell hj
  obtain ⟨i34, hi1, hi2, hi3, hi4⟩ := info_parts inf34
  refine st_appendB (news := (pack s).map vU) rfl rfl Try.underlying69 hi1 hi2 hi3 (by omega) rfl (by simp) (hqn) (one_mapU' _) (by assumption) (by first | omega | (simp only [List.length_map, List.length_nil, List.length_append, List.length_cons, List.length_take, List.length_drop]; omega) | simp) (by omega) (by omega) rfl ?_
  clear hi1 hi2 hi3 hi4
  intro v9 w9 hO9 hK9
  have hO9' : Ow w9 b7 34 v9 (X.map vU) := by rw [← hX]; exact hO9
  obtain ⟨A9, c9, rfl⟩ := hO9'.form
  have hO99 : Ow w9 b7 34 (.slice A9 X.length c9) (X.map vU) := by simpa using hO9'
  rw [List.length_map]
  have hRX := hO99.rd'
  have hXb : ∀ ad, A9 = some ad → b6 < ad.block := by
    intro ad e
    subst e
    have := hO99.blk
    omega
  have hB69 := hB6.keep hK9 (by simp only [List.mem_singleton]; omega)
  have hb69 := hB69.lt
  have hO69 : Ow w9 b6 5 (vS b6 0 0) ([] : List Value) := Ow.empty hB69 (Nat.le_refl _)
  have hK19 := hK18.trans hK9 (fun i hi => by simp only [List.mem_singleton] at hi; exact .inr (by omega))
  have hbt := fun k => byt_len (X.take k)
  refine st (y_len rfl Try.underlying69) rfl ?_
  refine st (y_move (v := vI ((0 : Nat) : Int)) rfl) rfl ?_
  refine l_nil ?_
  refine q_then ?_
  refine c_block ?_
  refine c_loop (fun x : Nat × Nat × Nat => [(3, vS x.2.1 (byt (X.take x.1)).length x.2.2), (14, .slice A9 X.length c9), (15, vI (X.length : Nat)), (16, vI (x.1 : Nat))]) (fun x w' => x.1 ≤ X.length ∧ One8 w9 w' b6 x.2.1 x.2.2 (byt (X.take x.1))) (fun x => X.length - x.1) (0, b6, 0) ?_ ?_ ?_
  · exact ⟨rfl, rfl, rfl, rfl, trivial⟩
  · exact ⟨Nat.zero_le _, Keep.refl _ _, Nat.le_refl _, .inl rfl, hO69⟩
  · rintro ⟨k, pb, pc⟩ w10 ⟨hk, h3⟩
    simp only at hk h3 ⊢
    have hK10 := h3.keep
    have hRX10 : Rd w10 A9 X.length X := by
      refine ⟨hRX.1, hRX.2.1, fun h0 => ?_⟩
      obtain ⟨ad, e, hadl, hc⟩ := hRX.2.2 h0
      refine ⟨ad, e, Nat.lt_of_lt_of_le hadl hK10.size, fun j hj => ?_⟩
      rw [← hc j hj]
      have := hXb ad e
      have e2 : (ad.add j).block = ad.block := by unfold Addr.add; split <;> rfl
      refine World.cell?_of_block (hK10.same _ (by omega) ?_)
      simp only [List.mem_singleton]; omega
    refine c_seq ?_
    refine c_region ?_
    refine st_if (y_lt_i rfl rfl) rfl (fun hlt => ?_) (fun hlt => ?_)
    · have hkX : k < X.length := by omega
      obtain ⟨ad, rfl, hadl, hcell⟩ := hRX10.2.2 (by omega)
      have hc := hcell k hkX
      obtain ⟨x, hx⟩ : ∃ x, X.getD k 0 = x := ⟨_, rfl⟩
      have hx64 : x < 18446744073709551616 := by rw [← hx]; exact getD_lt64 hXlt k
      have hbk := byt_take hkX
      rw [hx] at hc hbk
      have hbkl := hbt k
      rw [List.length_take, Nat.min_eq_left hk] at hbkl
      have h8l := be8_len x
      refine l_nil ?_
      refine q_then ?_
      refine c_seq ?_
      refine c_true rfl rfl ?_
      refine c_skip ?_
      refine q_then ?_
      refine c_seq ?_
      refine c_block ?_
      refine c_seq ?_
      refine c_region ?_
      first | refine st (y_index0 rfl rfl Try.underlying69 sz34 (by omega)) rfl ?_ | refine st (y_index rfl rfl Try.underlying69 sz34 (by omega)) rfl ?_ | refine st (y_indexA rfl rfl Try.underlying69 sz34 (by omega)) rfl ?_
      refine st (y_load rfl one34 (by assumption)) rfl ?_
      refine st (y_assign rfl) rfl ?_
      refine l_nil ?_
      refine q_then ?_
      refine c_seq ?_
      refine c_region ?_
      refine st (y_assign (v := vI ((56 : Nat) : Int)) rfl) rfl ?_
      refine l_nil ?_
      refine q_then ?_
      refine c_block ?_
      refine c_loop (fun y : Nat × Nat × Nat => [(3, vS y.2.1 (byt (X.take k) ++ (be8 x).take y.1).length y.2.2), (5, vU x), (6, vI ((56 : Int) - 8 * (y.1 : Int))), (14, .slice (some ad) X.length c9), (15, vI (X.length : Nat)), (16, vI (k : Nat))]) (fun y w' => y.1 ≤ 8 ∧ One8 w9 w' b6 y.2.1 y.2.2 (byt (X.take k) ++ (be8 x).take y.1)) (fun y => 8 - y.1) (0, pb, pc) ?_ ?_ ?_
      · exact ⟨by simp only [List.take_zero, List.append_nil]; rfl, rfl, rfl, rfl, rfl, rfl, trivial⟩
      · exact ⟨Nat.zero_le _, by simp only [List.take_zero, List.append_nil]; exact h3⟩
      · rintro ⟨u, pb2, pc2⟩ w11 ⟨hu, h4⟩
        simp only at hu h4 ⊢
        refine c_seq ?_
        refine c_seq ?_
        refine c_region ?_
        refine st (y_move rfl) rfl ?_
        refine st_if (y_ge_i (b := 0) rfl rfl) rfl (fun hge => ?_) (fun hge => ?_)
        · have hu8 : u < 8 := by omega
          have hstep := be8_take (x := x) hu8
          rw [show (56 : Int) - 8 * (u : Int) = ((56 - 8 * u : Nat) : Int) by omega]
          have hK11 := h4.keep
          have hsz11 := hK11.size
          have hPl : (byt (X.take k) ++ (be8 x).take u).length ≤ 10000 := by simp only [List.length_append, List.length_take]; omega
          have hP1 : byt (X.take k) ++ (be8 x).take (u + 1) = (byt (X.take k) ++ (be8 x).take u) ++ [(x >>> (56 - 8 * u)) % 256] := by rw [hstep, List.append_assoc]
          refine l_nil ?_
          refine q_then ?_
          refine c_true rfl rfl ?_
          refine c_skip ?_
          refine q_then ?_
          refine c_seq ?_
          refine c_block ?_
          refine c_region ?_
          refine st (y_move rfl) rfl ?_
          refine st (y_move rfl) rfl ?_
          refine st (y_move rfl) rfl ?_
          refine st (y_shr rfl rfl (by first | omega | assumption | (repeat (first | assumption | omega | decide | exact shl_lt64 _ _ | apply and_lt64 | apply or_lt64 | apply xor_lt64 | apply nt_lt | apply shr_lt64 | apply getD_lt64)))) rfl ?_
          refine st (y_conv_u8 rfl us34 Try.underlying5) rfl ?_
          refine st_buildSlice [v8 ((x >>> (56 - 8 * u)) % 256)] Try.underlying42 sz5 zv5 rfl (by decide) (by decide) (by kernel_rfl) rfl ?_
          intro b12 w12 hb12 hB12 hK12 hS12
          have h5 := h4.move hK12
          have hO12 := h5.po
          obtain ⟨i5, hi1, hi2, hi3, hi4⟩ := info_parts inf5
          refine st_appendA (news := [v8 ((x >>> (56 - 8 * u)) % 256)]) rfl rfl Try.underlying42 hi1 hi2 hi3 (by omega) rfl rfl (news_one (by assumption)) (by intro u hu; simp only [List.mem_singleton] at hu; subst hu; rfl) (by assumption) (by first | omega | (simp only [List.length_map, List.length_nil, List.length_append, List.length_cons, List.length_take, List.length_drop]; omega) | simp) (by omega) (by omega) rfl ?_
          clear hi1 hi2 hi3 hi4
          intro b13 c13 w13 hb13 hO13 hK13
          rw [snoc_len8 (x := (x >>> (56 - 8 * u)) % 256), ← hP1, snoc_map8, ← hP1] at hO13
          rw [snoc_len8 (x := (x >>> (56 - 8 * u)) % 256), ← hP1]
          refine st (y_assign rfl) rfl ?_
          refine l_nil ?_
          refine q_block ?_
          refine q_then ?_
          refine c_region ?_
          refine st (y_move rfl) rfl ?_
          refine st (y_sub_i (b := 8) rfl rfl (by omega) (by omega)) rfl ?_
          rw [show ((56 - 8 * u : Nat) : Int) - 8 = (56 : Int) - 8 * ((u + 1 : Nat) : Int) by omega]
          refine st (y_assign rfl) rfl ?_
          refine l_nil ?_
          exact q_round (u + 1, b13, c13) ⟨rfl, rfl, rfl, rfl, rfl, rfl, trivial⟩ ⟨by simp only; omega, h5.app hb13 hO13 hK13⟩ (by simp only; omega)
        ·
          have hu8 : u = 8 := by omega
          subst hu8
          have ht8 : (be8 x).take 8 = be8 x := List.take_of_length_le (by omega)
          rw [ht8, ← hbk] at h4 ⊢
          refine l_nil ?_
          refine q_then ?_
          refine c_false rfl rfl ?_
          refine c_exit ?_
          refine q_then_exit ?_
          refine q_then_exit ?_
          refine q_block_hit ?_
          refine q_block ?_
          refine q_then ?_
          refine c_region ?_
          first | refine st (y_add_in (b := 1) rfl rfl (by omega)) rfl ?_ | refine st (y_add_i (b := 1) rfl rfl (by omega) (by omega)) rfl ?_
          refine st (y_move rfl) rfl ?_
          refine l_nil ?_
          exact q_round (k + 1, pb2, pc2) ⟨rfl, rfl, rfl, rfl, trivial⟩ ⟨by simp only; omega, h4⟩ (by simp only; omega)
    ·
      have hke : k = X.length := by omega
      subst hke
      rw [List.take_length, ← hset] at h3 ⊢
      refine l_nil ?_
      refine q_then ?_
      refine c_seq ?_
      refine c_false rfl rfl ?_
      refine c_exit ?_
      refine q_then_exit ?_
      refine q_then_exit ?_
      refine q_block_hit ?_
      refine q_then ?_
      refine c_seq ?_
      refine c_region ?_
      refine st (y_move rfl) rfl ?_
      refine st (y_assign rfl) rfl ?_
      refine l_nil ?_
      refine q_then ?_
      refine c_ret ?_
      refine q_end1 (.inl rfl) rfl rfl ?_
      exact ⟨_, rfl, pb, pc, rfl, h3.po.base (by omega), hK19.trans hK10 (fun i hi => by simp only [List.mem_singleton] at hi; exact .inr (by omega))⟩

end Go.Proofs.Ytlhbbndedbacpaa

/- How many numbers stand between two places: OnesBetween, impl.OnesBetween and the statement's own walk. -/
import Derived.Test.YtlhbbndedbacpaaFRank
import Derived.Test.YtlhbbndedbacpaaL7
set_option linter.unusedVariables false
set_option linter.unusedSimpArgs false
set_option maxRecDepth 100000
namespace Go.Proofs.Ytlhbbndedbacpaa
open Go Go.RowKit
theorem nt_eq (m : Nat) : nt m = nt' m := rfl

theorem c_OnesBetween (p q : Nat) (s : List Bool) (i j : Nat) (w : World) (hB : BSet w p q s) (hi : i ≤ 100000) (hj : j ≤ 100000) (hs : s.length ≤ 100001) :
    Cal Try.prog 51 [vP p, vU i, vU j] w fun v w' => v = vU (btw s i j) ∧ w = w' := by
  obtain ⟨tl, hB⟩ := hB
  have hst := hB.st
  have hwd := hB.wd
  have hcap := hB.cap
  have hlen := pack_length s
  have hn : nW s.length ≤ 2000 := by unfold nW; omega
  have hg : ∀ j, j < (pack s).length → (pack s ++ tl).getD j 0 = wordAt s j := fun j hj => by
    rw [List.getD_eq_getElem?_getD, List.getElem?_append_left hj, ← List.getD_eq_getElem?_getD, pack_getD]
  obtain ⟨x, hx⟩ : ∃ x, min j s.length = x := ⟨_, rfl⟩
  have hres : btw s i j = btw s i x := by rw [← hx, btw_min]
  rw [hres]
  refine go_in' Try.func51 rfl Try.ntmps51 (Nat.le_of_ble_eq_true rfl) ?_
  refine c_seq ?_
  refine c_region ?_
  refine st (y_assign rfl) rfl ?_
  refine l_nil ?_
  refine q_then ?_
  refine c_seq ?_
  refine c_region ?_
  refine st (y_move rfl) rfl ?_
  refine sc rfl rfl isfn65 (c_panicIfNull p _) rfl ?_
  rintro _ _ ⟨rfl, rfl⟩
  refine l_nil ?_
  refine q_then ?_
  refine c_cut (fun _ : Unit => [(0, vP p), (1, vU i), (2, vU x)]) (fun _ w' => w = w') ?_ ?_
  · refine c_seq ?_
    refine c_region ?_
    refine st (y_move rfl) rfl ?_
    refine st (y_move rfl) rfl ?_
    refine st (y_nil rfl) rfl ?_
    refine st (fa93_0 rfl) rfl ?_
    refine st (y_loadb rfl one22 (by assumption) (by rfl)) rfl ?_
    refine st_if (y_gt_u rfl rfl) rfl (fun h1 => ?_) (fun h1 => ?_)
    · refine l_nil ?_
      refine q_then ?_
      refine c_true rfl rfl ?_
      refine c_region ?_
      refine st (y_move rfl) rfl ?_
      refine st (y_nil rfl) rfl ?_
      refine st (fa93_0 rfl) rfl ?_
      refine st (y_loadb rfl one22 (by assumption) (by rfl)) rfl ?_
      refine st (y_assign rfl) rfl ?_
      refine l_nil ?_
      refine q_meet () ⟨rfl, rfl, ?_, trivial⟩ rfl
      have e : x = s.length := by omega
      rw [e]; rfl
    ·
      refine l_nil ?_
      refine q_then ?_
      refine c_false rfl rfl ?_
      refine c_skip ?_
      refine q_meet () ⟨rfl, rfl, ?_, trivial⟩ rfl
      have e : x = j := by omega
      rw [e]; rfl
  ·
    rintro _ w' rfl
    refine c_seq ?_
    refine c_seq ?_
    refine c_region ?_
    refine st (y_move rfl) rfl ?_
    refine st (y_move rfl) rfl ?_
    refine st_if (y_ge_u rfl rfl) rfl (fun h1 => ?_) (fun h1 => ?_)
    · refine l_nil ?_
      refine q_then ?_
      refine c_true rfl rfl ?_
      refine c_seq ?_
      refine c_region ?_
      refine st (y_assign rfl) rfl ?_
      refine l_nil ?_
      refine q_then ?_
      refine c_ret ?_
      refine q_then_ret ?_
      refine q_end1 (.inl rfl) rfl rfl ?_
      exact ⟨_, rfl, by rw [btw_zero s i x (by omega)]; rfl, rfl⟩
    ·
      have hix : i < x := by omega
      have hxl : x ≤ s.length := by omega
      have e1 : i >>> 6 = i / 64 := shr6 i
      have e2 : x >>> 6 = x / 64 := shr6 x
      have e3 : i &&& 63 = i % 64 := and63 i
      have e4 : x &&& 63 = x % 64 := and63 x
      have hwi := wordAt_lt s (i / 64)
      have hwx := wordAt_lt s (x / 64)
      have hpi := shl1_pos (i % 64) (Nat.mod_lt _ (by decide))
      have hpx := shl1_pos (x % 64) (Nat.mod_lt _ (by decide))
      refine l_nil ?_
      refine q_then ?_
      refine c_false rfl rfl ?_
      refine c_skip ?_
      refine q_then ?_
      refine c_seq ?_
      refine c_region ?_
      refine st (y_move rfl) rfl ?_
      refine st (y_shr (k := 6) rfl rfl (by first | omega | assumption | (repeat (first | assumption | omega | decide | exact shl_lt64 _ _ | apply and_lt64 | apply or_lt64 | apply xor_lt64 | apply nt_lt | apply shr_lt64 | apply getD_lt64)))) rfl ?_
      refine st (y_assign rfl) rfl ?_
      refine l_nil ?_
      refine q_then ?_
      refine c_seq ?_
      refine c_region ?_
      refine st (y_move rfl) rfl ?_
      refine st (y_shr (k := 6) rfl rfl (by first | omega | assumption | (repeat (first | assumption | omega | decide | exact shl_lt64 _ _ | apply and_lt64 | apply or_lt64 | apply xor_lt64 | apply nt_lt | apply shr_lt64 | apply getD_lt64)))) rfl ?_
      refine st (y_assign rfl) rfl ?_
      refine l_nil ?_
      refine q_then ?_
      refine c_seq ?_
      refine c_region ?_
      refine st (y_move rfl) rfl ?_
      refine st (y_and (b := 63) rfl rfl (by first | omega | assumption | (repeat (first | assumption | omega | decide | exact shl_lt64 _ _ | apply and_lt64 | apply or_lt64 | apply xor_lt64 | apply nt_lt | apply shr_lt64 | apply getD_lt64))) (by first | omega | assumption | (repeat (first | assumption | omega | decide | exact shl_lt64 _ _ | apply and_lt64 | apply or_lt64 | apply xor_lt64 | apply nt_lt | apply shr_lt64 | apply getD_lt64)))) rfl ?_
      refine st (y_assign rfl) rfl ?_
      refine l_nil ?_
      refine q_then ?_
      refine c_seq ?_
      refine c_region ?_
      refine st (y_move rfl) rfl ?_
      refine st (y_and (b := 63) rfl rfl (by first | omega | assumption | (repeat (first | assumption | omega | decide | exact shl_lt64 _ _ | apply and_lt64 | apply or_lt64 | apply xor_lt64 | apply nt_lt | apply shr_lt64 | apply getD_lt64))) (by first | omega | assumption | (repeat (first | assumption | omega | decide | exact shl_lt64 _ _ | apply and_lt64 | apply or_lt64 | apply xor_lt64 | apply nt_lt | apply shr_lt64 | apply getD_lt64)))) rfl ?_
      refine st (y_assign rfl) rfl ?_
      refine l_nil ?_
      refine q_then ?_
      rw [e1, e2, e3, e4]
      refine c_seq ?_
      refine c_seq ?_
      refine c_region ?_
      refine st (y_move rfl) rfl ?_
      refine st (y_move rfl) rfl ?_
      refine st_if (y_eq_u rfl rfl) rfl (fun hsame => ?_) (fun hsame => ?_)
      · have hjw : i / 64 < (pack s).length := by rw [hlen]; unfold nW; omega
        have hgw := hg _ hjw
        have fin := mid_word s (i / 64) (i % 64) (x % 64) (by omega) (Nat.mod_lt _ (by decide))
        refine l_nil ?_
        refine q_then ?_
        refine c_true rfl rfl ?_
        refine c_seq ?_
        refine c_region ?_
        refine st (y_move rfl) rfl ?_
        refine st (y_shl (a := 1) rfl rfl) rfl ?_
        refine st (y_sub_u (b := 1) rfl rfl (by omega) (by omega)) rfl ?_
        refine st (y_move rfl) rfl ?_
        refine st (y_shl (a := 1) rfl rfl) rfl ?_
        refine st (y_sub_u (b := 1) rfl rfl (by omega) (by omega)) rfl ?_
        refine st (y_andNot rfl rfl (by first | omega | assumption | (repeat (first | assumption | omega | decide | exact shl_lt64 _ _ | apply and_lt64 | apply or_lt64 | apply xor_lt64 | apply nt_lt | apply shr_lt64 | apply getD_lt64))) (by first | omega | assumption | (repeat (first | assumption | omega | decide | exact shl_lt64 _ _ | apply and_lt64 | apply or_lt64 | apply xor_lt64 | apply nt_lt | apply shr_lt64 | apply getD_lt64)))) rfl ?_
        refine st (y_assign rfl) rfl ?_
        refine l_nil ?_
        refine q_then ?_
        refine c_seq ?_
        refine c_region ?_
        refine st (y_move rfl) rfl ?_
        refine st (y_nil rfl) rfl ?_
        refine st (fa93_1 rfl) rfl ?_
        refine st (y_loadb rfl one69 (by assumption) (by rfl)) rfl ?_
        refine st (y_move rfl) rfl ?_
        first | refine st (y_index0 rfl rfl Try.underlying69 sz34 (by omega)) rfl ?_ | refine st (y_index rfl rfl Try.underlying69 sz34 (by omega)) rfl ?_ | refine st (y_indexA rfl rfl Try.underlying69 sz34 (by omega)) rfl ?_
        first | refine st (y_loadM (0) rfl one34 (by assumption) (by first | omega | (simp only [List.length_append, List.length_map, List.length_replicate, List.length_set, List.length_take, List.length_drop]; omega))) rfl ?_ | refine st (y_load rfl one34 (by assumption)) rfl ?_
        refine st (y_move rfl) rfl ?_
        refine st (y_and rfl rfl (by first | omega | assumption | (repeat (first | assumption | omega | decide | exact shl_lt64 _ _ | apply and_lt64 | apply or_lt64 | apply xor_lt64 | apply nt_lt | apply shr_lt64 | apply getD_lt64))) (by first | omega | assumption | (repeat (first | assumption | omega | decide | exact shl_lt64 _ _ | apply and_lt64 | apply or_lt64 | apply xor_lt64 | apply nt_lt | apply shr_lt64 | apply getD_lt64)))) rfl ?_
        rw [hgw]
        refine sc rfl rfl isfn63 (c_OnesCount64 _ (and_lt64 _ hwi) _) rfl ?_
        rintro _ _ ⟨rfl, rfl⟩
        have hp := popc_le (wordAt s (i / 64) &&& ((1 <<< (x % 64)) % 18446744073709551616 - 1 &&& nt ((1 <<< (i % 64)) % 18446744073709551616 - 1)))
        refine st (y_conv_iu rfl us3 Try.underlying22 rfl (by omega)) rfl ?_
        refine st (y_assign rfl) rfl ?_
        refine l_nil ?_
        refine q_then ?_
        refine c_ret ?_
        refine q_then_ret ?_
        refine q_end1 (.inl rfl) rfl rfl ?_
        refine ⟨_, rfl, ?_, rfl⟩
        rw [nt_eq, fin]
        congr 3 <;> omega
      ·
        have hlt : i / 64 < x / 64 := by omega
        have hjw : i / 64 < (pack s).length := by rw [hlen]; unfold nW; omega
        have hgw := hg _ hjw
        have fin1 := high_word s (i / 64) (i % 64) (Nat.mod_lt _ (by decide))
        rw [show 64 * (i / 64) + i % 64 = i by omega] at fin1
        refine l_nil ?_
        refine q_then ?_
        refine c_false rfl rfl ?_
        refine c_skip ?_
        refine q_then ?_
        refine c_seq ?_
        refine c_region ?_
        refine st (y_assign rfl) rfl ?_
        refine l_nil ?_
        refine q_then ?_
        refine c_seq ?_
        refine c_region ?_
        refine st (y_move rfl) rfl ?_
        refine st (y_shl (a := 1) rfl rfl) rfl ?_
        refine st (y_sub_u (b := 1) rfl rfl (by omega) (by omega)) rfl ?_
        refine st (y_compl rfl (by first | omega | assumption | (repeat (first | assumption | omega | decide | exact shl_lt64 _ _ | apply and_lt64 | apply or_lt64 | apply xor_lt64 | apply nt_lt | apply shr_lt64 | apply getD_lt64)))) rfl ?_
        refine st (y_assign rfl) rfl ?_
        refine l_nil ?_
        refine q_then ?_
        refine c_seq ?_
        refine c_region ?_
        refine st (y_move rfl) rfl ?_
        refine st (y_nil rfl) rfl ?_
        refine st (fa93_1 rfl) rfl ?_
        refine st (y_loadb rfl one69 (by assumption) (by rfl)) rfl ?_
        refine st (y_move rfl) rfl ?_
        first | refine st (y_index0 rfl rfl Try.underlying69 sz34 (by omega)) rfl ?_ | refine st (y_index rfl rfl Try.underlying69 sz34 (by omega)) rfl ?_ | refine st (y_indexA rfl rfl Try.underlying69 sz34 (by omega)) rfl ?_
        first | refine st (y_loadM (0) rfl one34 (by assumption) (by first | omega | (simp only [List.length_append, List.length_map, List.length_replicate, List.length_set, List.length_take, List.length_drop]; omega))) rfl ?_ | refine st (y_load rfl one34 (by assumption)) rfl ?_
        refine st (y_move rfl) rfl ?_
        refine st (y_and rfl rfl (by first | omega | assumption | (repeat (first | assumption | omega | decide | exact shl_lt64 _ _ | apply and_lt64 | apply or_lt64 | apply xor_lt64 | apply nt_lt | apply shr_lt64 | apply getD_lt64))) (by first | omega | assumption | (repeat (first | assumption | omega | decide | exact shl_lt64 _ _ | apply and_lt64 | apply or_lt64 | apply xor_lt64 | apply nt_lt | apply shr_lt64 | apply getD_lt64)))) rfl ?_
        rw [hgw]
        refine sc rfl rfl isfn63 (c_OnesCount64 _ (and_lt64 _ hwi) _) rfl ?_
        rintro _ _ ⟨rfl, rfl⟩
        rw [nt_eq, fin1]
        have hb1 := btw_le s i (64 * (i / 64) + 64)
        refine st (y_conv_iu rfl us3 Try.underlying22 rfl (by omega)) rfl ?_
        refine st (y_assign rfl) rfl ?_
        refine l_nil ?_
        refine q_then ?_
        refine c_cut (fun _ : Unit => [(0, vP p), (2, vU x), (8, vU (x / 64)), (10, vU (x % 64)), (12, vU (btw s i (64 * (x / 64))))]) (fun _ w' => w = w') ?_ ?_
        · refine c_seq ?_
          refine c_region ?_
          refine st (y_move rfl) rfl ?_
          refine st (y_move rfl) rfl ?_
          refine st (y_add_u (b := 1) rfl rfl (by omega)) rfl ?_
          refine st_if (y_gt_u rfl rfl) rfl (fun hm => ?_) (fun hm => ?_)
          · have hxw : x / 64 ≤ (pack s).length := by rw [hlen]; unfold nW; omega
            refine l_nil ?_
            refine q_then ?_
            refine c_true rfl rfl ?_
            refine c_region ?_
            refine st (y_move rfl) rfl ?_
            refine st (y_move rfl) rfl ?_
            refine st (y_nil rfl) rfl ?_
            refine st (fa93_1 rfl) rfl ?_
            refine st (y_loadb rfl one69 (by assumption) (by rfl)) rfl ?_
            refine st (y_move rfl) rfl ?_
            refine st (y_add_u (b := 1) rfl rfl (by omega)) rfl ?_
            refine st (y_move rfl) rfl ?_
            refine st (y_slice_lhn rfl rfl rfl Try.underlying69 sz34 (by omega) (by omega) (by omega)) rfl ?_
            have hRd := Rd.of_row hwd (o := 0 + (i / 64 + 1)) (m := x / 64 - (i / 64 + 1)) (by simp only [List.length_append]; omega) (by omega)
            have hps : psum (((pack s ++ tl).drop (0 + (i / 64 + 1))).take (x / 64 - (i / 64 + 1))) = btw s (64 * (i / 64 + 1)) (64 * (x / 64)) := by
              rw [btw_mid s (i / 64 + 1) (x / 64) (by omega) (by omega), Nat.zero_add, List.drop_append_of_le_length (by omega), List.take_append_of_le_length (by simp; omega)]
            have hbm := btw_le s (64 * (i / 64 + 1)) (64 * (x / 64))
            have hsp := btw_split s i (64 * (i / 64 + 1)) (64 * (x / 64)) (by omega) (by omega)
            refine sc rfl rfl isfn66 (c_popcntSlice _ _ _ _ (fun y hy => by exact hB.lt y (List.mem_of_mem_drop (List.mem_of_mem_take (by rw [Nat.zero_add, List.drop_append_of_le_length (by omega), List.take_append_of_le_length (by simp; omega)] at hy; exact hy)))) (by omega) _ hRd) rfl ?_
            rintro _ _ ⟨rfl, rfl⟩
            rw [hps]
            refine st (y_add_u rfl rfl (by omega)) rfl ?_
            refine st (y_assign rfl) rfl ?_
            refine l_nil ?_
            refine q_meet () ⟨rfl, rfl, rfl, rfl, ?_, trivial⟩ rfl
            rw [hsp]; rfl
          ·
            refine l_nil ?_
            refine q_then ?_
            refine c_false rfl rfl ?_
            refine c_skip ?_
            refine q_meet () ⟨rfl, rfl, rfl, rfl, ?_, trivial⟩ rfl
            have e5 : x / 64 = i / 64 + 1 := by omega
            rw [e5]; rfl
        ·
          rintro _ w' rfl
          have hb2 := btw_le s i (64 * (x / 64))
          refine c_seq ?_
          refine c_seq ?_
          refine c_region ?_
          refine st (y_move rfl) rfl ?_
          refine st_if (y_gt_u (b := 0) rfl rfl) rfl (fun hz => ?_) (fun hz => ?_)
          · have hjx : x / 64 < (pack s).length := by rw [hlen]; unfold nW; omega
            have hgx := hg _ hjx
            have fin2 := low_word s (x / 64) (x % 64) (Nat.mod_lt _ (by decide))
            rw [show 64 * (x / 64) + x % 64 = x by omega] at fin2
            have hb3 := btw_le s (64 * (x / 64)) x
            have hsp := btw_split s i (64 * (x / 64)) x (by omega) (by omega)
            refine l_nil ?_
            refine q_then ?_
            refine c_true rfl rfl ?_
            refine c_seq ?_
            refine c_region ?_
            refine st (y_move rfl) rfl ?_
            refine st (y_shl (a := 1) rfl rfl) rfl ?_
            refine st (y_sub_u (b := 1) rfl rfl (by omega) (by omega)) rfl ?_
            refine st (y_assign rfl) rfl ?_
            refine l_nil ?_
            refine q_then ?_
            refine c_region ?_
            refine st (y_move rfl) rfl ?_
            refine st (y_move rfl) rfl ?_
            refine st (y_nil rfl) rfl ?_
            refine st (fa93_1 rfl) rfl ?_
            refine st (y_loadb rfl one69 (by assumption) (by rfl)) rfl ?_
            refine st (y_move rfl) rfl ?_
            first | refine st (y_index0 rfl rfl Try.underlying69 sz34 (by omega)) rfl ?_ | refine st (y_index rfl rfl Try.underlying69 sz34 (by omega)) rfl ?_ | refine st (y_indexA rfl rfl Try.underlying69 sz34 (by omega)) rfl ?_
            first | refine st (y_loadM (0) rfl one34 (by assumption) (by first | omega | (simp only [List.length_append, List.length_map, List.length_replicate, List.length_set, List.length_take, List.length_drop]; omega))) rfl ?_ | refine st (y_load rfl one34 (by assumption)) rfl ?_
            refine st (y_move rfl) rfl ?_
            refine st (y_and rfl rfl (by first | omega | assumption | (repeat (first | assumption | omega | decide | exact shl_lt64 _ _ | apply and_lt64 | apply or_lt64 | apply xor_lt64 | apply nt_lt | apply shr_lt64 | apply getD_lt64))) (by first | omega | assumption | (repeat (first | assumption | omega | decide | exact shl_lt64 _ _ | apply and_lt64 | apply or_lt64 | apply xor_lt64 | apply nt_lt | apply shr_lt64 | apply getD_lt64)))) rfl ?_
            rw [hgx]
            refine sc rfl rfl isfn63 (c_OnesCount64 _ (and_lt64 _ hwx) _) rfl ?_
            rintro _ _ ⟨rfl, rfl⟩
            rw [fin2]
            refine st (y_conv_iu rfl us3 Try.underlying22 rfl (by omega)) rfl ?_
            refine st (y_add_u rfl rfl (by omega)) rfl ?_
            refine st (y_assign rfl) rfl ?_
            refine l_nil ?_
            refine q_then ?_
            refine c_seq ?_
            refine c_region ?_
            refine st (y_move rfl) rfl ?_
            refine st (y_assign rfl) rfl ?_
            refine l_nil ?_
            refine q_then ?_
            refine c_ret ?_
            refine q_end1 (.inl rfl) rfl rfl ?_
            exact ⟨_, rfl, by rw [hsp], rfl⟩
          ·
            refine l_nil ?_
            refine q_then ?_
            refine c_false rfl rfl ?_
            refine c_skip ?_
            refine q_then ?_
            refine c_seq ?_
            refine c_region ?_
            refine st (y_move rfl) rfl ?_
            refine st (y_assign rfl) rfl ?_
            refine l_nil ?_
            refine q_then ?_
            refine c_ret ?_
            refine q_end1 (.inl rfl) rfl rfl ?_
            refine ⟨_, rfl, ?_, rfl⟩
            have e5 : 64 * (x / 64) = x := by omega
            rw [e5]

theorem c_implBetween (L : Nat) (A : Option Addr) (n c : Nat) (xs : List Nat) (i j : Nat) (w : World) (hR : Rd w A n xs) (ho : Ok L n xs) (hi : i ≤ 3000) (hj : j ≤ 3000) :
    Cal Try.prog 29 [aB L A n c, vU i, vU j] w fun v w' => v = vU (btw (mkS L xs) i j) ∧ Keep w w' [] := by
  have hlen := ho.len
  refine go_in' Try.func29 rfl Try.ntmps29 (Nat.le_of_ble_eq_true rfl) ?_
  refine c_seq ?_
  refine c_region ?_
  refine st_box _ rfl rfl rfl ?_
  intro b1 w1 hb1 hB1 hK1 hS1
  refine st (y_assign rfl) rfl ?_
  refine l_nil ?_
  refine q_then ?_
  refine c_seq ?_
  refine c_region ?_
  refine st (y_loadagg rfl agg25 us25 sz25 (by assumption) (by simp) (by rfl)) rfl ?_
  refine sc rfl rfl isfn36 (c_made L A n c xs _ (hR.keep hK1 (by simp)) (by have := ho.1; omega) (fun x h => by have := ho.2.2 x h; omega)) rfl ?_
  rintro _ w2 ⟨p, q, rfl, hp, hq, hB, hK2⟩
  have hK := hK1.trans hK2 (by simp)
  refine st (y_move rfl) rfl ?_
  refine st (y_extract rfl rfl) rfl ?_
  refine st (y_extract rfl rfl) rfl ?_
  refine st (y_assign rfl) rfl ?_
  refine st (y_assign rfl) rfl ?_
  refine l_nil ?_
  refine q_then ?_
  refine c_seq ?_
  refine c_seq ?_
  refine c_region ?_
  refine st (y_move rfl) rfl ?_
  refine st (y_not rfl) rfl ?_
  refine st (y_move rfl) rfl ?_
  refine stg rfl rfl (y_move rfl) rfl ?_
  refine stg_f rfl rfl (y_gt_u (b := 6000) rfl rfl) (by omega) rfl ?_
  refine st (y_pickF rfl rfl) rfl ?_
  refine st (y_move rfl) rfl ?_
  refine stg rfl rfl (y_move rfl) rfl ?_
  refine stg_f rfl rfl (y_gt_u (b := 6000) rfl rfl) (by omega) rfl ?_
  refine st (y_pickF rfl rfl) rfl ?_
  refine l_nil ?_
  refine q_then ?_
  refine c_false rfl rfl ?_
  refine c_skip ?_
  refine q_then ?_
  refine c_seq ?_
  refine c_region ?_
  refine st (y_move rfl) rfl ?_
  refine st (y_move rfl) rfl ?_
  refine st (y_move rfl) rfl ?_
  refine sc rfl rfl isfn51 (c_OnesBetween p q _ i j _ hB (by omega) (by omega) (by omega)) rfl ?_
  rintro _ w3 ⟨rfl, rfl⟩
  refine st (y_assign rfl) rfl ?_
  refine l_nil ?_
  refine q_then ?_
  refine c_ret ?_
  refine q_end1 (.inl rfl) rfl rfl ?_
  exact ⟨_, rfl, rfl, hK⟩

theorem c_FnBetween (L : Nat) (A : Option Addr) (n c : Nat) (xs : List Nat) (i j : Nat) (w : World) (hR : Rd w A n xs) (hi : i < 18446744073709551616) (hj : j < 18446744073709551616) :
    Cal Try.prog 9 [aB L A n c, vU i, vU j] w fun v w' => v = vB true ∧ Keep w w' [] := by
  refine go_in' Try.func9 rfl Try.ntmps9 (Nat.le_of_ble_eq_true rfl) ?_
  refine c_seq ?_
  refine c_region ?_
  refine st_box _ rfl rfl rfl ?_
  intro b1 w1 hb1 hB1 hK1 hS1
  refine st (y_assign rfl) rfl ?_
  refine l_nil ?_
  refine q_then ?_
  refine c_seq ?_
  refine c_seq ?_
  refine c_region ?_
  refine st (y_loadagg rfl agg25 us25 sz25 (by assumption) (by simp) (by rfl)) rfl ?_
  refine sc rfl rfl isfn12 (c_zzFits1 L A n c _) rfl ?_
  rintro _ w2 ⟨rfl, hK2⟩
  have hB1 := hB1.keep hK2 (by simp only [List.mem_cons, List.not_mem_nil, or_false, not_or, not_false_eq_true] <;> omega)
  have hK := hK1.trans hK2 (by simp)
  clear hK1 hK2
  refine st (y_not rfl) rfl ?_
  refine l_nil ?_
  refine q_then ?_
  refine c_ifb rfl (fun hz => ?_) (fun hz => ?_)
  · refine c_seq ?_
    refine c_region ?_
    refine st (y_assign rfl) rfl ?_
    refine l_nil ?_
    refine q_then ?_
    refine c_ret ?_
    refine q_then_ret ?_
    refine q_end1 (.inl rfl) rfl rfl ?_
    exact ⟨_, rfl, rfl, hK⟩
  ·
    refine c_skip ?_
    refine q_then ?_
    refine c_seq ?_
    refine c_region ?_
    refine st (y_loadagg rfl agg25 us25 sz25 (by assumption) (by simp) (by rfl)) rfl ?_
    refine sc rfl rfl isfn13 (c_set L A n c xs _ (hR.keep hK (by simp))) rfl ?_
    rintro _ w3 ⟨hK3, ⟨ho, b, rfl, hBl, hb⟩ | rfl⟩
    · have hB1 := hB1.keep hK3 (by simp only [List.mem_cons, List.not_mem_nil, or_false, not_or, not_false_eq_true] <;> omega)
      have hK' := hK.trans hK3 (by simp)
      have hlen := ho.len
      clear hK hK3
      refine st (y_move rfl) rfl ?_
      refine st (y_extract rfl rfl) rfl ?_
      refine st (y_extract rfl rfl) rfl ?_
      refine st (y_assign rfl) rfl ?_
      refine st (y_assign rfl) rfl ?_
      refine l_nil ?_
      refine q_then ?_
      refine c_seq ?_
      refine c_region ?_
      refine st (y_move rfl) rfl ?_
      refine st (y_not rfl) rfl ?_
      refine st (y_move rfl) rfl ?_
      refine stg rfl rfl (y_move rfl) rfl ?_
      refine stg_if rfl rfl (y_gt_u (b := 3000) rfl rfl) rfl (fun hbig => ?_) (fun hbig => ?_)
      · refine st (y_pickF rfl rfl) rfl ?_
        refine st (y_move rfl) rfl ?_
        refine sno rfl rfl rfl rfl ?_
        refine sno rfl rfl rfl rfl ?_
        refine st (y_pickT rfl rfl) rfl ?_
        refine st (y_move rfl) rfl ?_
        refine sno rfl rfl rfl rfl ?_
        refine sno rfl rfl rfl rfl ?_
        refine sno rfl rfl rfl rfl ?_
        refine sno rfl rfl rfl rfl ?_
        refine sno rfl rfl rfl rfl ?_
        refine sno rfl rfl rfl rfl ?_
        refine sno rfl rfl rfl rfl ?_
        refine sno rfl rfl rfl rfl ?_
        refine sno rfl rfl rfl rfl ?_
        refine sno rfl rfl rfl rfl ?_
        refine sno rfl rfl rfl rfl ?_
        refine sno rfl rfl rfl rfl ?_
        refine snou rfl rfl rfl ?_
        refine snou rfl rfl rfl ?_
        refine snou rfl rfl rfl ?_
        refine sno rfl rfl rfl rfl ?_
        refine st (y_pickT rfl rfl) rfl ?_
        refine st (y_assign rfl) rfl ?_
        refine l_nil ?_
        refine q_then ?_
        refine c_ret ?_
        refine q_end1 (.inl rfl) rfl rfl ?_
        exact ⟨_, rfl, rfl, hK'⟩
      ·
        refine st (y_pickF rfl rfl) rfl ?_
        refine st (y_move rfl) rfl ?_
        refine stg rfl rfl (y_move rfl) rfl ?_
        refine stg_if rfl rfl (y_gt_u (b := 3000) rfl rfl) rfl (fun hbig2 => ?_) (fun hbig2 => ?_)
        · refine st (y_pickF rfl rfl) rfl ?_
          refine st (y_move rfl) rfl ?_
          refine sno rfl rfl rfl rfl ?_
          refine sno rfl rfl rfl rfl ?_
          refine sno rfl rfl rfl rfl ?_
          refine sno rfl rfl rfl rfl ?_
          refine sno rfl rfl rfl rfl ?_
          refine sno rfl rfl rfl rfl ?_
          refine sno rfl rfl rfl rfl ?_
          refine sno rfl rfl rfl rfl ?_
          refine sno rfl rfl rfl rfl ?_
          refine sno rfl rfl rfl rfl ?_
          refine sno rfl rfl rfl rfl ?_
          refine sno rfl rfl rfl rfl ?_
          refine snou rfl rfl rfl ?_
          refine snou rfl rfl rfl ?_
          refine snou rfl rfl rfl ?_
          refine sno rfl rfl rfl rfl ?_
          refine st (y_pickT rfl rfl) rfl ?_
          refine st (y_assign rfl) rfl ?_
          refine l_nil ?_
          refine q_then ?_
          refine c_ret ?_
          refine q_end1 (.inl rfl) rfl rfl ?_
          exact ⟨_, rfl, rfl, hK'⟩
        ·
          refine st (y_pickF rfl rfl) rfl ?_
          refine st (y_move rfl) rfl ?_
          refine stg rfl rfl (y_loadagg rfl agg25 us25 sz25 (by assumption) (by simp) (by rfl)) rfl ?_
          refine stg rfl rfl (y_move rfl) rfl ?_
          refine stg rfl rfl (y_move rfl) rfl ?_
          refine scg rfl rfl rfl rfl isfn29 (c_implBetween L A n c xs i j _ (hR.keep hK' (by simp)) ho (by omega) (by omega)) rfl ?_
          rintro _ w4 ⟨rfl, hK4⟩
          have hB1 := hB1.keep hK4 (by simp only [List.mem_cons, List.not_mem_nil, or_false, not_or, not_false_eq_true] <;> omega)
          have hBl := hBl.keep hK4 (by simp only [List.mem_cons, List.not_mem_nil, or_false, not_or, not_false_eq_true] <;> omega)
          refine stg rfl rfl (y_move rfl) rfl ?_
          refine stg rfl rfl (y_move rfl) rfl ?_
          refine stg rfl rfl (y_conv_ui rfl us22 Try.underlying3 (by omega)) rfl ?_
          refine stg rfl rfl (y_move rfl) rfl ?_
          refine stg rfl rfl (y_conv_ui rfl us22 Try.underlying3 (by omega)) rfl ?_
          refine scg rfl rfl rfl rfl isfn19 (c_Between b _ i j _ hBl (by omega) (by omega) (by omega)) rfl ?_
          rintro _ _ ⟨rfl, rfl⟩
          refine stg_t rfl rfl (y_eq_u rfl rfl) (rfl) rfl ?_
          refine stg rfl rfl (y_move rfl) rfl ?_
          refine scg rfl rfl rfl rfl isfn16 (c_three _) rfl ?_
          rintro _ w5 ⟨b3, rfl, hR3, hb3, hK5⟩
          refine scg rfl rfl rfl rfl isfn29 (c_implBetween 9 _ 3 3 [1, 2, 5] 1 3 _ hR3 ⟨by omega, by omega, by decide⟩ (by omega) (by omega)) rfl ?_
          rintro _ w6 ⟨rfl, hK6⟩
          refine stg_t rfl rfl (y_eq_u (b := 2) rfl rfl) (by decide) rfl ?_
          refine stg rfl rfl (y_pickT rfl rfl) rfl ?_
          refine st (y_pickF rfl rfl) rfl ?_
          refine st (y_assign rfl) rfl ?_
          refine l_nil ?_
          refine q_then ?_
          refine c_ret ?_
          refine q_end1 (.inl rfl) rfl rfl ?_
          have hKK : Keep w _ [] := (((((Keep.refl w []).trans hK' (by intro i; simp only [List.mem_cons, List.not_mem_nil, or_false, false_or, false_implies] <;> omega)).trans hK4 (by intro i; simp only [List.mem_cons, List.not_mem_nil, or_false, false_or, false_implies] <;> omega)).trans hK5 (by intro i; simp only [List.mem_cons, List.not_mem_nil, or_false, false_or, false_implies] <;> omega)).trans hK6 (by intro i; simp only [List.mem_cons, List.not_mem_nil, or_false, false_or, false_implies] <;> omega))
          exact ⟨_, rfl, rfl, hKK⟩
    ·
      refine st (y_move rfl) rfl ?_
      refine st (y_extract rfl rfl) rfl ?_
      refine st (y_extract rfl rfl) rfl ?_
      refine st (y_assign rfl) rfl ?_
      refine st (y_assign rfl) rfl ?_
      refine l_nil ?_
      refine q_then ?_
      refine c_seq ?_
      refine c_region ?_
      refine st (y_move rfl) rfl ?_
      refine st (y_not rfl) rfl ?_
      refine st (y_move rfl) rfl ?_
      refine sno rfl rfl rfl rfl ?_
      refine sno rfl rfl rfl rfl ?_
      refine st (y_pickT rfl rfl) rfl ?_
      refine st (y_move rfl) rfl ?_
      refine sno rfl rfl rfl rfl ?_
      refine sno rfl rfl rfl rfl ?_
      refine st (y_pickT rfl rfl) rfl ?_
      refine st (y_move rfl) rfl ?_
      refine sno rfl rfl rfl rfl ?_
      refine sno rfl rfl rfl rfl ?_
      refine sno rfl rfl rfl rfl ?_
      refine sno rfl rfl rfl rfl ?_
      refine sno rfl rfl rfl rfl ?_
      refine sno rfl rfl rfl rfl ?_
      refine sno rfl rfl rfl rfl ?_
      refine sno rfl rfl rfl rfl ?_
      refine sno rfl rfl rfl rfl ?_
      refine sno rfl rfl rfl rfl ?_
      refine sno rfl rfl rfl rfl ?_
      refine sno rfl rfl rfl rfl ?_
      refine snou rfl rfl rfl ?_
      refine snou rfl rfl rfl ?_
      refine snou rfl rfl rfl ?_
      refine sno rfl rfl rfl rfl ?_
      refine st (y_pickT rfl rfl) rfl ?_
      refine st (y_assign rfl) rfl ?_
      refine l_nil ?_
      refine q_then ?_
      refine c_ret ?_
      refine q_end1 (.inl rfl) rfl rfl ?_
      exact ⟨_, rfl, rfl, hK.trans hK3 (by simp)⟩

end Go.Proofs.Ytlhbbndedbacpaa

/- DepositTo, Extract, Deposit, and the thin package's, each by its contract. -/
import Derived.Test.YthefhfliobjgaaaDoorH2
import Derived.Test.YthefhfliobjgaaaDoorT2
set_option linter.unusedVariables false
set_option linter.unusedSimpArgs false
set_option maxRecDepth 100000
set_option maxHeartbeats 1000000
namespace Go.Proofs.YthefhfliobjgaaaDoor
open Go Go.RowKit

theorem c_DepositTo (p q pm qm pd qd B : Nat) (s m : List Bool) (w : World) (hS : BSet w p q s) (hM : BSet w pm qm m) (hD : BSet w pd qd (List.replicate m.length false)) (hb : p < B ∧ q < B ∧ pm < B ∧ qm < B ∧ B ≤ pd ∧ B ≤ qd) (hs : s.length ≤ 10000) (hm : m.length ≤ 10000) :
    Cal Tryd.prog 28 [vP p, vP pm, vP pd] w fun v w' => v = vT [] ∧ BSet w' pd qd (depS s m) ∧ Keep w w' [qd] := by
  obtain ⟨tls, hBs⟩ := hS
  obtain ⟨tlm, hBm⟩ := hM
  obtain ⟨tld, hBd⟩ := hD
  rw [pack_zeros, List.length_replicate] at hBd
  have hsts := hBs.st
  have hwds := hBs.wd
  have hstm := hBm.st
  have hwdm := hBm.wd
  have hstd := hBd.st
  rw [List.length_replicate] at hstd
  have hls := pack_length s
  have hlm := pack_length m
  have hcm := count_le m
  have hns : nW s.length ≤ 2000 := by unfold nW; omega
  have hnm : nW m.length ≤ 2000 := by unfold nW; omega
  have hdl := depS_length s m
  have fin : ∀ (w' : World) (ws : List Nat), BW w' pd qd m.length ws tld → ws.length = nW m.length → (∀ x, x < 64 * nW m.length → wbit ws x = (depS s m).getD x false) → BSet w' pd qd (depS s m) := by
    intro w' ws h hl hw
    exact (h.len0 hdl.symm).bset (by rw [hdl]; exact hl) fun x hx => hw x (by omega)
  refine go_in' Tryd.func28 rfl Tryd.ntmps28 (Nat.le_of_ble_eq_true rfl) ?_
  refine c_seq ?_
  refine c_region ?_
  refine st (y_move rfl) rfl ?_
  refine sc rfl rfl isfn35 (c_panicIfNull p _) rfl ?_
  rintro _ _ ⟨rfl, rfl⟩
  refine l_nil ?_
  refine q_then ?_
  refine c_seq ?_
  refine c_region ?_
  refine st (y_move rfl) rfl ?_
  refine sc rfl rfl isfn35 (c_panicIfNull pm _) rfl ?_
  rintro _ _ ⟨rfl, rfl⟩
  refine l_nil ?_
  refine q_then ?_
  refine c_seq ?_
  refine c_region ?_
  refine st (y_move rfl) rfl ?_
  refine sc rfl rfl isfn35 (c_panicIfNull pd _) rfl ?_
  rintro _ _ ⟨rfl, rfl⟩
  refine l_nil ?_
  refine q_then ?_
  refine c_seq ?_
  refine c_seq ?_
  refine c_region ?_
  refine st (y_move rfl) rfl ?_
  refine st (y_nil rfl) rfl ?_
  refine st (fa55_1 rfl) rfl ?_
  refine st (y_loadb rfl one53 (by assumption) (by rfl)) rfl ?_
  refine st (y_len rfl Tryd.underlying53) rfl ?_
  refine st_if (y_eq_i (b := 0) rfl rfl) rfl (fun h1 => ?_) (fun h1 => ?_)
  · refine st (y_move rfl) rfl ?_
    refine sno rfl rfl rfl rfl ?_
    refine sno rfl rfl rfl rfl ?_
    refine sno rfl rfl rfl rfl ?_
    refine sno rfl rfl rfl rfl ?_
    refine sno rfl rfl rfl rfl ?_
    refine sno rfl rfl rfl rfl ?_
    refine st (y_pickT rfl rfl) rfl ?_
    refine st (y_move rfl) rfl ?_
    refine sno rfl rfl rfl rfl ?_
    refine sno rfl rfl rfl rfl ?_
    refine sno rfl rfl rfl rfl ?_
    refine sno rfl rfl rfl rfl ?_
    refine sno rfl rfl rfl rfl ?_
    refine sno rfl rfl rfl rfl ?_
    refine st (y_pickT rfl rfl) rfl ?_
    refine l_nil ?_
    refine q_then ?_
    refine c_true rfl rfl ?_
    refine c_ret ?_
    refine q_then_ret ?_
    refine q_end0 (.inl rfl) rfl ?_
    exact ⟨_, rfl, rfl, fin _ _ hBd (by simp) fun x hx => by omega, Keep.refl _ _⟩
  ·
    refine st (y_move rfl) rfl ?_
    refine stg rfl rfl (y_move rfl) rfl ?_
    refine stg rfl rfl (y_nil rfl) rfl ?_
    refine stg rfl rfl (fa55_1 rfl) rfl ?_
    refine stg rfl rfl (y_loadb rfl one53 (by assumption) (by rfl)) rfl ?_
    refine stg rfl rfl (y_len rfl Tryd.underlying53) rfl ?_
    refine stg_f rfl rfl (y_eq_i (b := 0) rfl rfl) (by omega) rfl ?_
    refine st (y_pickF rfl rfl) rfl ?_
    refine st (y_move rfl) rfl ?_
    refine stg rfl rfl (y_move rfl) rfl ?_
    refine stg rfl rfl (y_nil rfl) rfl ?_
    refine stg rfl rfl (fa55_1 rfl) rfl ?_
    refine stg rfl rfl (y_loadb rfl one53 (by assumption) (by rfl)) rfl ?_
    refine stg rfl rfl (y_len rfl Tryd.underlying53) rfl ?_
    refine stg_if rfl rfl (y_eq_i (b := 0) rfl rfl) rfl (fun h2 => ?_) (fun h2 => ?_)
    · refine st (y_pickF rfl rfl) rfl ?_
      refine l_nil ?_
      refine q_then ?_
      refine c_true rfl rfl ?_
      refine c_ret ?_
      refine q_then_ret ?_
      refine q_end0 (.inl rfl) rfl ?_
      exact ⟨_, rfl, rfl, fin _ _ hBd (by simp) fun x hx => by rw [wbit_zeros, dep_past (k := 0) (by unfold nW at hls; omega) (by omega)], Keep.refl _ _⟩
    ·
      refine st (y_pickF rfl rfl) rfl ?_
      refine l_nil ?_
      refine q_then ?_
      refine c_false rfl rfl ?_
      refine c_skip ?_
      refine q_then ?_
      refine c_seq ?_
      refine c_region ?_
      refine st (y_assign (v := vU 0) rfl) rfl ?_
      refine l_nil ?_
      refine q_then ?_
      refine c_seq ?_
      refine c_region ?_
      refine st (y_move rfl) rfl ?_
      refine st (y_nil rfl) rfl ?_
      refine st (fa55_1 rfl) rfl ?_
      refine st (y_loadb rfl one53 (by assumption) (by rfl)) rfl ?_
      refine st (y_len rfl Tryd.underlying53) rfl ?_
      refine st (y_assign rfl) rfl ?_
      refine l_nil ?_
      refine q_then ?_
      refine c_seq ?_
      refine c_seq ?_
      refine c_region ?_
      refine st (y_move rfl) rfl ?_
      refine st (y_nil rfl) rfl ?_
      refine st (fa55_1 rfl) rfl ?_
      refine st (y_loadb rfl one53 (by assumption) (by rfl)) rfl ?_
      refine st (y_len rfl Tryd.underlying53) rfl ?_
      refine st (y_move rfl) rfl ?_
      refine st_f (y_lt_i rfl rfl) (by omega) rfl ?_
      refine l_nil ?_
      refine q_then ?_
      refine c_false rfl rfl ?_
      refine c_skip ?_
      refine q_then ?_
      refine c_seq ?_
      refine c_region ?_
      refine st (y_assign (v := vI ((0 : Nat) : Int)) rfl) rfl ?_
      refine l_nil ?_
      refine q_then ?_
      refine c_block ?_
      refine c_loop (fun k : Nat => [(0, vP p), (1, vP pm), (2, vP pd), (6, vU (cnt (fun i => m.getD i false) (64 * k))), (7, vI ((pack m).length : Nat)), (8, vI (k : Nat))]) (fun k w' => k ≤ (pack m).length ∧ Keep w w' [qd] ∧ ∃ ws, BW w' pd qd m.length ws tld ∧ ws.length = nW m.length ∧ ∀ x, wbit ws x = (decide (x < 64 * k) && (depS s m).getD x false)) (fun k => (pack m).length - k) 0 ?_ ?_ ?_
      · exact ⟨rfl, rfl, rfl, rfl, rfl, rfl, trivial⟩
      · exact ⟨Nat.zero_le _, Keep.refl _ _, _, hBd, by simp, fun x => by rw [wbit_zeros]; simp⟩
      · rintro k w2 ⟨hk, hK2, ws, hBW2, hwl, hwb⟩
        clear hsts hwds hstm hwdm hstd
        have hBs2 := hBs.keep hK2 (by simp; omega) (by simp; omega)
        have hBm2 := hBm.keep hK2 (by simp; omega) (by simp; omega)
        have hsts := hBs2.st
        have hwds := hBs2.wd
        have hstm := hBm2.st
        have hwdm := hBm2.wd
        have hstd := hBW2.st
        have hwdd := hBW2.wd
        have hof := count_full m (64 * k)
        have hof1 := count_full m (64 * (k + 1))
        have hcw := cnt_word m k
        refine c_seq ?_
        refine c_seq ?_
        refine c_region ?_
        refine st (y_move rfl) rfl ?_
        refine st (y_move rfl) rfl ?_
        refine st_if (y_lt_i rfl rfl) rfl (fun hlt => ?_) (fun hlt => ?_)
        · have hgm : (pack m ++ tlm).getD k 0 = wordAt m k := by rw [getD_app (by omega), pack_getD]
          have hmw := wordAt_lt m k
          refine l_nil ?_
          refine q_then ?_
          refine c_true rfl rfl ?_
          refine c_skip ?_
          refine q_then ?_
          refine c_seq ?_
          refine c_block ?_
          refine c_seq ?_
          refine c_seq ?_
          refine c_region ?_
          refine st (y_move rfl) rfl ?_
          refine st (y_nil rfl) rfl ?_
          refine st (fa55_1 rfl) rfl ?_
          refine st (y_loadb rfl one53 (by assumption) (by rfl)) rfl ?_
          refine st (y_move rfl) rfl ?_
          first | refine st (y_index0 rfl rfl Tryd.underlying53 sz58 (by omega)) rfl ?_ | refine st (y_index rfl rfl Tryd.underlying53 sz58 (by omega)) rfl ?_ | refine st (y_indexA rfl rfl Tryd.underlying53 sz58 (by omega)) rfl ?_
          first | refine st (y_loadM (0) rfl one58 (by assumption) (by first | omega | (simp only [List.length_append, List.length_map, List.length_replicate, List.length_set, List.length_take, List.length_drop]; omega) | (simp; done))) rfl ?_ | refine st (y_load rfl one58 (by assumption)) rfl ?_
          rw [hgm]
          refine st_if (y_eq_u (b := 0) rfl rfl) rfl (fun h0 => ?_) (fun h0 => ?_)
          · have hp0 : popc (wordAt m k) = 0 := by rw [h0, popc_zero]
            refine l_nil ?_
            refine q_then ?_
            refine c_true rfl rfl ?_
            refine c_exit ?_
            refine q_then_exit ?_
            refine q_block_hit ?_
            refine q_then ?_
            refine c_region ?_
            refine st (y_move rfl) rfl ?_
            first | refine st (y_add_in (b := 1) rfl rfl (by omega)) rfl ?_ | refine st (y_add_i (b := 1) rfl rfl (by omega) (by omega)) rfl ?_
            refine st (y_assign rfl) rfl ?_
            refine l_nil ?_
            refine q_round (k + 1) ⟨rfl, rfl, rfl, ?_, rfl, rfl, trivial⟩ ⟨by omega, hK2, ws, hBW2, hwl, fun x => ?_⟩ (by omega)
            · rw [hcw, hp0, Nat.add_zero]; rfl
            · rw [hwb]
              by_cases hx : x / 64 = k
              · rw [dep_none h0 hx]; simp
              · have : decide (x < 64 * k) = decide (x < 64 * (k + 1)) := decide_eq_decide.2 (by omega)
                rw [this]
          ·
            have hp64 := popc_le (wordAt m k)
            obtain ⟨o, ho⟩ : ∃ o, cnt (fun i => m.getD i false) (64 * k) = o := ⟨_, rfl⟩
            rw [ho] at hcw hof ⊢
            have hmo := and63 o
            have hdo := shr6 o
            have hbo := bit64 o
            refine l_nil ?_
            refine q_then ?_
            refine c_false rfl rfl ?_
            refine c_skip ?_
            refine q_then ?_
            refine c_seq ?_
            refine c_region ?_
            refine st (y_move rfl) rfl ?_
            refine st (y_shr (k := 6) rfl rfl (by first | omega | assumption | (repeat (first | assumption | omega | decide | exact shl_lt64 _ _ | apply and_lt64 | apply or_lt64 | apply xor_lt64 | apply nt_lt | apply shr_lt64 | apply getD_lt64)))) rfl ?_
            refine st (y_assign rfl) rfl ?_
            refine l_nil ?_
            refine q_then ?_
            rw [hdo]
            refine c_seq ?_
            refine c_seq ?_
            refine c_region ?_
            refine st (y_move rfl) rfl ?_
            refine st (y_move rfl) rfl ?_
            refine st (y_nil rfl) rfl ?_
            refine st (fa55_1 rfl) rfl ?_
            refine st (y_loadb rfl one53 (by assumption) (by rfl)) rfl ?_
            refine st (y_len rfl Tryd.underlying53) rfl ?_
            refine st (y_conv_iu rfl us3 Tryd.underlying22 rfl (by omega)) rfl ?_
            refine st_if (y_ge_u rfl rfl) rfl (fun hend => ?_) (fun hend => ?_)
            · refine l_nil ?_
              refine q_then ?_
              refine c_true rfl rfl ?_
              refine c_exit ?_
              refine q_then_exit ?_
              refine q_block_miss rfl ?_
              refine q_then_exit ?_
              refine q_then_exit ?_
              refine q_block_hit ?_
              refine q_end0 (.inr rfl) rfl ?_
              refine ⟨_, rfl, rfl, fin _ _ hBW2 hwl fun x hx => ?_, hK2⟩
              rw [hwb]
              by_cases hx : x < 64 * k
              · simp [hx]
              · rw [dep_past (s := s) (k := 64 * k) (by rw [ho]; rw [hls] at hend; unfold nW at hend; omega) (by omega)]; simp
            ·
              have hwi : o / 64 < (pack s).length := by omega
              have hgs : (pack s ++ tls).getD (o / 64) 0 = wordAt s (o / 64) := by rw [getD_app (by omega), pack_getD]
              have hsw := wordAt_lt s (o / 64)
              have hsw1 := wordAt_lt s (o / 64 + 1)
              refine l_nil ?_
              refine q_then ?_
              refine c_false rfl rfl ?_
              refine c_skip ?_
              refine q_then ?_
              refine c_seq ?_
              refine c_region ?_
              refine st (y_move rfl) rfl ?_
              refine st (y_nil rfl) rfl ?_
              refine st (fa55_1 rfl) rfl ?_
              refine st (y_loadb rfl one53 (by assumption) (by rfl)) rfl ?_
              refine st (y_move rfl) rfl ?_
              first | refine st (y_index0 rfl rfl Tryd.underlying53 sz58 (by omega)) rfl ?_ | refine st (y_index rfl rfl Tryd.underlying53 sz58 (by omega)) rfl ?_ | refine st (y_indexA rfl rfl Tryd.underlying53 sz58 (by omega)) rfl ?_
              first | refine st (y_loadM (0) rfl one58 (by assumption) (by first | omega | (simp only [List.length_append, List.length_map, List.length_replicate, List.length_set, List.length_take, List.length_drop]; omega) | (simp; done))) rfl ?_ | refine st (y_load rfl one58 (by assumption)) rfl ?_
              rw [hgs]
              refine st (y_assign rfl) rfl ?_
              refine l_nil ?_
              refine q_then ?_
              refine c_seq ?_
              refine c_region ?_
              refine st (y_move rfl) rfl ?_
              refine st (y_and (b := 63) rfl rfl (by first | omega | assumption | (repeat (first | assumption | omega | decide | exact shl_lt64 _ _ | apply and_lt64 | apply or_lt64 | apply xor_lt64 | apply nt_lt | apply shr_lt64 | apply getD_lt64))) (by first | omega | assumption | (repeat (first | assumption | omega | decide | exact shl_lt64 _ _ | apply and_lt64 | apply or_lt64 | apply xor_lt64 | apply nt_lt | apply shr_lt64 | apply getD_lt64)))) rfl ?_
              refine st (y_assign rfl) rfl ?_
              refine l_nil ?_
              refine q_then ?_
              rw [hmo]
              refine c_cut (fun src : Nat => [(0, vP p), (1, vP pm), (2, vP pd), (6, vU o), (7, vI ((pack m).length : Nat)), (8, vI (k : Nat)), (10, vU src)]) (fun src w' => w' = w2 ∧ src < 18446744073709551616 ∧ ∀ t, t < 64 → src.testBit t = s.getD (o + t) false) ?_ ?_
              · refine c_seq ?_
                refine c_region ?_
                refine st (y_move rfl) rfl ?_
                refine st (y_add_u (b := 1) rfl rfl (by omega)) rfl ?_
                refine st (y_move rfl) rfl ?_
                refine st (y_nil rfl) rfl ?_
                refine st (fa55_1 rfl) rfl ?_
                refine st (y_loadb rfl one53 (by assumption) (by rfl)) rfl ?_
                refine st (y_len rfl Tryd.underlying53) rfl ?_
                refine st (y_conv_iu rfl us3 Tryd.underlying22 rfl (by omega)) rfl ?_
                refine st_if (y_lt_u rfl rfl) rfl (fun hn => ?_) (fun hn => ?_)
                · have hgs1 : (pack s ++ tls).getD (o / 64 + 1) 0 = wordAt s (o / 64 + 1) := by rw [getD_app (by omega), pack_getD]
                  refine st (y_move rfl) rfl ?_
                  refine stg rfl rfl (y_move rfl) rfl ?_
                  refine stg_if rfl rfl (y_ne_u (b := 0) rfl rfl) rfl (fun hz => ?_) (fun hz => ?_)
                  · refine st (y_pickT rfl rfl) rfl ?_
                    refine l_nil ?_
                    refine q_then ?_
                    refine c_true rfl rfl ?_
                    refine c_region ?_
                    refine st (y_move rfl) rfl ?_
                    refine st (y_move rfl) rfl ?_
                    refine st (y_shr rfl rfl (by first | omega | assumption | (repeat (first | assumption | omega | decide | exact shl_lt64 _ _ | apply and_lt64 | apply or_lt64 | apply xor_lt64 | apply nt_lt | apply shr_lt64 | apply getD_lt64)))) rfl ?_
                    refine st (y_move rfl) rfl ?_
                    refine st (y_nil rfl) rfl ?_
                    refine st (fa55_1 rfl) rfl ?_
                    refine st (y_loadb rfl one53 (by assumption) (by rfl)) rfl ?_
                    refine st (y_move rfl) rfl ?_
                    refine st (y_add_u (b := 1) rfl rfl (by omega)) rfl ?_
                    first | refine st (y_index0 rfl rfl Tryd.underlying53 sz58 (by omega)) rfl ?_ | refine st (y_index rfl rfl Tryd.underlying53 sz58 (by omega)) rfl ?_ | refine st (y_indexA rfl rfl Tryd.underlying53 sz58 (by omega)) rfl ?_
                    first | refine st (y_loadM (0) rfl one58 (by assumption) (by first | omega | (simp only [List.length_append, List.length_map, List.length_replicate, List.length_set, List.length_take, List.length_drop]; omega) | (simp; done))) rfl ?_ | refine st (y_load rfl one58 (by assumption)) rfl ?_
                    refine st (y_move rfl) rfl ?_
                    refine st (y_sub_u (a := 64) rfl rfl (by omega) (by omega)) rfl ?_
                    refine st (y_shl rfl rfl) rfl ?_
                    refine st (y_or rfl rfl (by first | omega | assumption | (repeat (first | assumption | omega | decide | exact shl_lt64 _ _ | apply and_lt64 | apply or_lt64 | apply xor_lt64 | apply nt_lt | apply shr_lt64 | apply getD_lt64))) (by first | omega | assumption | (repeat (first | assumption | omega | decide | exact shl_lt64 _ _ | apply and_lt64 | apply or_lt64 | apply xor_lt64 | apply nt_lt | apply shr_lt64 | apply getD_lt64)))) rfl ?_
                    refine st (y_assign rfl) rfl ?_
                    refine l_nil ?_
                    rw [hgs1]
                    exact q_meet _ ⟨rfl, rfl, rfl, rfl, rfl, rfl, rfl, trivial⟩ ⟨rfl, or_lt64 (shr_lt64 _ hsw) (Nat.mod_lt _ (by decide)), fun t ht => src_two s o t ht hz⟩
                  ·
                    refine st (y_pickT rfl rfl) rfl ?_
                    refine l_nil ?_
                    refine q_then ?_
                    refine c_false rfl rfl ?_
                    refine c_region ?_
                    refine st (y_move rfl) rfl ?_
                    refine st (y_move rfl) rfl ?_
                    refine st (y_shr rfl rfl (by first | omega | assumption | (repeat (first | assumption | omega | decide | exact shl_lt64 _ _ | apply and_lt64 | apply or_lt64 | apply xor_lt64 | apply nt_lt | apply shr_lt64 | apply getD_lt64)))) rfl ?_
                    refine st (y_assign rfl) rfl ?_
                    refine l_nil ?_
                    exact q_meet _ ⟨rfl, rfl, rfl, rfl, rfl, rfl, rfl, trivial⟩ ⟨rfl, shr_lt64 _ hsw, fun t ht => src_one s o t ht (.inl (by omega))⟩
                ·
                  refine st (y_move rfl) rfl ?_
                  refine sno rfl rfl rfl rfl ?_
                  refine sno rfl rfl rfl rfl ?_
                  refine st (y_pickF rfl rfl) rfl ?_
                  refine l_nil ?_
                  refine q_then ?_
                  refine c_false rfl rfl ?_
                  refine c_region ?_
                  refine st (y_move rfl) rfl ?_
                  refine st (y_move rfl) rfl ?_
                  refine st (y_shr rfl rfl (by first | omega | assumption | (repeat (first | assumption | omega | decide | exact shl_lt64 _ _ | apply and_lt64 | apply or_lt64 | apply xor_lt64 | apply nt_lt | apply shr_lt64 | apply getD_lt64)))) rfl ?_
                  refine st (y_assign rfl) rfl ?_
                  refine l_nil ?_
                  exact q_meet _ ⟨rfl, rfl, rfl, rfl, rfl, rfl, rfl, trivial⟩ ⟨rfl, shr_lt64 _ hsw, fun t ht => src_one s o t ht (.inr (by omega))⟩
              ·
                rintro src w' ⟨rfl, hsrc, hsb⟩
                have hdr := hK2.trans (Keep.drew w' []) (by simp)
                have hBW2d := hBW2.drew
                have hBs2d := hBs2.drew
                have hBm2d := hBm2.drew
                clear hsts hwds hstm hwdm hstd hwdd
                have hsts := hBs2d.st
                have hwds := hBs2d.wd
                have hstm := hBm2d.st
                have hwdm := hBm2d.wd
                have hstd := hBW2d.st
                have hwdd := hBW2d.wd
                have hkw : k < ws.length := by omega
                have hgd : (ws ++ tld).getD k 0 = ws.getD k 0 := getD_app hkw
                have hxd := getD_lt64 hBW2.lt k
                have hPl := pdepL_length src (wordAt m k) 64
                have hP64 := num_lt64 (l := pdepL src (wordAt m k) 64) (by omega)
                have hnm64 : nt (wordAt m k) < 18446744073709551616 := nt_lt hmw
                refine c_seq ?_
                refine c_tail 31 mixed (by kernel_rfl) ?_
                refine ss (y_move rfl) rfl ?_
                refine ss (y_nil rfl) rfl ?_
                refine ss (fa55_1 rfl) rfl ?_
                refine ss (y_loadb rfl one53 (by assumption) (by rfl)) rfl ?_
                refine ss (y_move rfl) rfl ?_
                refine ss (y_move rfl) rfl ?_
                refine ss (y_nil rfl) rfl ?_
                refine ss (fa55_1 rfl) rfl ?_
                refine ss (y_loadb rfl one53 (by assumption) (by rfl)) rfl ?_
                refine ss (y_move rfl) rfl ?_
                first | refine ss (y_index0 rfl rfl Tryd.underlying53 sz58 (by omega)) rfl ?_ | refine ss (y_index rfl rfl Tryd.underlying53 sz58 (by omega)) rfl ?_ | refine ss (y_indexA rfl rfl Tryd.underlying53 sz58 (by omega)) rfl ?_
                first | refine ss (y_loadM (0) rfl one58 (by assumption) (by first | omega | (simp only [List.length_append, List.length_map, List.length_replicate, List.length_set, List.length_take, List.length_drop]; omega) | (simp; done))) rfl ?_ | refine ss (y_load rfl one58 (by assumption)) rfl ?_
                rw [hgd]
                refine ss (y_move rfl) rfl ?_
                refine ss (y_nil rfl) rfl ?_
                refine ss (fa55_1 rfl) rfl ?_
                refine ss (y_loadb rfl one53 (by assumption) (by rfl)) rfl ?_
                refine ss (y_move rfl) rfl ?_
                first | refine ss (y_index0 rfl rfl Tryd.underlying53 sz58 (by omega)) rfl ?_ | refine ss (y_index rfl rfl Tryd.underlying53 sz58 (by omega)) rfl ?_ | refine ss (y_indexA rfl rfl Tryd.underlying53 sz58 (by omega)) rfl ?_
                first | refine ss (y_loadM (0) rfl one58 (by assumption) (by first | omega | (simp only [List.length_append, List.length_map, List.length_replicate, List.length_set, List.length_take, List.length_drop]; omega) | (simp; done))) rfl ?_ | refine ss (y_load rfl one58 (by assumption)) rfl ?_
                rw [hgm]
                refine ss (y_andNot rfl rfl (by first | omega | assumption | (repeat (first | assumption | omega | decide | exact shl_lt64 _ _ | apply and_lt64 | apply or_lt64 | apply xor_lt64 | apply nt_lt | apply shr_lt64 | apply getD_lt64))) (by first | omega | assumption | (repeat (first | assumption | omega | decide | exact shl_lt64 _ _ | apply and_lt64 | apply or_lt64 | apply xor_lt64 | apply nt_lt | apply shr_lt64 | apply getD_lt64)))) rfl ?_
                refine ss (y_move rfl) rfl ?_
                refine ss (y_move rfl) rfl ?_
                refine ss (y_nil rfl) rfl ?_
                refine ss (fa55_1 rfl) rfl ?_
                refine ss (y_loadb rfl one53 (by assumption) (by rfl)) rfl ?_
                refine ss (y_move rfl) rfl ?_
                first | refine ss (y_index0 rfl rfl Tryd.underlying53 sz58 (by omega)) rfl ?_ | refine ss (y_index rfl rfl Tryd.underlying53 sz58 (by omega)) rfl ?_ | refine ss (y_indexA rfl rfl Tryd.underlying53 sz58 (by omega)) rfl ?_
                first | refine ss (y_loadM (0) rfl one58 (by assumption) (by first | omega | (simp only [List.length_append, List.length_map, List.length_replicate, List.length_set, List.length_take, List.length_drop]; omega) | (simp; done))) rfl ?_ | refine ss (y_load rfl one58 (by assumption)) rfl ?_
                rw [hgm]
                refine ssc rfl rfl isfn38 (c_pdep _ _ hsrc hmw _) rfl ?_
                refine ss (y_or rfl rfl (by first | omega | assumption | (repeat (first | assumption | omega | decide | exact shl_lt64 _ _ | apply and_lt64 | apply or_lt64 | apply xor_lt64 | apply nt_lt | apply shr_lt64 | apply getD_lt64))) (by first | omega | assumption | (repeat (first | assumption | omega | decide | exact shl_lt64 _ _ | apply and_lt64 | apply or_lt64 | apply xor_lt64 | apply nt_lt | apply shr_lt64 | apply getD_lt64)))) rfl ?_
                first | refine ss (y_index0 rfl rfl Tryd.underlying53 sz58 (by omega)) rfl ?_ | refine ss (y_index rfl rfl Tryd.underlying53 sz58 (by omega)) rfl ?_ | refine ss (y_indexA rfl rfl Tryd.underlying53 sz58 (by omega)) rfl ?_
                refine s_nil ?_
                show wpL _ _ _ _ _ _ _ _
                refine st_storeM vU rfl rfl rfl sz58 (by assumption) (by first | omega | (simp only [List.length_append, List.length_map, List.length_replicate, List.length_set, List.length_take, List.length_drop]; omega)) rfl ?_
                intro w4 hw4 hK4 hS4
                have hBW4 := hBW2d.store hw4 hK4 (or_lt64 (and_lt64 _ hxd) hP64) hkw
                have hK14 := hdr.trans hK4 (fun i hi => .inl hi)
                have hBm4 := hBm2d.keep hK4 (by simp; omega) (by simp; omega)
                clear hsts hwds hstm hwdm hstd hwdd
                have hstm := hBm4.st
                have hwdm := hBm4.wd
                refine l_nil ?_
                refine q_then ?_
                refine c_region ?_
                refine st (y_move rfl) rfl ?_
                refine st (y_move rfl) rfl ?_
                refine st (y_nil rfl) rfl ?_
                refine st (fa55_1 rfl) rfl ?_
                refine st (y_loadb rfl one53 (by assumption) (by rfl)) rfl ?_
                refine st (y_move rfl) rfl ?_
                first | refine st (y_index0 rfl rfl Tryd.underlying53 sz58 (by omega)) rfl ?_ | refine st (y_index rfl rfl Tryd.underlying53 sz58 (by omega)) rfl ?_ | refine st (y_indexA rfl rfl Tryd.underlying53 sz58 (by omega)) rfl ?_
                first | refine st (y_loadM (0) rfl one58 (by assumption) (by first | omega | (simp only [List.length_append, List.length_map, List.length_replicate, List.length_set, List.length_take, List.length_drop]; omega) | (simp; done))) rfl ?_ | refine st (y_load rfl one58 (by assumption)) rfl ?_
                rw [hgm]
                refine sc rfl rfl isfn37 (c_OnesCount64 _ hmw _) rfl ?_
                rintro _ _ ⟨rfl, rfl⟩
                refine st (y_conv_iu rfl us3 Tryd.underlying22 rfl (by omega)) rfl ?_
                refine st (y_add_u rfl rfl (by omega)) rfl ?_
                refine st (y_assign rfl) rfl ?_
                refine l_nil ?_
                refine q_block ?_
                refine q_then ?_
                refine c_region ?_
                refine st (y_move rfl) rfl ?_
                first | refine st (y_add_in (b := 1) rfl rfl (by omega)) rfl ?_ | refine st (y_add_i (b := 1) rfl rfl (by omega) (by omega)) rfl ?_
                refine st (y_assign rfl) rfl ?_
                refine l_nil ?_
                refine q_round (k + 1) ⟨rfl, rfl, rfl, ?_, rfl, rfl, trivial⟩ ⟨by omega, hK14, _, hBW4, by simpa using hwl, fun x => ?_⟩ (by omega)
                · rw [hcw]; rfl
                · rw [wbit_set _ _ _ _ hkw]
                  by_cases hx : x / 64 = k
                  · have hz : (ws.getD k 0).testBit (x % 64) = false := by
                      have := hwb x
                      rw [wbit_of, hx] at this
                      rw [this]; simp [show ¬ x < 64 * k by omega]
                    rw [if_pos hx, Nat.testBit_or, Nat.testBit_and, hz, Bool.false_and, Bool.false_or, dep_word (by rw [ho]; exact hsb) hx]
                    simp [show x < 64 * (k + 1) by omega]
                  · have : decide (x < 64 * k) = decide (x < 64 * (k + 1)) := decide_eq_decide.2 (by omega)
                    rw [if_neg hx, hwb, this]
        ·
          have hkK : k = (pack m).length := by omega
          refine l_nil ?_
          refine q_then ?_
          refine c_false rfl rfl ?_
          refine c_exit ?_
          refine q_then_exit ?_
          refine q_then_exit ?_
          refine q_block_hit ?_
          refine q_end0 (.inr rfl) rfl ?_
          refine ⟨_, rfl, rfl, fin _ _ hBW2 hwl fun x hx => ?_, hK2⟩
          rw [hwb, hkK, hlm]; simp [hx]

theorem c_Extract (p q pm qm : Nat) (s m : List Bool) (w : World) (hS : BSet w p q s) (hM : BSet w pm qm m) (hs : s.length ≤ 10000) (hm : m.length ≤ 10000) :
    Cal Tryd.prog 17 [vP p, vP pm] w fun v w' => ∃ pd qd, v = vP pd ∧ w.heap.size ≤ pd ∧ w.heap.size ≤ qd ∧ BSet w' pd qd (exS s m) ∧ Keep w w' [] := by
  have hcm := count_le m
  have h1 := hS.lts
  have h2 := hM.lts
  refine go_in' Tryd.func17 rfl Tryd.ntmps17 (Nat.le_of_ble_eq_true rfl) ?_
  refine c_seq ?_
  refine c_region ?_
  refine st (y_assign rfl) rfl ?_
  refine l_nil ?_
  refine q_then ?_
  refine c_seq ?_
  refine c_region ?_
  refine st (y_move rfl) rfl ?_
  refine sc rfl rfl isfn26 (c_Count pm qm m _ hM (by omega)) rfl ?_
  rintro _ _ ⟨rfl, rfl⟩
  refine sc rfl rfl isfn22 (c_New' (count m) (by omega) _) rfl ?_
  rintro _ w1 ⟨pd, qd, rfl, hp, hq, hD, hK1⟩
  have hS1 := hS.keep hK1 (by simp) (by simp)
  have hM1 := hM.keep hK1 (by simp) (by simp)
  refine st (y_assign rfl) rfl ?_
  refine l_nil ?_
  refine q_then ?_
  refine c_seq ?_
  refine c_region ?_
  refine st (y_move rfl) rfl ?_
  refine st (y_move rfl) rfl ?_
  refine st (y_move rfl) rfl ?_
  refine sc rfl rfl isfn27 (c_ExtractTo p q pm qm pd qd w.heap.size s m _ hS1 hM1 hD ⟨h1.1, h1.2.1, h2.1, h2.2.1, hp, hq⟩ hs hm) rfl ?_
  rintro _ w2 ⟨rfl, hE, hK2⟩
  refine l_nil ?_
  refine q_then ?_
  refine c_seq ?_
  refine c_region ?_
  refine st (y_move rfl) rfl ?_
  refine st (y_assign rfl) rfl ?_
  refine l_nil ?_
  refine q_then ?_
  refine c_ret ?_
  refine q_end1 (.inl rfl) rfl rfl ?_
  exact ⟨_, rfl, pd, qd, rfl, hp, hq, hE, hK1.trans hK2 (fun j hj => by simp only [List.mem_singleton] at hj; subst hj; exact .inr hq)⟩

theorem c_Deposit (p q pm qm : Nat) (s m : List Bool) (w : World) (hS : BSet w p q s) (hM : BSet w pm qm m) (hs : s.length ≤ 10000) (hm : m.length ≤ 10000) :
    Cal Tryd.prog 18 [vP p, vP pm] w fun v w' => ∃ pd qd, v = vP pd ∧ w.heap.size ≤ pd ∧ w.heap.size ≤ qd ∧ BSet w' pd qd (depS s m) ∧ Keep w w' [] := by
  have h1 := hS.lts
  have h2 := hM.lts
  obtain ⟨tlm, hBm⟩ := id hM
  have hstm := hBm.st
  refine go_in' Tryd.func18 rfl Tryd.ntmps18 (Nat.le_of_ble_eq_true rfl) ?_
  refine c_seq ?_
  refine c_region ?_
  refine st (y_assign rfl) rfl ?_
  refine l_nil ?_
  refine q_then ?_
  refine c_seq ?_
  refine c_region ?_
  refine st (y_move rfl) rfl ?_
  refine st (y_nil rfl) rfl ?_
  refine st (fa55_0 rfl) rfl ?_
  refine st (y_loadb rfl one22 (by assumption) (by rfl)) rfl ?_
  refine sc rfl rfl isfn22 (c_New' m.length (by omega) _) rfl ?_
  rintro _ w1 ⟨pd, qd, rfl, hp, hq, hD, hK1⟩
  have hS1 := hS.keep hK1 (by simp) (by simp)
  have hM1 := hM.keep hK1 (by simp) (by simp)
  refine st (y_assign rfl) rfl ?_
  refine l_nil ?_
  refine q_then ?_
  refine c_seq ?_
  refine c_region ?_
  refine st (y_move rfl) rfl ?_
  refine st (y_move rfl) rfl ?_
  refine st (y_move rfl) rfl ?_
  refine sc rfl rfl isfn28 (c_DepositTo p q pm qm pd qd w.heap.size s m _ hS1 hM1 hD ⟨h1.1, h1.2.1, h2.1, h2.2.1, hp, hq⟩ hs hm) rfl ?_
  rintro _ w2 ⟨rfl, hE, hK2⟩
  refine l_nil ?_
  refine q_then ?_
  refine c_seq ?_
  refine c_region ?_
  refine st (y_move rfl) rfl ?_
  refine st (y_assign rfl) rfl ?_
  refine l_nil ?_
  refine q_then ?_
  refine c_ret ?_
  refine q_end1 (.inl rfl) rfl rfl ?_
  exact ⟨_, rfl, pd, qd, rfl, hp, hq, hE, hK1.trans hK2 (fun j hj => by simp only [List.mem_singleton] at hj; subst hj; exact .inr hq)⟩

theorem c_implExtract (L : Nat) (A : Option Addr) (n c : Nat) (xs : List Nat) (M : Nat) (A2 : Option Addr) (n2 c2 : Nat) (ys : List Nat) (w : World) (hT : Tb w) (hR : Rd w A n xs) (hR2 : Rd w A2 n2 ys) (hL : L ≤ 6000) (hx : ∀ x ∈ xs, x ≤ 6000) (hM : M ≤ 6000) (hy : ∀ y ∈ ys, y ≤ 6000) :
    Cal Tryd.prog 10 [aB L A n c, aB M A2 n2 c2] w fun v w' => ∃ t A' c', v = aB t.length A' (nums t).length c' ∧ t = exS (mkS L xs) (mkS M ys) ∧ t.length ≤ 6002 ∧ Ow w' w.heap.size 22 (.slice A' (nums t).length c') ((nums t).map vU) ∧ Keep w w' [] := by
  have hlen : (mkS L xs).length ≤ 6001 := mkS_length_le L 6001 xs (by omega) fun x h => by have := hx x h; omega
  have hlen2 : (mkS M ys).length ≤ 6001 := mkS_length_le M 6001 ys (by omega) fun x h => by have := hy x h; omega
  have hel := exS_length (mkS L xs) (mkS M ys)
  have hcm := count_le (mkS M ys)
  have hT0 := hT.1
  refine go_in' Tryd.func10 rfl Tryd.ntmps10 (Nat.le_of_ble_eq_true rfl) ?_
  refine c_seq ?_
  refine c_region ?_
  refine st_box _ rfl rfl rfl ?_
  intro b1 w1 hb1 hB1 hK1 hS1
  refine st_box _ rfl rfl rfl ?_
  intro b2 w2 hb2 hB2 hK2 hS2
  have hB1 := hB1.keep hK2 (by simp only [List.mem_cons, List.not_mem_nil, or_false, not_or, not_false_eq_true] <;> omega)
  have hK12 := hK1.trans hK2 (by simp)
  refine st_alloc [.int .u64 0, .slice none 0 0] zv25 rfl rfl ?_
  intro b3 w3 hb3 hB3 hK3 hS3
  have hB1 := hB1.keep hK3 (by simp only [List.mem_cons, List.not_mem_nil, or_false, not_or, not_false_eq_true] <;> omega)
  have hB2 := hB2.keep hK3 (by simp only [List.mem_cons, List.not_mem_nil, or_false, not_or, not_false_eq_true] <;> omega)
  have hK13 := hK12.trans hK3 (by simp)
  refine l_nil ?_
  refine q_then ?_
  refine c_seq ?_
  refine c_region ?_
  refine st (y_loadagg rfl agg25 us25 sz25 (by assumption) (by simp) (by rfl)) rfl ?_
  refine sc rfl rfl isfn15 (c_made L A n c xs _ (hR.keep hK13 (by simp)) hL hx) rfl ?_
  rintro _ w4 ⟨p, q, rfl, hp, hq, hS, hK4⟩
  have hB1 := hB1.keep hK4 (by simp only [List.mem_cons, List.not_mem_nil, or_false, not_or, not_false_eq_true] <;> omega)
  have hB2 := hB2.keep hK4 (by simp only [List.mem_cons, List.not_mem_nil, or_false, not_or, not_false_eq_true] <;> omega)
  have hB3 := hB3.keep hK4 (by simp only [List.mem_cons, List.not_mem_nil, or_false, not_or, not_false_eq_true] <;> omega)
  have hK14 := hK13.trans hK4 (by simp)
  refine st (y_move rfl) rfl ?_
  refine st (y_extract rfl rfl) rfl ?_
  refine st (y_extract rfl rfl) rfl ?_
  refine st (y_assign rfl) rfl ?_
  refine st (y_assign rfl) rfl ?_
  refine l_nil ?_
  refine q_then ?_
  refine c_seq ?_
  refine c_region ?_
  refine st (y_loadagg rfl agg25 us25 sz25 (by assumption) (by simp) (by rfl)) rfl ?_
  refine sc rfl rfl isfn15 (c_made M A2 n2 c2 ys _ (hR2.keep hK14 (by simp)) hM hy) rfl ?_
  rintro _ w5 ⟨pm, qm, rfl, hpm, hqm, hSm, hK5⟩
  have hB3 := hB3.keep hK5 (by simp only [List.mem_cons, List.not_mem_nil, or_false, not_or, not_false_eq_true] <;> omega)
  have hK15 := hK14.trans hK5 (by simp)
  have hS' := hS.keep hK5 (by simp) (by simp)
  refine st (y_move rfl) rfl ?_
  refine st (y_extract rfl rfl) rfl ?_
  refine st (y_extract rfl rfl) rfl ?_
  refine st (y_assign rfl) rfl ?_
  refine st (y_assign rfl) rfl ?_
  refine l_nil ?_
  refine q_then ?_
  refine c_seq ?_
  refine c_seq ?_
  refine c_region ?_
  refine st (y_move rfl) rfl ?_
  refine st (y_not rfl) rfl ?_
  refine st (y_move rfl) rfl ?_
  refine stg rfl rfl (y_move rfl) rfl ?_
  refine stg rfl rfl (y_not rfl) rfl ?_
  refine st (y_pickF rfl rfl) rfl ?_
  refine l_nil ?_
  refine q_then ?_
  refine c_false rfl rfl ?_
  refine c_skip ?_
  refine q_then ?_
  refine c_seq ?_
  refine c_region ?_
  refine st (y_move rfl) rfl ?_
  refine st (y_move rfl) rfl ?_
  refine sc rfl rfl isfn17 (c_Extract p q pm qm _ _ _ hS' hSm (by omega) (by omega)) rfl ?_
  rintro _ w6 ⟨pd, qd, rfl, hpd, hqd, hE, hK6⟩
  have hB3 := hB3.keep hK6 (by simp only [List.mem_cons, List.not_mem_nil, or_false, not_or, not_false_eq_true] <;> omega)
  have hK16 := hK15.trans hK6 (by simp)
  refine sc rfl rfl isfn16 (c_told pd qd _ _ (hT.keep hK16 (by simp)) hE (by omega)) rfl ?_
  rintro _ w7 ⟨A7, c7, rfl, hO7, hK7⟩
  have hB3 := hB3.keep hK7 (by simp only [List.mem_cons, List.not_mem_nil, or_false, not_or, not_false_eq_true] <;> omega)
  have hK17 := hK16.trans hK7 (by simp)
  have hsz := hK15.size
  have hsz6 := hK16.size
  have hs36 := (hK4.trans hK5 (by simp)).trans hK6 (by simp)
  have hsz36 := hs36.size
  refine st_storeagg rfl rfl (by simp [Value.oneCell']) sz25 rfl (by assumption) (by simp) rfl ?_
  intro w8 hB8 hK8 hS8
  refine l_nil ?_
  refine q_then ?_
  refine c_ret ?_
  refine q_endc (.inl rfl) rfl rfl agg25 us25 sz25 (by assumption) (by rfl) ?_
  exact ⟨_, rfl, _, A7, c7, rfl, rfl, by omega, (hO7.keep hK8 (fun i hi => by simp only [List.mem_singleton] at hi; left; omega)).base (by omega), hK17.trans hK8 (fun i hi => by simp only [List.mem_singleton] at hi; exact .inr (by omega))⟩

theorem c_implDeposit (L : Nat) (A : Option Addr) (n c : Nat) (xs : List Nat) (M : Nat) (A2 : Option Addr) (n2 c2 : Nat) (ys : List Nat) (w : World) (hT : Tb w) (hR : Rd w A n xs) (hR2 : Rd w A2 n2 ys) (hL : L ≤ 6000) (hx : ∀ x ∈ xs, x ≤ 6000) (hM : M ≤ 6000) (hy : ∀ y ∈ ys, y ≤ 6000) :
    Cal Tryd.prog 11 [aB L A n c, aB M A2 n2 c2] w fun v w' => ∃ t A' c', v = aB t.length A' (nums t).length c' ∧ t = depS (mkS L xs) (mkS M ys) ∧ t.length ≤ 6002 ∧ Ow w' w.heap.size 22 (.slice A' (nums t).length c') ((nums t).map vU) ∧ Keep w w' [] := by
  have hlen : (mkS L xs).length ≤ 6001 := mkS_length_le L 6001 xs (by omega) fun x h => by have := hx x h; omega
  have hlen2 : (mkS M ys).length ≤ 6001 := mkS_length_le M 6001 ys (by omega) fun x h => by have := hy x h; omega
  have hel := depS_length (mkS L xs) (mkS M ys)
  have hT0 := hT.1
  refine go_in' Tryd.func11 rfl Tryd.ntmps11 (Nat.le_of_ble_eq_true rfl) ?_
  refine c_seq ?_
  refine c_region ?_
  refine st_box _ rfl rfl rfl ?_
  intro b1 w1 hb1 hB1 hK1 hS1
  refine st_box _ rfl rfl rfl ?_
  intro b2 w2 hb2 hB2 hK2 hS2
  have hB1 := hB1.keep hK2 (by simp only [List.mem_cons, List.not_mem_nil, or_false, not_or, not_false_eq_true] <;> omega)
  have hK12 := hK1.trans hK2 (by simp)
  refine st_alloc [.int .u64 0, .slice none 0 0] zv25 rfl rfl ?_
  intro b3 w3 hb3 hB3 hK3 hS3
  have hB1 := hB1.keep hK3 (by simp only [List.mem_cons, List.not_mem_nil, or_false, not_or, not_false_eq_true] <;> omega)
  have hB2 := hB2.keep hK3 (by simp only [List.mem_cons, List.not_mem_nil, or_false, not_or, not_false_eq_true] <;> omega)
  have hK13 := hK12.trans hK3 (by simp)
  refine l_nil ?_
  refine q_then ?_
  refine c_seq ?_
  refine c_region ?_
  refine st (y_loadagg rfl agg25 us25 sz25 (by assumption) (by simp) (by rfl)) rfl ?_
  refine sc rfl rfl isfn15 (c_made L A n c xs _ (hR.keep hK13 (by simp)) hL hx) rfl ?_
  rintro _ w4 ⟨p, q, rfl, hp, hq, hS, hK4⟩
  have hB1 := hB1.keep hK4 (by simp only [List.mem_cons, List.not_mem_nil, or_false, not_or, not_false_eq_true] <;> omega)
  have hB2 := hB2.keep hK4 (by simp only [List.mem_cons, List.not_mem_nil, or_false, not_or, not_false_eq_true] <;> omega)
  have hB3 := hB3.keep hK4 (by simp only [List.mem_cons, List.not_mem_nil, or_false, not_or, not_false_eq_true] <;> omega)
  have hK14 := hK13.trans hK4 (by simp)
  refine st (y_move rfl) rfl ?_
  refine st (y_extract rfl rfl) rfl ?_
  refine st (y_extract rfl rfl) rfl ?_
  refine st (y_assign rfl) rfl ?_
  refine st (y_assign rfl) rfl ?_
  refine l_nil ?_
  refine q_then ?_
  refine c_seq ?_
  refine c_region ?_
  refine st (y_loadagg rfl agg25 us25 sz25 (by assumption) (by simp) (by rfl)) rfl ?_
  refine sc rfl rfl isfn15 (c_made M A2 n2 c2 ys _ (hR2.keep hK14 (by simp)) hM hy) rfl ?_
  rintro _ w5 ⟨pm, qm, rfl, hpm, hqm, hSm, hK5⟩
  have hB3 := hB3.keep hK5 (by simp only [List.mem_cons, List.not_mem_nil, or_false, not_or, not_false_eq_true] <;> omega)
  have hK15 := hK14.trans hK5 (by simp)
  have hS' := hS.keep hK5 (by simp) (by simp)
  refine st (y_move rfl) rfl ?_
  refine st (y_extract rfl rfl) rfl ?_
  refine st (y_extract rfl rfl) rfl ?_
  refine st (y_assign rfl) rfl ?_
  refine st (y_assign rfl) rfl ?_
  refine l_nil ?_
  refine q_then ?_
  refine c_seq ?_
  refine c_seq ?_
  refine c_region ?_
  refine st (y_move rfl) rfl ?_
  refine st (y_not rfl) rfl ?_
  refine st (y_move rfl) rfl ?_
  refine stg rfl rfl (y_move rfl) rfl ?_
  refine stg rfl rfl (y_not rfl) rfl ?_
  refine st (y_pickF rfl rfl) rfl ?_
  refine l_nil ?_
  refine q_then ?_
  refine c_false rfl rfl ?_
  refine c_skip ?_
  refine q_then ?_
  refine c_seq ?_
  refine c_region ?_
  refine st (y_move rfl) rfl ?_
  refine st (y_move rfl) rfl ?_
  refine sc rfl rfl isfn18 (c_Deposit p q pm qm _ _ _ hS' hSm (by omega) (by omega)) rfl ?_
  rintro _ w6 ⟨pd, qd, rfl, hpd, hqd, hE, hK6⟩
  have hB3 := hB3.keep hK6 (by simp only [List.mem_cons, List.not_mem_nil, or_false, not_or, not_false_eq_true] <;> omega)
  have hK16 := hK15.trans hK6 (by simp)
  refine sc rfl rfl isfn16 (c_told pd qd _ _ (hT.keep hK16 (by simp)) hE (by omega)) rfl ?_
  rintro _ w7 ⟨A7, c7, rfl, hO7, hK7⟩
  have hB3 := hB3.keep hK7 (by simp only [List.mem_cons, List.not_mem_nil, or_false, not_or, not_false_eq_true] <;> omega)
  have hK17 := hK16.trans hK7 (by simp)
  have hsz := hK15.size
  have hsz6 := hK16.size
  have hs36 := (hK4.trans hK5 (by simp)).trans hK6 (by simp)
  have hsz36 := hs36.size
  refine st_storeagg rfl rfl (by simp [Value.oneCell']) sz25 rfl (by assumption) (by simp) rfl ?_
  intro w8 hB8 hK8 hS8
  refine l_nil ?_
  refine q_then ?_
  refine c_ret ?_
  refine q_endc (.inl rfl) rfl rfl agg25 us25 sz25 (by assumption) (by rfl) ?_
  exact ⟨_, rfl, _, A7, c7, rfl, rfl, by omega, (hO7.keep hK8 (fun i hi => by simp only [List.mem_singleton] at hi; left; omega)).base (by omega), hK17.trans hK8 (fun i hi => by simp only [List.mem_singleton] at hi; exact .inr (by omega))⟩

end Go.Proofs.YthefhfliobjgaaaDoor

/- ExtractTo, DepositTo, Extract, Deposit, each by its contract. -/
import Derived.Test.YthefhfliobjgaaaDoorH1
import Derived.Test.YthefhfliobjgaaaDoorB2
import Derived.Test.YthefhfliobjgaaaDoorC3
import Derived.Test.YthefhfliobjgaaaDoorL19
set_option linter.unusedVariables false
set_option linter.unusedSimpArgs false
set_option maxRecDepth 100000
set_option maxHeartbeats 1000000
namespace Go.Proofs.YthefhfliobjgaaaDoor
open Go Go.RowKit

theorem BW.len0 {w : World} {p q L L' : Nat} {ws tl : List Nat} (h : BW w p q L ws tl) (e : L = L') : BW w p q L' ws tl := e ▸ h

theorem c_ExtractTo (p q pm qm pd qd B : Nat) (s m : List Bool) (w : World) (hS : BSet w p q s) (hM : BSet w pm qm m) (hD : BSet w pd qd (List.replicate (count m) false)) (hb : p < B ∧ q < B ∧ pm < B ∧ qm < B ∧ B ≤ pd ∧ B ≤ qd) (hs : s.length ≤ 10000) (hm : m.length ≤ 10000) :
    Cal Tryd.prog 27 [vP p, vP pm, vP pd] w fun v w' => v = vT [] ∧ BSet w' pd qd (exS s m) ∧ Keep w w' [qd] := by
  obtain ⟨tls, hBs⟩ := hS
  obtain ⟨tlm, hBm⟩ := hM
  obtain ⟨tld, hBd⟩ := hD
  rw [pack_zeros, List.length_replicate] at hBd
  have hsts := hBs.st
  have hwds := hBs.wd
  have hstm := hBm.st
  have hwdm := hBm.wd
  have hstd := hBd.st
  have hls := pack_length s
  have hlm := pack_length m
  have hcm := count_le m
  have hns : nW s.length ≤ 2000 := by unfold nW; omega
  have hnm : nW m.length ≤ 2000 := by unfold nW; omega
  have hel := exS_length s m
  have fin : ∀ (w' : World) (ws : List Nat), BW w' pd qd (count m) ws tld → ws.length = nW (count m) → ∀ k, s.length ≤ 64 * k ∨ m.length ≤ 64 * k → (∀ x, wbit ws x = (exL (fun i => m.getD i false) (fun i => s.getD i false) (64 * k)).getD x false) → BSet w' pd qd (exS s m) := by
    intro w' ws h hl k hk hw
    exact (h.len0 hel.symm).bset (by rw [hel]; exact hl) fun x hx => by rw [hw, exL_end s m _ hk]
  have start : ∀ x, wbit (List.replicate (nW (count m)) 0) x = (exL (fun i => m.getD i false) (fun i => s.getD i false) (64 * 0)).getD x false := fun x => by rw [wbit_zeros]; simp [exL]
  refine go_in' Tryd.func27 rfl Tryd.ntmps27 (Nat.le_of_ble_eq_true rfl) ?_
  refine c_seq ?_
  refine c_region ?_
  refine st (y_move rfl) rfl ?_
  refine sc rfl rfl isfn35 (c_panicIfNull p _) rfl ?_
  rintro _ _ ⟨rfl, rfl⟩
  refine l_nil ?_
  refine q_then ?_
  refine c_seq ?_
  refine c_region ?_
  refine st (y_move rfl) rfl ?_
  refine sc rfl rfl isfn35 (c_panicIfNull pm _) rfl ?_
  rintro _ _ ⟨rfl, rfl⟩
  refine l_nil ?_
  refine q_then ?_
  refine c_seq ?_
  refine c_region ?_
  refine st (y_move rfl) rfl ?_
  refine sc rfl rfl isfn35 (c_panicIfNull pd _) rfl ?_
  rintro _ _ ⟨rfl, rfl⟩
  refine l_nil ?_
  refine q_then ?_
  refine c_seq ?_
  refine c_seq ?_
  refine c_region ?_
  refine st (y_move rfl) rfl ?_
  refine st (y_nil rfl) rfl ?_
  refine st (fa55_1 rfl) rfl ?_
  refine st (y_loadb rfl one53 (by assumption) (by rfl)) rfl ?_
  refine st (y_len rfl Tryd.underlying53) rfl ?_
  refine st_if (y_eq_i (b := 0) rfl rfl) rfl (fun h1 => ?_) (fun h1 => ?_)
  · refine st (y_move rfl) rfl ?_
    refine sno rfl rfl rfl rfl ?_
    refine sno rfl rfl rfl rfl ?_
    refine sno rfl rfl rfl rfl ?_
    refine sno rfl rfl rfl rfl ?_
    refine sno rfl rfl rfl rfl ?_
    refine sno rfl rfl rfl rfl ?_
    refine st (y_pickT rfl rfl) rfl ?_
    refine l_nil ?_
    refine q_then ?_
    refine c_true rfl rfl ?_
    refine c_ret ?_
    refine q_then_ret ?_
    refine q_end0 (.inl rfl) rfl ?_
    exact ⟨_, rfl, rfl, fin _ _ hBd (by simp) 0 (.inr (by unfold nW at hlm; omega)) start, Keep.refl _ _⟩
  ·
    refine st (y_move rfl) rfl ?_
    refine stg rfl rfl (y_move rfl) rfl ?_
    refine stg rfl rfl (y_nil rfl) rfl ?_
    refine stg rfl rfl (fa55_1 rfl) rfl ?_
    refine stg rfl rfl (y_loadb rfl one53 (by assumption) (by rfl)) rfl ?_
    refine stg rfl rfl (y_len rfl Tryd.underlying53) rfl ?_
    refine stg_if rfl rfl (y_eq_i (b := 0) rfl rfl) rfl (fun h2 => ?_) (fun h2 => ?_)
    · refine st (y_pickF rfl rfl) rfl ?_
      refine l_nil ?_
      refine q_then ?_
      refine c_true rfl rfl ?_
      refine c_ret ?_
      refine q_then_ret ?_
      refine q_end0 (.inl rfl) rfl ?_
      exact ⟨_, rfl, rfl, fin _ _ hBd (by simp) 0 (.inl (by unfold nW at hls; omega)) start, Keep.refl _ _⟩
    ·
      refine st (y_pickF rfl rfl) rfl ?_
      refine l_nil ?_
      refine q_then ?_
      refine c_false rfl rfl ?_
      refine c_skip ?_
      refine q_then ?_
      refine c_seq ?_
      refine c_region ?_
      refine st (y_move rfl) rfl ?_
      refine st (y_nil rfl) rfl ?_
      refine st (fa55_1 rfl) rfl ?_
      refine st (y_loadb rfl one53 (by assumption) (by rfl)) rfl ?_
      refine sc rfl rfl isfn34 (c_popcntSlice _ _ _ _ (pack_lt m) (by omega) _ hBm.rd) rfl ?_
      rintro _ _ ⟨rfl, rfl⟩
      rw [psum_pack]
      refine st (y_assign rfl) rfl ?_
      refine l_nil ?_
      refine q_then ?_
      refine c_seq ?_
      refine c_seq ?_
      refine c_region ?_
      refine st (y_move rfl) rfl ?_
      refine st (y_nil rfl) rfl ?_
      refine st (fa55_0 rfl) rfl ?_
      refine st (y_loadb rfl one22 (by assumption) (by rfl)) rfl ?_
      refine st (y_move rfl) rfl ?_
      refine st_f (y_lt_u rfl rfl) (by omega) rfl ?_
      refine l_nil ?_
      refine q_then ?_
      refine c_false rfl rfl ?_
      refine c_skip ?_
      refine q_then ?_
      refine c_seq ?_
      refine c_region ?_
      refine st (y_assign (v := vU 0) rfl) rfl ?_
      refine l_nil ?_
      refine q_then ?_
      refine c_seq ?_
      refine c_region ?_
      refine st (y_move rfl) rfl ?_
      refine st (y_nil rfl) rfl ?_
      refine st (fa55_1 rfl) rfl ?_
      refine st (y_loadb rfl one53 (by assumption) (by rfl)) rfl ?_
      refine st (y_len rfl Tryd.underlying53) rfl ?_
      refine st (y_assign rfl) rfl ?_
      refine l_nil ?_
      refine q_then ?_
      refine c_cut (fun K : Nat => [(0, vP p), (1, vP pm), (2, vP pd), (7, vU 0), (8, vI (K : Nat))]) (fun K w' => w = w' ∧ K = min (pack m).length (pack s).length) ?_ ?_
      · refine c_seq ?_
        refine c_region ?_
        refine st (y_move rfl) rfl ?_
        refine st (y_nil rfl) rfl ?_
        refine st (fa55_1 rfl) rfl ?_
        refine st (y_loadb rfl one53 (by assumption) (by rfl)) rfl ?_
        refine st (y_len rfl Tryd.underlying53) rfl ?_
        refine st (y_move rfl) rfl ?_
        refine st_if (y_lt_i rfl rfl) rfl (fun h3 => ?_) (fun h3 => ?_)
        · refine l_nil ?_
          refine q_then ?_
          refine c_true rfl rfl ?_
          refine c_region ?_
          refine st (y_move rfl) rfl ?_
          refine st (y_nil rfl) rfl ?_
          refine st (fa55_1 rfl) rfl ?_
          refine st (y_loadb rfl one53 (by assumption) (by rfl)) rfl ?_
          refine st (y_len rfl Tryd.underlying53) rfl ?_
          refine st (y_assign rfl) rfl ?_
          refine l_nil ?_
          exact q_meet _ ⟨rfl, rfl, rfl, rfl, rfl, trivial⟩ ⟨rfl, by omega⟩
        ·
          refine l_nil ?_
          refine q_then ?_
          refine c_false rfl rfl ?_
          refine c_skip ?_
          exact q_meet _ ⟨rfl, rfl, rfl, rfl, rfl, trivial⟩ ⟨rfl, by omega⟩
      ·
        rintro K w1 ⟨rfl, hK⟩
        have hKs : K ≤ (pack s).length := by omega
        have hKm : K ≤ (pack m).length := by omega
        have hKend : s.length ≤ 64 * K ∨ m.length ≤ 64 * K := by
          rcases Nat.le_total (pack m).length (pack s).length with h | h
          · right; rw [hK, Nat.min_eq_left h, hlm]; unfold nW; omega
          · left; rw [hK, Nat.min_eq_right h, hls]; unfold nW; omega
        refine c_seq ?_
        refine c_region ?_
        refine st (y_assign (v := vI ((0 : Nat) : Int)) rfl) rfl ?_
        refine l_nil ?_
        refine q_then ?_
        refine c_block ?_
        refine c_loop (fun k : Nat => [(0, vP p), (1, vP pm), (2, vP pd), (7, vU (cnt (fun i => m.getD i false) (64 * k))), (8, vI (K : Nat)), (9, vI (k : Nat))]) (fun k w' => k ≤ K ∧ Keep w w' [qd] ∧ ∃ ws, BW w' pd qd (count m) ws tld ∧ ws.length = nW (count m) ∧ ∀ x, wbit ws x = (exL (fun i => m.getD i false) (fun i => s.getD i false) (64 * k)).getD x false) (fun k => K - k) 0 ?_ ?_ ?_
        · exact ⟨rfl, rfl, rfl, rfl, rfl, rfl, trivial⟩
        · exact ⟨Nat.zero_le _, Keep.refl _ _, _, hBd, by simp, start⟩
        · rintro k w2 ⟨hk, hK2, ws, hBW2, hwl, hwb⟩
          clear hsts hwds hstm hwdm hstd
          have hBs2 := hBs.keep hK2 (by simp; omega) (by simp; omega)
          have hBm2 := hBm.keep hK2 (by simp; omega) (by simp; omega)
          have hsts := hBs2.st
          have hwds := hBs2.wd
          have hstm := hBm2.st
          have hwdm := hBm2.wd
          have hstd := hBW2.st
          have hwdd := hBW2.wd
          have hof := count_full m (64 * k)
          have hof1 := count_full m (64 * (k + 1))
          have hcw := cnt_word m k
          have hel1 := exL_length (fun i => m.getD i false) (fun i => s.getD i false) (64 * k)
          refine c_seq ?_
          refine c_seq ?_
          refine c_region ?_
          refine st (y_move rfl) rfl ?_
          refine st (y_move rfl) rfl ?_
          refine st_if (y_lt_i rfl rfl) rfl (fun hlt => ?_) (fun hlt => ?_)
          · have hgm : (pack m ++ tlm).getD k 0 = wordAt m k := by rw [getD_app (by omega), pack_getD]
            have hgs : (pack s ++ tls).getD k 0 = wordAt s k := by rw [getD_app (by omega), pack_getD]
            have hmw := wordAt_lt m k
            have hsw := wordAt_lt s k
            refine l_nil ?_
            refine q_then ?_
            refine c_true rfl rfl ?_
            refine c_skip ?_
            refine q_then ?_
            refine c_seq ?_
            refine c_block ?_
            refine c_seq ?_
            refine c_seq ?_
            refine c_region ?_
            refine st (y_move rfl) rfl ?_
            refine st (y_nil rfl) rfl ?_
            refine st (fa55_1 rfl) rfl ?_
            refine st (y_loadb rfl one53 (by assumption) (by rfl)) rfl ?_
            refine st (y_move rfl) rfl ?_
            first | refine st (y_index0 rfl rfl Tryd.underlying53 sz58 (by omega)) rfl ?_ | refine st (y_index rfl rfl Tryd.underlying53 sz58 (by omega)) rfl ?_ | refine st (y_indexA rfl rfl Tryd.underlying53 sz58 (by omega)) rfl ?_
            first | refine st (y_loadM (0) rfl one58 (by assumption) (by first | omega | (simp only [List.length_append, List.length_map, List.length_replicate, List.length_set, List.length_take, List.length_drop]; omega) | (simp; done))) rfl ?_ | refine st (y_load rfl one58 (by assumption)) rfl ?_
            rw [hgm]
            refine st_if (y_eq_u (b := 0) rfl rfl) rfl (fun h0 => ?_) (fun h0 => ?_)
            · have hp0 : popc (wordAt m k) = 0 := by rw [h0, popc_zero]
              refine l_nil ?_
              refine q_then ?_
              refine c_true rfl rfl ?_
              refine c_exit ?_
              refine q_then_exit ?_
              refine q_block_hit ?_
              refine q_then ?_
              refine c_region ?_
              refine st (y_move rfl) rfl ?_
              first | refine st (y_add_in (b := 1) rfl rfl (by omega)) rfl ?_ | refine st (y_add_i (b := 1) rfl rfl (by omega) (by omega)) rfl ?_
              refine st (y_assign rfl) rfl ?_
              refine l_nil ?_
              refine q_round (k + 1) ⟨rfl, rfl, rfl, ?_, rfl, rfl, trivial⟩ ⟨by omega, hK2, ws, hBW2, hwl, fun x => ?_⟩ (by omega)
              · rw [hcw, hp0, Nat.add_zero]; rfl
              · have e : exL (wordAt m k).testBit (wordAt s k).testBit 64 = [] := exL_false fun i _ => by rw [h0]; simp
                rw [exL_word, e, List.append_nil]; exact hwb x
            ·
              have hp1 := popc_pos hmw (by omega)
              have hp64 := popc_le (wordAt m k)
              have hEl := exL_length (wordAt m k).testBit (wordAt s k).testBit 64
              have hE := num_lt (exL (wordAt m k).testBit (wordAt s k).testBit 64)
              have hE64 := num_lt64 (l := exL (wordAt m k).testBit (wordAt s k).testBit 64) (by rw [hEl]; exact cnt_le _ _)
              rw [hEl] at hE
              have hEv : ∀ j, (num (exL (wordAt m k).testBit (wordAt s k).testBit 64)).testBit j = (exL (wordAt m k).testBit (wordAt s k).testBit 64).getD j false := num_testBit _
              have hdr := hK2.trans (Keep.drew w2 []) (by simp)
              have hBW2d := hBW2.drew
              have hBs2d := hBs2.drew
              have hBm2d := hBm2.drew
              obtain ⟨w3, hw3⟩ : ∃ w3, w2.drew = w3 := ⟨_, rfl⟩
              refine l_nil ?_
              refine q_then ?_
              refine c_false rfl rfl ?_
              refine c_skip ?_
              refine q_then ?_
              refine c_seq ?_
              refine c_still mixed (by kernel_rfl) ?_
              clear hsts hwds hstm hwdm hstd hwdd
              have hsts := hBs2d.st
              have hwds := hBs2d.wd
              have hstm := hBm2d.st
              have hwdm := hBm2d.wd
              have hstd := hBW2d.st
              have hwdd := hBW2d.wd
              refine ss (y_move rfl) rfl ?_
              refine ss (y_nil rfl) rfl ?_
              refine ss (fa55_1 rfl) rfl ?_
              refine ss (y_loadb rfl one53 (by assumption) (by rfl)) rfl ?_
              refine ss (y_move rfl) rfl ?_
              first | refine ss (y_index0 rfl rfl Tryd.underlying53 sz58 (by omega)) rfl ?_ | refine ss (y_index rfl rfl Tryd.underlying53 sz58 (by omega)) rfl ?_ | refine ss (y_indexA rfl rfl Tryd.underlying53 sz58 (by omega)) rfl ?_
              first | refine ss (y_loadM (0) rfl one58 (by assumption) (by first | omega | (simp only [List.length_append, List.length_map, List.length_replicate, List.length_set, List.length_take, List.length_drop]; omega) | (simp; done))) rfl ?_ | refine ss (y_load rfl one58 (by assumption)) rfl ?_
              rw [hgs]
              refine ss (y_move rfl) rfl ?_
              refine ss (y_nil rfl) rfl ?_
              refine ss (fa55_1 rfl) rfl ?_
              refine ss (y_loadb rfl one53 (by assumption) (by rfl)) rfl ?_
              refine ss (y_move rfl) rfl ?_
              first | refine ss (y_index0 rfl rfl Tryd.underlying53 sz58 (by omega)) rfl ?_ | refine ss (y_index rfl rfl Tryd.underlying53 sz58 (by omega)) rfl ?_ | refine ss (y_indexA rfl rfl Tryd.underlying53 sz58 (by omega)) rfl ?_
              first | refine ss (y_loadM (0) rfl one58 (by assumption) (by first | omega | (simp only [List.length_append, List.length_map, List.length_replicate, List.length_set, List.length_take, List.length_drop]; omega) | (simp; done))) rfl ?_ | refine ss (y_load rfl one58 (by assumption)) rfl ?_
              rw [hgm]
              refine ssc rfl rfl isfn36 (c_pext _ _ hsw hmw _) rfl ?_
              refine ss (y_assign rfl) rfl ?_
              refine s_nil ?_
              refine q_then ?_
              refine c_seq ?_
              refine c_region ?_
              refine st (y_move rfl) rfl ?_
              refine st (y_nil rfl) rfl ?_
              refine st (fa55_1 rfl) rfl ?_
              refine st (y_loadb rfl one53 (by assumption) (by rfl)) rfl ?_
              refine st (y_move rfl) rfl ?_
              first | refine st (y_index0 rfl rfl Tryd.underlying53 sz58 (by omega)) rfl ?_ | refine st (y_index rfl rfl Tryd.underlying53 sz58 (by omega)) rfl ?_ | refine st (y_indexA rfl rfl Tryd.underlying53 sz58 (by omega)) rfl ?_
              first | refine st (y_loadM (0) rfl one58 (by assumption) (by first | omega | (simp only [List.length_append, List.length_map, List.length_replicate, List.length_set, List.length_take, List.length_drop]; omega) | (simp; done))) rfl ?_ | refine st (y_load rfl one58 (by assumption)) rfl ?_
              rw [hgm]
              refine sc rfl rfl isfn37 (c_OnesCount64 _ hmw _) rfl ?_
              rintro _ _ ⟨rfl, rfl⟩
              obtain ⟨o, ho⟩ : ∃ o, cnt (fun i => m.getD i false) (64 * k) = o := ⟨_, rfl⟩
              obtain ⟨c, hc⟩ : ∃ c, popc (wordAt m k) = c := ⟨_, rfl⟩
              obtain ⟨E, hEe⟩ : ∃ E, num (exL (wordAt m k).testBit (wordAt s k).testBit 64) = E := ⟨_, rfl⟩
              have hcc : cnt (wordAt m k).testBit 64 = c := hc
              rw [hcc] at hE
              rw [ho, hc] at hcw
              rw [hEe] at hE hE64 hEv
              rw [ho] at hof hel1 ⊢
              rw [hc] at hp1 hp64 ⊢
              rw [hEe]
              have hmo := and63 o
              have hdo := shr6 o
              have hwi : o / 64 < nW (count m) := by unfold nW; omega
              refine st (y_conv_iu rfl us3 Tryd.underlying22 rfl (by omega)) rfl ?_
              refine st (y_assign rfl) rfl ?_
              refine l_nil ?_
              refine q_then ?_
              refine c_seq ?_
              refine c_region ?_
              refine st (y_move rfl) rfl ?_
              refine st (y_shr (k := 6) rfl rfl (by first | omega | assumption | (repeat (first | assumption | omega | decide | exact shl_lt64 _ _ | apply and_lt64 | apply or_lt64 | apply xor_lt64 | apply nt_lt | apply shr_lt64 | apply getD_lt64)))) rfl ?_
              refine st (y_assign rfl) rfl ?_
              refine l_nil ?_
              refine q_then ?_
              refine c_seq ?_
              refine c_region ?_
              refine st (y_move rfl) rfl ?_
              refine st (y_and (b := 63) rfl rfl (by first | omega | assumption | (repeat (first | assumption | omega | decide | exact shl_lt64 _ _ | apply and_lt64 | apply or_lt64 | apply xor_lt64 | apply nt_lt | apply shr_lt64 | apply getD_lt64))) (by first | omega | assumption | (repeat (first | assumption | omega | decide | exact shl_lt64 _ _ | apply and_lt64 | apply or_lt64 | apply xor_lt64 | apply nt_lt | apply shr_lt64 | apply getD_lt64)))) rfl ?_
              refine st (y_assign rfl) rfl ?_
              refine l_nil ?_
              refine q_then ?_
              rw [hdo, hmo]
              have hgd : (ws ++ tld).getD (o / 64) 0 = ws.getD (o / 64) 0 := getD_app (by omega)
              have hxd := getD_lt64 hBW2.lt (o / 64)
              have hsh : (E <<< (o % 64)) % 18446744073709551616 < 18446744073709551616 := Nat.mod_lt _ (by decide)
              have hstd2 := hBW2d.st
              have hwdd2 := hBW2d.wd
              refine c_seq ?_
              refine c_region ?_
              refine st (y_move rfl) rfl ?_
              refine st (y_nil rfl) rfl ?_
              refine st (fa55_1 rfl) rfl ?_
              refine st (y_loadb rfl one53 (by assumption) (by rfl)) rfl ?_
              refine st (y_move rfl) rfl ?_
              first | refine st (y_index0 rfl rfl Tryd.underlying53 sz58 (by omega)) rfl ?_ | refine st (y_index rfl rfl Tryd.underlying53 sz58 (by omega)) rfl ?_ | refine st (y_indexA rfl rfl Tryd.underlying53 sz58 (by omega)) rfl ?_
              first | refine st (y_loadM (0) rfl one58 (by assumption) (by first | omega | (simp only [List.length_append, List.length_map, List.length_replicate, List.length_set, List.length_take, List.length_drop]; omega) | (simp; done))) rfl ?_ | refine st (y_load rfl one58 (by assumption)) rfl ?_
              rw [hgd]
              refine st (y_move rfl) rfl ?_
              refine st (y_move rfl) rfl ?_
              refine st (y_shl rfl rfl) rfl ?_
              refine st (y_or rfl rfl (by first | omega | assumption | (repeat (first | assumption | omega | decide | exact shl_lt64 _ _ | apply and_lt64 | apply or_lt64 | apply xor_lt64 | apply nt_lt | apply shr_lt64 | apply getD_lt64))) (by first | omega | assumption | (repeat (first | assumption | omega | decide | exact shl_lt64 _ _ | apply and_lt64 | apply or_lt64 | apply xor_lt64 | apply nt_lt | apply shr_lt64 | apply getD_lt64)))) rfl ?_
              first | refine st (y_index0 rfl rfl Tryd.underlying53 sz58 (by omega)) rfl ?_ | refine st (y_index rfl rfl Tryd.underlying53 sz58 (by omega)) rfl ?_ | refine st (y_indexA rfl rfl Tryd.underlying53 sz58 (by omega)) rfl ?_
              refine st_storeM vU rfl rfl rfl sz58 (by assumption) (by first | omega | (simp only [List.length_append, List.length_map, List.length_replicate, List.length_set, List.length_take, List.length_drop]; omega)) rfl ?_
              intro w4 hw4 hK4 hS4
              have hBW4 := hBW2d.store hw4 hK4 (or_lt64 hxd hsh) (by omega)
              have hK14 := hdr.trans hK4 (fun i hi => .inl hi)
              have step : ∀ ws', (∀ x, wbit ws' x = (wbit ws x || (decide (o ≤ x) && E.testBit (x - o)))) → ∀ x, wbit ws' x = (exL (fun i => m.getD i false) (fun i => s.getD i false) (64 * (k + 1))).getD x false := by
                intro ws' h x
                rw [h, exL_word, app_getD, hel1, hEv, hwb]
              refine l_nil ?_
              refine q_then ?_
              refine c_seq ?_
              refine c_seq ?_
              refine c_region ?_
              refine st (y_move rfl) rfl ?_
              refine st (y_move rfl) rfl ?_
              refine st (y_add_u rfl rfl (by omega)) rfl ?_
              refine st_if (y_gt_u (b := 64) rfl rfl) rfl (fun h64 => ?_) (fun h64 => ?_)
              · have hwi2 : o / 64 + 1 < ws.length := by rw [hwl]; unfold nW; omega
                have hstd4 := hBW4.st
                have hwdd4 := hBW4.wd
                rw [List.length_set] at hstd4
                refine l_nil ?_
                refine q_then ?_
                refine c_true rfl rfl ?_
                refine c_region ?_
                refine st (y_move rfl) rfl ?_
                refine st (y_nil rfl) rfl ?_
                refine st (fa55_1 rfl) rfl ?_
                refine st (y_loadb rfl one53 (by assumption) (by rfl)) rfl ?_
                refine st (y_move rfl) rfl ?_
                refine st (y_add_u (b := 1) rfl rfl (by omega)) rfl ?_
                refine st (y_move rfl) rfl ?_
                refine st (y_move rfl) rfl ?_
                refine st (y_sub_u (a := 64) rfl rfl (by omega) (by omega)) rfl ?_
                refine st (y_shr rfl rfl (by first | omega | assumption | (repeat (first | assumption | omega | decide | exact shl_lt64 _ _ | apply and_lt64 | apply or_lt64 | apply xor_lt64 | apply nt_lt | apply shr_lt64 | apply getD_lt64)))) rfl ?_
                first | refine st (y_index0 rfl rfl Tryd.underlying53 sz58 (by omega)) rfl ?_ | refine st (y_index rfl rfl Tryd.underlying53 sz58 (by omega)) rfl ?_ | refine st (y_indexA rfl rfl Tryd.underlying53 sz58 (by omega)) rfl ?_
                refine st_storeM vU rfl rfl rfl sz58 (by assumption) (by first | omega | (simp only [List.length_append, List.length_map, List.length_replicate, List.length_set, List.length_take, List.length_drop]; omega)) rfl ?_
                intro w5 hw5 hK5 hS5
                have hBW5 := hBW4.store hw5 hK5 (shr_lt64 _ hE64) (by simpa using hwi2)
                refine l_nil ?_
                refine q_then ?_
                refine c_region ?_
                refine st (y_move rfl) rfl ?_
                refine st (y_move rfl) rfl ?_
                refine st (y_add_u rfl rfl (by omega)) rfl ?_
                refine st (y_assign rfl) rfl ?_
                refine l_nil ?_
                refine q_block ?_
                refine q_then ?_
                refine c_region ?_
                refine st (y_move rfl) rfl ?_
                first | refine st (y_add_in (b := 1) rfl rfl (by omega)) rfl ?_ | refine st (y_add_i (b := 1) rfl rfl (by omega) (by omega)) rfl ?_
                refine st (y_assign rfl) rfl ?_
                refine l_nil ?_
                refine q_round (k + 1) ⟨rfl, rfl, rfl, ?_, rfl, rfl, trivial⟩ ⟨by omega, hK14.trans hK5 (fun i hi => .inl hi), _, hBW5, by simpa using hwl, step _ fun x => ?_⟩ (by omega)
                · rw [hcw]; rfl
                · exact put_two hE hp64 h64 (fun y hy => by rw [hwb]; exact getD_ge _ _ (by omega)) hwi2 x
              ·
                refine l_nil ?_
                refine q_then ?_
                refine c_false rfl rfl ?_
                refine c_skip ?_
                refine q_then ?_
                refine c_region ?_
                refine st (y_move rfl) rfl ?_
                refine st (y_move rfl) rfl ?_
                refine st (y_add_u rfl rfl (by omega)) rfl ?_
                refine st (y_assign rfl) rfl ?_
                refine l_nil ?_
                refine q_block ?_
                refine q_then ?_
                refine c_region ?_
                refine st (y_move rfl) rfl ?_
                first | refine st (y_add_in (b := 1) rfl rfl (by omega)) rfl ?_ | refine st (y_add_i (b := 1) rfl rfl (by omega) (by omega)) rfl ?_
                refine st (y_assign rfl) rfl ?_
                refine l_nil ?_
                refine q_round (k + 1) ⟨rfl, rfl, rfl, ?_, rfl, rfl, trivial⟩ ⟨by omega, hK14, _, hBW4, by simpa using hwl, step _ fun x => ?_⟩ (by omega)
                · rw [hcw]; rfl
                · exact put_one hE (by omega) (by omega) x
          ·
            have hkK : k = K := by omega
            subst hkK
            refine l_nil ?_
            refine q_then ?_
            refine c_false rfl rfl ?_
            refine c_exit ?_
            refine q_then_exit ?_
            refine q_then_exit ?_
            refine q_block_hit ?_
            refine q_end0 (.inr rfl) rfl ?_
            exact ⟨_, rfl, rfl, fin _ _ hBW2 hwl k hKend hwb, hK2⟩

end Go.Proofs.YthefhfliobjgaaaDoor

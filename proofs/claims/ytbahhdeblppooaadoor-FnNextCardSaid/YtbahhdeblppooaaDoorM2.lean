/- NextClear, PreviousSet, PreviousClear, each by its contract. -/
import Derived.Test.YtbahhdeblppooaaDoorM1
import Derived.Test.YtbahhdeblppooaaDoorB2
import Derived.Test.YtbahhdeblppooaaDoorT1
import Derived.Test.YtbahhdeblppooaaDoorL22
set_option linter.unusedVariables false
set_option linter.unusedSimpArgs false
set_option maxRecDepth 100000
set_option maxHeartbeats 1000000
namespace Go.Proofs.YtbahhdeblppooaaDoor
open Go Go.RowKit

theorem c_NextClear (p q : Nat) (s : List Bool) (i : Nat) (w : World) (hT : Tb w) (hB : BSet w p q s) (hi : i < s.length) (hs : s.length ≤ 100001) :
    Cal Tryd.prog 24 [vP p, vU i] w fun v w' => Keep w w' [] ∧ ((∃ x, v = vT [vU x, vB true] ∧ Nxt (bnots s) i x) ∨ (v = vT [vU 0, vB false] ∧ Non (bnots s) i)) := by
  obtain ⟨tl, hB⟩ := hB
  have hst := hB.st
  have hwd := hB.wd
  have hlen := pack_length s
  have hmod : i &&& 63 = i % 64 := and63 i
  have hdiv := shr6 i
  have hb6 := bit64 i
  have hn : (pack s).length ≤ 2000 := by rw [pack_length]; unfold nW; omega
  have hk : i / 64 < (pack s).length := by rw [hlen]; unfold nW; omega
  have hg : (pack s ++ tl).getD (i / 64) 0 = wordAt s (i / 64) := by rw [getD_app hk, pack_getD]
  have hl1 := wordAt_lt s (i / 64)
  refine go_in' Tryd.func24 rfl Tryd.ntmps24 (Nat.le_of_ble_eq_true rfl) ?_
  refine c_seq ?_
  refine c_region ?_
  refine st (y_assign (v := vU 0) rfl) rfl ?_
  refine st (y_assign rfl) rfl ?_
  refine l_nil ?_
  refine q_then ?_
  refine c_seq ?_
  refine c_seq ?_
  refine c_region ?_
  refine st (y_move rfl) rfl ?_
  refine st (y_move rfl) rfl ?_
  refine st (y_nil rfl) rfl ?_
  refine st (fa66_0 rfl) rfl ?_
  refine st (y_loadb rfl one22 (by assumption) (by rfl)) rfl ?_
  refine st_f (y_ge_u rfl rfl) (by omega) rfl ?_
  refine l_nil ?_
  refine q_then ?_
  refine c_false rfl rfl ?_
  refine c_skip ?_
  refine q_then ?_
  refine c_seq ?_
  refine c_region ?_
  refine st (y_move rfl) rfl ?_
  refine st (y_shr (k := 6) rfl rfl (by first | omega | assumption | (repeat (first | assumption | omega | decide | exact shl_lt64 _ _ | apply and_lt64 | apply or_lt64 | apply xor_lt64 | apply nt_lt | apply shr_lt64 | apply getD_lt64)))) rfl ?_
  rw [hdiv]
  refine st (y_conv_ui rfl us22 Tryd.underlying3 (by omega)) rfl ?_
  refine st (y_assign rfl) rfl ?_
  refine l_nil ?_
  refine q_then ?_
  refine c_seq ?_
  refine c_seq ?_
  refine c_region ?_
  refine st (y_move rfl) rfl ?_
  refine st (y_move rfl) rfl ?_
  refine st (y_nil rfl) rfl ?_
  refine st (fa66_1 rfl) rfl ?_
  refine st (y_loadb rfl one64 (by assumption) (by rfl)) rfl ?_
  refine st (y_len rfl Tryd.underlying64) rfl ?_
  refine st_f (y_ge_i rfl rfl) (by omega) rfl ?_
  refine l_nil ?_
  refine q_then ?_
  refine c_false rfl rfl ?_
  refine c_skip ?_
  refine q_then ?_
  refine c_seq ?_
  refine c_region ?_
  refine st (y_move rfl) rfl ?_
  refine st (y_nil rfl) rfl ?_
  refine st (fa66_1 rfl) rfl ?_
  refine st (y_loadb rfl one64 (by assumption) (by rfl)) rfl ?_
  refine st (y_move rfl) rfl ?_
  first | refine st (y_index0 rfl rfl Tryd.underlying64 sz67 (by omega)) rfl ?_ | refine st (y_index rfl rfl Tryd.underlying64 sz67 (by omega)) rfl ?_ | refine st (y_indexA rfl rfl Tryd.underlying64 sz67 (by omega)) rfl ?_
  first | refine st (y_loadM (0) rfl one67 (by assumption) (by first | omega | (simp only [List.length_append, List.length_map, List.length_replicate, List.length_set, List.length_take, List.length_drop]; omega) | (simp; done))) rfl ?_ | refine st (y_load rfl one67 (by assumption)) rfl ?_
  rw [hg]
  refine st (y_assign rfl) rfl ?_
  refine l_nil ?_
  refine q_then ?_
  refine c_seq ?_
  refine c_region ?_
  refine st (y_move rfl) rfl ?_
  refine st (y_move rfl) rfl ?_
  refine sc rfl rfl isfn40 (c_wordsIndex _ (by omega) _) rfl ?_
  rintro _ _ ⟨rfl, rfl⟩
  rw [hmod]
  refine st (y_shr rfl rfl (by first | omega | assumption | (repeat (first | assumption | omega | decide | exact shl_lt64 _ _ | apply and_lt64 | apply or_lt64 | apply xor_lt64 | apply nt_lt | apply shr_lt64 | apply getD_lt64)))) rfl ?_
  refine st (y_assign rfl) rfl ?_
  refine l_nil ?_
  refine q_then ?_
  refine c_seq ?_
  refine c_region ?_
  refine st (y_move rfl) rfl ?_
  refine sc rfl rfl isfn40 (c_wordsIndex _ (by omega) _) rfl ?_
  rintro _ _ ⟨rfl, rfl⟩
  rw [hmod]
  obtain ⟨x, hx⟩ : ∃ x, wordAt s (i / 64) >>> (i % 64) = x := ⟨_, rfl⟩
  obtain ⟨y, hy⟩ : ∃ y, 18446744073709551615 >>> (i % 64) = y := ⟨_, rfl⟩
  have hx64 : x < 18446744073709551616 := by rw [← hx]; exact shr_lt64 _ hl1
  have hy64 : y < 18446744073709551616 := by rw [← hy]; exact ones_shr_lt _
  have hcw := clr_word (s := s) (B := i) (m := 64 - i % 64) (x := x) (y := y) (by omega) hx64 (fun t ht => by
      rw [← hx, testBit_shr, wordAt_testBit, show 64 * (i / 64) + (i % 64 + t) = i + t by omega]
      have e : decide (i % 64 + t < 64) = decide (t < 64 - i % 64) := decide_eq_decide.2 (by omega)
      rw [e]) hy64 (fun t ht => by rw [← hy, ones_shr _ _ (by omega)])
  have hz := tz_le (nt' x) (nt_lt64 hx64)
  have hnx := nt_lt64 hx64
  refine st (y_shr (a := 18446744073709551615) rfl rfl (by omega)) rfl ?_
  rw [hx, hy]
  refine st (y_assign rfl) rfl ?_
  refine l_nil ?_
  refine q_then ?_
  refine c_seq ?_
  refine c_region ?_
  refine st (y_move rfl) rfl ?_
  refine st (y_move rfl) rfl ?_
  refine st (y_compl rfl (by first | omega | assumption | (repeat (first | assumption | omega | decide | exact shl_lt64 _ _ | apply and_lt64 | apply or_lt64 | apply xor_lt64 | apply nt_lt | apply shr_lt64 | apply getD_lt64)))) rfl ?_
  rw [show nt x = nt' x from rfl]
  refine sc rfl rfl isfn41 (c_TrailingZeros64 _ hnx _ hT) rfl ?_
  rintro _ _ ⟨rfl, rfl⟩
  refine st (y_conv_iu rfl us3 Tryd.underlying22 rfl (by omega)) rfl ?_
  refine st (y_add_u rfl rfl (by omega)) rfl ?_
  refine st (y_assign rfl) rfl ?_
  refine l_nil ?_
  refine q_then ?_
  refine c_cut (fun _ : Unit => [(0, vP p), (6, vI ((i / 64 : Nat) : Int))]) (fun _ w' => w = w' ∧ (x = y ∨ s.length ≤ i + tz (nt' x))) ?_ ?_
  · refine c_seq ?_
    refine c_region ?_
    refine st (y_move rfl) rfl ?_
    refine st (y_move rfl) rfl ?_
    refine st_if (y_ne_u rfl rfl) rfl (fun h1 => ?_) (fun h1 => ?_)
    · refine st (y_move rfl) rfl ?_
      refine stg rfl rfl (y_move rfl) rfl ?_
      refine stg rfl rfl (y_move rfl) rfl ?_
      refine stg rfl rfl (y_nil rfl) rfl ?_
      refine stg rfl rfl (fa66_0 rfl) rfl ?_
      refine stg rfl rfl (y_loadb rfl one22 (by assumption) (by rfl)) rfl ?_
      refine stg_if rfl rfl (y_lt_u rfl rfl) rfl (fun h2 => ?_) (fun h2 => ?_)
      · refine st (y_pickT rfl rfl) rfl ?_
        refine l_nil ?_
        refine q_then ?_
        refine c_true rfl rfl ?_
        refine c_seq ?_
        refine c_region ?_
        refine st (y_move rfl) rfl ?_
        refine st (y_assign rfl) rfl ?_
        refine st (y_assign rfl) rfl ?_
        refine l_nil ?_
        refine q_then ?_
        refine c_ret ?_
        refine q_then_ret ?_
        refine q_end2 (.inl rfl) rfl rfl rfl ?_
        exact ⟨_, rfl, Keep.refl _ _, .inl ⟨_, rfl, hcw.1 h1 h2⟩⟩
      ·
        refine st (y_pickT rfl rfl) rfl ?_
        refine l_nil ?_
        refine q_then ?_
        refine c_false rfl rfl ?_
        refine c_skip ?_
        exact q_meet () ⟨rfl, rfl, trivial⟩ ⟨rfl, .inr (by omega)⟩
    ·
      refine st (y_move rfl) rfl ?_
      refine sno rfl rfl rfl rfl ?_
      refine sno rfl rfl rfl rfl ?_
      refine sno rfl rfl rfl rfl ?_
      refine sno rfl rfl rfl rfl ?_
      refine sno rfl rfl rfl rfl ?_
      refine sno rfl rfl rfl rfl ?_
      refine st (y_pickF rfl rfl) rfl ?_
      refine l_nil ?_
      refine q_then ?_
      refine c_false rfl rfl ?_
      refine c_skip ?_
      exact q_meet () ⟨rfl, rfl, trivial⟩ ⟨rfl, .inl (by omega)⟩
  ·
    rintro _ w1 ⟨rfl, hc⟩
    have hno := hcw.2 hc
    refine c_seq ?_
    refine c_region ?_
    refine st (y_move rfl) rfl ?_
    first | refine st (y_add_in (b := 1) rfl rfl (by omega)) rfl ?_ | refine st (y_add_i (b := 1) rfl rfl (by omega) (by omega)) rfl ?_
    refine st (y_assign rfl) rfl ?_
    refine l_nil ?_
    refine q_then ?_
    refine c_seq ?_
    refine c_seq ?_
    refine c_region ?_
    refine st (y_move rfl) rfl ?_
    refine st (y_nil rfl) rfl ?_
    refine st (fa66_1 rfl) rfl ?_
    refine st (y_loadb rfl one64 (by assumption) (by rfl)) rfl ?_
    refine st (y_move rfl) rfl ?_
    refine st (y_slice_l rfl rfl Tryd.underlying64 sz67 (by omega)) rfl ?_
    obtain ⟨As, hAs⟩ : ∃ As, some (if (pack s).length + tl.length = i / 64 + 1 then (⟨q, 0, none⟩ : Addr) else ⟨q, 0 + (i / 64 + 1), none⟩) = As := ⟨_, rfl⟩
    have hRd := hB.rds (l := i / 64 + 1) (by omega)
    rw [hAs] at hRd ⊢
    refine st (y_len rfl Tryd.underlying64) rfl ?_
    refine st (y_move (v := vI ((0 : Nat) : Int)) rfl) rfl ?_
    refine l_nil ?_
    refine q_then ?_
    refine c_block ?_
    refine c_loop (fun k : Nat => [(0, vP p), (6, vI ((i / 64 + 1 : Nat) : Int)), (67, .slice As ((pack s).length - (i / 64 + 1)) ((pack s).length + tl.length - (i / 64 + 1))), (68, vI (((pack s).length - (i / 64 + 1) : Nat) : Int)), (69, vI (k : Nat))]) (fun k w' => k ≤ (pack s).length - (i / 64 + 1) ∧ w = w' ∧ ∀ j, i ≤ j → j < 64 * (i / 64 + 1 + k) → (bnots s).getD j false = false) (fun k => (pack s).length - (i / 64 + 1) - k) 0 ?_ ?_ ?_
    · exact ⟨rfl, rfl, rfl, rfl, rfl, trivial⟩
    · exact ⟨Nat.zero_le _, rfl, fun j h1 h2 => hno j h1 (by omega)⟩
    · rintro k w1 ⟨hk2, rfl, hgap⟩
      refine c_seq ?_
      refine c_region ?_
      refine st_if (y_lt_i rfl rfl) rfl (fun hlt2 => ?_) (fun hlt2 => ?_)
      · obtain ⟨ad, rfl, had, hcell⟩ := hRd.2.2 (by omega)
        have hc := hcell k (by omega)
        have ew : ((pack s).drop (i / 64 + 1)).getD k 0 = wordAt s (i / 64 + 1 + k) := by
          rw [List.getD_eq_getElem?_getD, List.getElem?_drop, ← List.getD_eq_getElem?_getD, pack_getD]
        rw [ew] at hc
        have hl2 := wordAt_lt s (i / 64 + 1 + k)
        have hnl2 := nt_lt64 hl2
        have hz2 := tz_le _ hnl2
        have hcw2 := clr_word (s := s) (B := 64 * (i / 64 + 1 + k)) (m := 64) (x := wordAt s (i / 64 + 1 + k)) (y := 18446744073709551615) (by omega) hl2 (fun t ht => by rw [wordAt_testBit]) (by omega) (fun t ht => by
          rw [show (18446744073709551615 : Nat) = 2 ^ 64 - 1 by decide, Nat.testBit_two_pow_sub_one])
        have hjoin : (wordAt s (i / 64 + 1 + k) = 18446744073709551615 ∨ s.length ≤ 64 * (i / 64 + 1 + k) + tz (nt' (wordAt s (i / 64 + 1 + k)))) → ∀ j, i ≤ j → j < 64 * (i / 64 + 1 + (k + 1)) → (bnots s).getD j false = false := by
          intro h j h1 h2
          rcases Nat.lt_or_ge j (64 * (i / 64 + 1 + k)) with h3 | h3
          · exact hgap j h1 h3
          · exact hcw2.2 h j h3 (by omega)
        have hstx := hB.st
        refine l_nil ?_
        refine q_then ?_
        refine c_seq ?_
        refine c_true rfl rfl ?_
        refine c_skip ?_
        refine q_then ?_
        refine c_seq ?_
        refine c_block ?_
        refine c_seq ?_
        refine c_region ?_
        refine st (y_move rfl) rfl ?_
        first | refine st (y_index0 rfl rfl Tryd.underlying64 sz67 (by omega)) rfl ?_ | refine st (y_index rfl rfl Tryd.underlying64 sz67 (by omega)) rfl ?_ | refine st (y_indexA rfl rfl Tryd.underlying64 sz67 (by omega)) rfl ?_
        refine st (y_load rfl one67 (by assumption)) rfl ?_
        refine st (y_assign rfl) rfl ?_
        refine st (y_assign rfl) rfl ?_
        refine l_nil ?_
        refine q_then ?_
        refine c_seq ?_
        refine c_region ?_
        refine st (y_move rfl) rfl ?_
        refine st_if (y_ne_u (b := 18446744073709551615) rfl rfl) rfl (fun hw => ?_) (fun hw => ?_)
        · refine l_nil ?_
          refine q_then ?_
          refine c_true rfl rfl ?_
          refine c_seq ?_
          refine c_region ?_
          refine st (y_move rfl) rfl ?_
          refine st (y_move rfl) rfl ?_
          first | refine st (y_add_in rfl rfl (by omega)) rfl ?_ | refine st (y_add_i rfl rfl (by omega) (by omega)) rfl ?_
          refine st (y_shl_i (k := 6) rfl rfl (by omega) (by omega) (by omega)) rfl ?_
          rw [show (((i / 64 + 1 + k : Nat) : Int) * 2 ^ 6) = ((64 * (i / 64 + 1 + k) : Nat) : Int) by omega]
          refine st (y_move rfl) rfl ?_
          refine st (y_compl rfl (by first | omega | assumption | (repeat (first | assumption | omega | decide | exact shl_lt64 _ _ | apply and_lt64 | apply or_lt64 | apply xor_lt64 | apply nt_lt | apply shr_lt64 | apply getD_lt64)))) rfl ?_
          rw [show nt (wordAt s (i / 64 + 1 + k)) = nt' (wordAt s (i / 64 + 1 + k)) from rfl]
          refine sc rfl rfl isfn41 (c_TrailingZeros64 _ hnl2 _ hT) rfl ?_
          rintro _ _ ⟨rfl, rfl⟩
          first | refine st (y_add_in rfl rfl (by omega)) rfl ?_ | refine st (y_add_i rfl rfl (by omega) (by omega)) rfl ?_
          refine st (y_conv_iu rfl us3 Tryd.underlying22 rfl (by omega)) rfl ?_
          refine st (y_assign rfl) rfl ?_
          refine l_nil ?_
          refine q_then ?_
          refine c_seq ?_
          refine c_region ?_
          refine st (y_move rfl) rfl ?_
          refine st (y_move rfl) rfl ?_
          refine st (y_nil rfl) rfl ?_
          refine st (fa66_0 rfl) rfl ?_
          refine st (y_loadb rfl one22 (by assumption) (by rfl)) rfl ?_
          refine st_if (y_lt_u rfl rfl) rfl (fun hl3 => ?_) (fun hl3 => ?_)
          · refine l_nil ?_
            refine q_then ?_
            refine c_true rfl rfl ?_
            refine c_seq ?_
            refine c_region ?_
            refine st (y_move rfl) rfl ?_
            refine st (y_assign rfl) rfl ?_
            refine st (y_assign rfl) rfl ?_
            refine l_nil ?_
            refine q_then ?_
            refine c_ret ?_
            refine q_block_ret ?_
            refine q_then_ret ?_
            refine q_then_ret ?_
            refine q_block_ret ?_
            refine q_then_ret ?_
            refine q_end2 (.inl rfl) rfl rfl rfl ?_
            exact ⟨_, rfl, Keep.refl _ _, .inl ⟨_, rfl, (hcw2.1 hw hl3).after (by omega) hgap⟩⟩
          ·
            refine l_nil ?_
            refine q_then ?_
            refine c_false rfl rfl ?_
            refine c_skip ?_
            refine q_block ?_
            refine q_then ?_
            refine c_region ?_
            first | refine st (y_add_in (b := 1) rfl rfl (by omega)) rfl ?_ | refine st (y_add_i (b := 1) rfl rfl (by omega) (by omega)) rfl ?_
            refine st (y_move rfl) rfl ?_
            refine l_nil ?_
            exact q_round (k + 1) ⟨rfl, rfl, rfl, rfl, rfl, trivial⟩ ⟨by omega, rfl, hjoin (.inr (by omega))⟩ (by omega)
        ·
          refine l_nil ?_
          refine q_then ?_
          refine c_false rfl rfl ?_
          refine c_skip ?_
          refine q_block ?_
          refine q_then ?_
          refine c_region ?_
          first | refine st (y_add_in (b := 1) rfl rfl (by omega)) rfl ?_ | refine st (y_add_i (b := 1) rfl rfl (by omega) (by omega)) rfl ?_
          refine st (y_move rfl) rfl ?_
          refine l_nil ?_
          exact q_round (k + 1) ⟨rfl, rfl, rfl, rfl, rfl, trivial⟩ ⟨by omega, rfl, hjoin (.inl (by omega))⟩ (by omega)
      ·
        have hkk : k = (pack s).length - (i / 64 + 1) := by omega
        refine l_nil ?_
        refine q_then ?_
        refine c_seq ?_
        refine c_false rfl rfl ?_
        refine c_exit ?_
        refine q_then_exit ?_
        refine q_then_exit ?_
        refine q_block_hit ?_
        refine q_then ?_
        refine c_seq ?_
        refine c_region ?_
        refine st (y_assign (v := vU 0) rfl) rfl ?_
        refine st (y_assign rfl) rfl ?_
        refine l_nil ?_
        refine q_then ?_
        refine c_ret ?_
        refine q_end2 (.inl rfl) rfl rfl rfl ?_
        refine ⟨_, rfl, Keep.refl _ _, .inr ⟨rfl, fun j hj => ?_⟩⟩
        rcases Nat.lt_or_ge j (64 * (i / 64 + 1 + k)) with h3 | h3
        · exact hgap j hj h3
        · exact getD_ge _ false (by rw [bnots_length]; unfold nW at hlen; omega)

/-- the highest number of the words below the place k -/
theorem sub1_int {k : Nat} (h : 0 < k) : ((k : Int) - 1) = ((k - 1 : Nat) : Int) := by omega

theorem c_PreviousSet (p q : Nat) (s : List Bool) (i : Nat) (w : World) (hB : BSet w p q s) (hi : i < s.length) (hs : s.length ≤ 100001) :
    Cal Tryd.prog 25 [vP p, vU i] w fun v w' => Keep w w' [] ∧ ((∃ x, v = vT [vU x, vB true] ∧ PrvF (fun j => s.getD j false) i x) ∨ (v = vT [vU 0, vB false] ∧ NoPF (fun j => s.getD j false) i)) := by
  obtain ⟨tl, hB⟩ := hB
  have hlen := pack_length s
  have hmod : i &&& 63 = i % 64 := and63 i
  have hdiv := shr6 i
  have hb6 := bit64 i
  have hn : (pack s).length ≤ 2000 := by rw [pack_length]; unfold nW; omega
  have hk : i / 64 < (pack s).length := by rw [hlen]; unfold nW; omega
  have hg : (pack s ++ tl).getD (i / 64) 0 = wordAt s (i / 64) := by rw [getD_app hk, pack_getD]
  have hl1 := wordAt_lt s (i / 64)
  have hst := hB.st
  have hwd := hB.wd
  refine go_in' Tryd.func25 rfl Tryd.ntmps25 (Nat.le_of_ble_eq_true rfl) ?_
  refine c_seq ?_
  refine c_region ?_
  refine st (y_assign (v := vU 0) rfl) rfl ?_
  refine st (y_assign rfl) rfl ?_
  refine l_nil ?_
  refine q_then ?_
  refine c_seq ?_
  refine c_region ?_
  refine st (y_move rfl) rfl ?_
  refine st (y_shr (k := 6) rfl rfl (by first | omega | assumption | (repeat (first | assumption | omega | decide | exact shl_lt64 _ _ | apply and_lt64 | apply or_lt64 | apply xor_lt64 | apply nt_lt | apply shr_lt64 | apply getD_lt64)))) rfl ?_
  rw [hdiv]
  refine st (y_conv_ui rfl us22 Tryd.underlying3 (by omega)) rfl ?_
  refine st (y_assign rfl) rfl ?_
  refine l_nil ?_
  refine q_then ?_
  refine c_seq ?_
  refine c_seq ?_
  refine c_region ?_
  refine st (y_move rfl) rfl ?_
  refine st (y_move rfl) rfl ?_
  refine st (y_nil rfl) rfl ?_
  refine st (fa66_1 rfl) rfl ?_
  refine st (y_loadb rfl one64 (by assumption) (by rfl)) rfl ?_
  refine st (y_len rfl Tryd.underlying64) rfl ?_
  refine st_f (y_ge_i rfl rfl) (by omega) rfl ?_
  refine l_nil ?_
  refine q_then ?_
  refine c_false rfl rfl ?_
  refine c_skip ?_
  refine q_then ?_
  refine c_seq ?_
  refine c_region ?_
  refine st (y_move rfl) rfl ?_
  refine st (y_nil rfl) rfl ?_
  refine st (fa66_1 rfl) rfl ?_
  refine st (y_loadb rfl one64 (by assumption) (by rfl)) rfl ?_
  refine st (y_move rfl) rfl ?_
  first | refine st (y_index0 rfl rfl Tryd.underlying64 sz67 (by omega)) rfl ?_ | refine st (y_index rfl rfl Tryd.underlying64 sz67 (by omega)) rfl ?_ | refine st (y_indexA rfl rfl Tryd.underlying64 sz67 (by omega)) rfl ?_
  first | refine st (y_loadM (0) rfl one67 (by assumption) (by first | omega | (simp only [List.length_append, List.length_map, List.length_replicate, List.length_set, List.length_take, List.length_drop]; omega) | (simp; done))) rfl ?_ | refine st (y_load rfl one67 (by assumption)) rfl ?_
  rw [hg]
  refine st (y_assign rfl) rfl ?_
  refine l_nil ?_
  refine q_then ?_
  refine c_seq ?_
  refine c_region ?_
  refine st (y_move rfl) rfl ?_
  refine st (y_move rfl) rfl ?_
  refine sc rfl rfl isfn40 (c_wordsIndex _ (by omega) _) rfl ?_
  rintro _ _ ⟨rfl, rfl⟩
  rw [hmod]
  refine st (y_add_u (b := 1) rfl rfl (by omega)) rfl ?_
  refine st (y_shl (a := 1) rfl rfl) rfl ?_
  refine st (y_subw_u (b := 1) rfl rfl (shl_lt64 _ _) (by omega)) rfl ?_
  obtain ⟨M, hM⟩ : ∃ M, ((1 <<< (i % 64 + 1)) % 18446744073709551616 + (18446744073709551616 - 1)) % 18446744073709551616 = M := ⟨_, rfl⟩
  have hM64 : M < 18446744073709551616 := by rw [← hM]; exact Nat.mod_lt _ (by decide)
  have hMb : ∀ t, t < 64 → M.testBit t = decide (t ≤ i % 64) := fun t ht => by rw [← hM]; exact upto_mask hb6 t ht
  rw [hM]
  refine st (y_and rfl rfl (by first | omega | assumption | (repeat (first | assumption | omega | decide | exact shl_lt64 _ _ | apply and_lt64 | apply or_lt64 | apply xor_lt64 | apply nt_lt | apply shr_lt64 | apply getD_lt64))) (by first | omega | assumption | (repeat (first | assumption | omega | decide | exact shl_lt64 _ _ | apply and_lt64 | apply or_lt64 | apply xor_lt64 | apply nt_lt | apply shr_lt64 | apply getD_lt64)))) rfl ?_
  refine st (y_assign rfl) rfl ?_
  refine l_nil ?_
  refine q_then ?_
  refine c_seq ?_
  refine c_seq ?_
  refine c_region ?_
  refine st (y_move rfl) rfl ?_
  obtain ⟨x, hx⟩ : ∃ x, wordAt s (i / 64) &&& M = x := ⟨_, rfl⟩
  have hx64 : x < 18446744073709551616 := by rw [← hx]; exact and_lt64 M hl1
  have hxb : ∀ t, t < 64 → x.testBit t = (decide (64 * (i / 64) + t ≤ i) && s.getD (64 * (i / 64) + t) false) := fun t ht => by
    have e : decide (t ≤ i % 64) = decide (64 * (i / 64) + t ≤ i) := decide_eq_decide.2 (by omega)
    rw [← hx, Nat.testBit_and, wordAt_testBit, hMb t ht, e, Bool.and_comm]; simp [ht]
  have hlx := lg_le (n := 64) hx64
  rw [hx]
  refine st_if (y_ne_u (b := 0) rfl rfl) rfl (fun h0 => ?_) (fun h0 => ?_)
  · have hp := lg_pos h0
    have hpw := prv_word (f := fun j => s.getD j false) h0 hx64 (Nat.le_refl _) hxb (fun j h1 h2 => by omega)
    refine l_nil ?_
    refine q_then ?_
    refine c_true rfl rfl ?_
    refine c_seq ?_
    refine c_region ?_
    refine st (y_move rfl) rfl ?_
    refine st (y_shl_i (k := 6) rfl rfl (by omega) (by omega) (by omega)) rfl ?_
    rw [show (((i / 64 : Nat) : Int) * 2 ^ 6) = ((64 * (i / 64) : Nat) : Int) by omega]
    refine st (y_move rfl) rfl ?_
    refine sc rfl rfl isfn42 (c_Len64 x hx64 _) rfl ?_
    rintro _ _ ⟨rfl, rfl⟩
    first | refine st (y_add_in rfl rfl (by omega)) rfl ?_ | refine st (y_add_i rfl rfl (by omega) (by omega)) rfl ?_
    refine st (y_conv_iu rfl us3 Tryd.underlying22 rfl (by omega)) rfl ?_
    refine st (y_sub_u (b := 1) rfl rfl (by omega) (by omega)) rfl ?_
    refine st (y_assign rfl) rfl ?_
    refine st (y_assign rfl) rfl ?_
    refine l_nil ?_
    refine q_then ?_
    refine c_ret ?_
    refine q_then_ret ?_
    refine q_end2 (.inl rfl) rfl rfl rfl ?_
    exact ⟨_, rfl, Keep.refl _ _, .inl ⟨_, rfl, hpw⟩⟩
  ·
    have h00 : x = 0 := by omega
    have hpn := prv_none (f := fun j => s.getD j false) h00 hxb (fun j h1 h2 => by omega)
    refine l_nil ?_
    refine q_then ?_
    refine c_false rfl rfl ?_
    refine c_skip ?_
    refine q_then ?_
    refine c_seq ?_
    refine c_seq ?_
    refine c_region ?_
    refine st (y_move rfl) rfl ?_
    refine st (y_sub_i (b := 1) rfl rfl (by omega) (by omega)) rfl ?_
    refine st (y_assign rfl) rfl ?_
    refine l_nil ?_
    refine q_then ?_
    refine c_block ?_
    refine c_loop (fun k : Nat => [(0, vP p), (6, vI ((k : Int) - 1))]) (fun k w' => w = w' ∧ k ≤ i / 64 ∧ ∀ j, 64 * k ≤ j → j ≤ i → s.getD j false = false) (fun k => k) (i / 64) ?_ ?_ ?_
    · exact ⟨rfl, rfl, trivial⟩
    · exact ⟨rfl, Nat.le_refl _, hpn⟩
    · rintro k w1 ⟨rfl, hki, hz⟩
      refine c_seq ?_
      refine c_seq ?_
      refine c_region ?_
      refine st (y_move rfl) rfl ?_
      refine st_if (y_ge_i (b := 0) rfl rfl) rfl (fun hge => ?_) (fun hge => ?_)
      · have hk0 : 0 < k := by omega
        have hj : k - 1 < (pack s).length := by omega
        have hg2 : (pack s ++ tl).getD (k - 1) 0 = wordAt s (k - 1) := by rw [getD_app hj, pack_getD]
        have hw64 := wordAt_lt s (k - 1)
        have hlw := lg_le (n := 64) hw64
        have hwb : ∀ t, t < 64 → (wordAt s (k - 1)).testBit t = (decide (64 * (k - 1) + t ≤ i) && s.getD (64 * (k - 1) + t) false) := fun t ht => by
          rw [wordAt_testBit]; simp [ht, show 64 * (k - 1) + t ≤ i by omega]
        have hzz : ∀ j, 64 * (k - 1 + 1) ≤ j → j ≤ i → s.getD j false = false := fun j h1 h2 => hz j (by omega) h2
        rw [sub1_int hk0]
        have hst2 := hB.st
        have hwd2 := hB.wd
        refine l_nil ?_
        refine q_then ?_
        refine c_true rfl rfl ?_
        refine c_skip ?_
        refine q_then ?_
        refine c_seq ?_
        refine c_block ?_
        refine c_seq ?_
        refine c_region ?_
        refine st (y_move rfl) rfl ?_
        refine st (y_nil rfl) rfl ?_
        refine st (fa66_1 rfl) rfl ?_
        refine st (y_loadb rfl one64 (by assumption) (by rfl)) rfl ?_
        refine st (y_move rfl) rfl ?_
        first | refine st (y_index0 rfl rfl Tryd.underlying64 sz67 (by omega)) rfl ?_ | refine st (y_index rfl rfl Tryd.underlying64 sz67 (by omega)) rfl ?_ | refine st (y_indexA rfl rfl Tryd.underlying64 sz67 (by omega)) rfl ?_
        first | refine st (y_loadM (0) rfl one67 (by assumption) (by first | omega | (simp only [List.length_append, List.length_map, List.length_replicate, List.length_set, List.length_take, List.length_drop]; omega) | (simp; done))) rfl ?_ | refine st (y_load rfl one67 (by assumption)) rfl ?_
        rw [hg2]
        refine st (y_assign rfl) rfl ?_
        refine l_nil ?_
        refine q_then ?_
        refine c_seq ?_
        refine c_region ?_
        refine st (y_move rfl) rfl ?_
        refine st_if (y_ne_u (b := 0) rfl rfl) rfl (fun hw0 => ?_) (fun hw0 => ?_)
        · have hp := lg_pos hw0
          have hpw := prv_word (f := fun j => s.getD j false) hw0 hw64 (show k - 1 ≤ i / 64 by omega) hwb hzz
          refine l_nil ?_
          refine q_then ?_
          refine c_true rfl rfl ?_
          refine c_seq ?_
          refine c_region ?_
          refine st (y_move rfl) rfl ?_
          refine st (y_shl_i (k := 6) rfl rfl (by omega) (by omega) (by omega)) rfl ?_
          rw [show (((k - 1 : Nat) : Int) * 2 ^ 6) = ((64 * (k - 1) : Nat) : Int) by omega]
          refine st (y_move rfl) rfl ?_
          refine sc rfl rfl isfn42 (c_Len64 _ hw64 _) rfl ?_
          rintro _ _ ⟨rfl, rfl⟩
          first | refine st (y_add_in rfl rfl (by omega)) rfl ?_ | refine st (y_add_i rfl rfl (by omega) (by omega)) rfl ?_
          refine st (y_conv_iu rfl us3 Tryd.underlying22 rfl (by omega)) rfl ?_
          refine st (y_sub_u (b := 1) rfl rfl (by omega) (by omega)) rfl ?_
          refine st (y_assign rfl) rfl ?_
          refine st (y_assign rfl) rfl ?_
          refine l_nil ?_
          refine q_then ?_
          refine c_ret ?_
          refine q_block_ret ?_
          refine q_then_ret ?_
          refine q_then_ret ?_
          refine q_block_ret ?_
          refine q_then_ret ?_
          refine q_end2 (.inl rfl) rfl rfl rfl ?_
          exact ⟨_, rfl, Keep.refl _ _, .inl ⟨_, rfl, hpw⟩⟩
        ·
          have hw00 : wordAt s (k - 1) = 0 := by omega
          have hpn2 := prv_none (f := fun j => s.getD j false) hw00 hwb hzz
          refine l_nil ?_
          refine q_then ?_
          refine c_false rfl rfl ?_
          refine c_skip ?_
          refine q_block ?_
          refine q_then ?_
          refine c_region ?_
          refine st (y_move rfl) rfl ?_
          refine st (y_sub_i (b := 1) rfl rfl (by omega) (by omega)) rfl ?_
          refine st (y_assign rfl) rfl ?_
          refine l_nil ?_
          exact q_round (k - 1) ⟨rfl, rfl, trivial⟩ ⟨rfl, by omega, hpn2⟩ (by omega)
      ·
        refine l_nil ?_
        refine q_then ?_
        refine c_false rfl rfl ?_
        refine c_exit ?_
        refine q_then_exit ?_
        refine q_then_exit ?_
        refine q_block_hit ?_
        refine q_then ?_
        refine c_seq ?_
        refine c_region ?_
        refine st (y_assign (v := vU 0) rfl) rfl ?_
        refine st (y_assign rfl) rfl ?_
        refine l_nil ?_
        refine q_then ?_
        refine c_ret ?_
        refine q_end2 (.inl rfl) rfl rfl rfl ?_
        exact ⟨_, rfl, Keep.refl _ _, .inr ⟨rfl, fun j hj => hz j (by omega) hj⟩⟩

theorem c_PreviousClear (p q : Nat) (s : List Bool) (i : Nat) (w : World) (hB : BSet w p q s) (hi : i < s.length) (hs : s.length ≤ 100001) :
    Cal Tryd.prog 26 [vP p, vU i] w fun v w' => Keep w w' [] ∧ ((∃ x, v = vT [vU x, vB true] ∧ PrvF (fun j => !s.getD j false) i x) ∨ (v = vT [vU 0, vB false] ∧ NoPF (fun j => !s.getD j false) i)) := by
  obtain ⟨tl, hB⟩ := hB
  have hlen := pack_length s
  have hmod : i &&& 63 = i % 64 := and63 i
  have hdiv := shr6 i
  have hb6 := bit64 i
  have hn : (pack s).length ≤ 2000 := by rw [pack_length]; unfold nW; omega
  have hk : i / 64 < (pack s).length := by rw [hlen]; unfold nW; omega
  have hg : (pack s ++ tl).getD (i / 64) 0 = wordAt s (i / 64) := by rw [getD_app hk, pack_getD]
  have hl1 := wordAt_lt s (i / 64)
  have hnl1 := nt_lt64 hl1
  have hst := hB.st
  have hwd := hB.wd
  refine go_in' Tryd.func26 rfl Tryd.ntmps26 (Nat.le_of_ble_eq_true rfl) ?_
  refine c_seq ?_
  refine c_region ?_
  refine st (y_assign (v := vU 0) rfl) rfl ?_
  refine st (y_assign rfl) rfl ?_
  refine l_nil ?_
  refine q_then ?_
  refine c_seq ?_
  refine c_seq ?_
  refine c_region ?_
  refine st (y_move rfl) rfl ?_
  refine st (y_move rfl) rfl ?_
  refine st (y_nil rfl) rfl ?_
  refine st (fa66_0 rfl) rfl ?_
  refine st (y_loadb rfl one22 (by assumption) (by rfl)) rfl ?_
  refine st_f (y_ge_u rfl rfl) (by omega) rfl ?_
  refine l_nil ?_
  refine q_then ?_
  refine c_false rfl rfl ?_
  refine c_skip ?_
  refine q_then ?_
  refine c_seq ?_
  refine c_region ?_
  refine st (y_move rfl) rfl ?_
  refine st (y_shr (k := 6) rfl rfl (by first | omega | assumption | (repeat (first | assumption | omega | decide | exact shl_lt64 _ _ | apply and_lt64 | apply or_lt64 | apply xor_lt64 | apply nt_lt | apply shr_lt64 | apply getD_lt64)))) rfl ?_
  rw [hdiv]
  refine st (y_conv_ui rfl us22 Tryd.underlying3 (by omega)) rfl ?_
  refine st (y_assign rfl) rfl ?_
  refine l_nil ?_
  refine q_then ?_
  refine c_seq ?_
  refine c_seq ?_
  refine c_region ?_
  refine st (y_move rfl) rfl ?_
  refine st (y_move rfl) rfl ?_
  refine st (y_nil rfl) rfl ?_
  refine st (fa66_1 rfl) rfl ?_
  refine st (y_loadb rfl one64 (by assumption) (by rfl)) rfl ?_
  refine st (y_len rfl Tryd.underlying64) rfl ?_
  refine st_f (y_ge_i rfl rfl) (by omega) rfl ?_
  refine l_nil ?_
  refine q_then ?_
  refine c_false rfl rfl ?_
  refine c_skip ?_
  refine q_then ?_
  refine c_seq ?_
  refine c_region ?_
  refine st (y_move rfl) rfl ?_
  refine st (y_nil rfl) rfl ?_
  refine st (fa66_1 rfl) rfl ?_
  refine st (y_loadb rfl one64 (by assumption) (by rfl)) rfl ?_
  refine st (y_move rfl) rfl ?_
  first | refine st (y_index0 rfl rfl Tryd.underlying64 sz67 (by omega)) rfl ?_ | refine st (y_index rfl rfl Tryd.underlying64 sz67 (by omega)) rfl ?_ | refine st (y_indexA rfl rfl Tryd.underlying64 sz67 (by omega)) rfl ?_
  first | refine st (y_loadM (0) rfl one67 (by assumption) (by first | omega | (simp only [List.length_append, List.length_map, List.length_replicate, List.length_set, List.length_take, List.length_drop]; omega) | (simp; done))) rfl ?_ | refine st (y_load rfl one67 (by assumption)) rfl ?_
  rw [hg]
  refine st (y_assign rfl) rfl ?_
  refine l_nil ?_
  refine q_then ?_
  refine c_seq ?_
  refine c_region ?_
  refine st (y_move rfl) rfl ?_
  refine st (y_compl rfl (by first | omega | assumption | (repeat (first | assumption | omega | decide | exact shl_lt64 _ _ | apply and_lt64 | apply or_lt64 | apply xor_lt64 | apply nt_lt | apply shr_lt64 | apply getD_lt64)))) rfl ?_
  refine st (y_assign rfl) rfl ?_
  refine l_nil ?_
  refine q_then ?_
  rw [show nt (wordAt s (i / 64)) = nt' (wordAt s (i / 64)) from rfl]
  refine c_seq ?_
  refine c_region ?_
  refine st (y_move rfl) rfl ?_
  refine st (y_move rfl) rfl ?_
  refine sc rfl rfl isfn40 (c_wordsIndex _ (by omega) _) rfl ?_
  rintro _ _ ⟨rfl, rfl⟩
  rw [hmod]
  refine st (y_add_u (b := 1) rfl rfl (by omega)) rfl ?_
  refine st (y_shl (a := 1) rfl rfl) rfl ?_
  refine st (y_subw_u (b := 1) rfl rfl (shl_lt64 _ _) (by omega)) rfl ?_
  obtain ⟨M, hM⟩ : ∃ M, ((1 <<< (i % 64 + 1)) % 18446744073709551616 + (18446744073709551616 - 1)) % 18446744073709551616 = M := ⟨_, rfl⟩
  have hM64 : M < 18446744073709551616 := by rw [← hM]; exact Nat.mod_lt _ (by decide)
  have hMb : ∀ t, t < 64 → M.testBit t = decide (t ≤ i % 64) := fun t ht => by rw [← hM]; exact upto_mask hb6 t ht
  rw [hM]
  refine st (y_and rfl rfl (by first | omega | assumption | (repeat (first | assumption | omega | decide | exact shl_lt64 _ _ | apply and_lt64 | apply or_lt64 | apply xor_lt64 | apply nt_lt | apply shr_lt64 | apply getD_lt64))) (by first | omega | assumption | (repeat (first | assumption | omega | decide | exact shl_lt64 _ _ | apply and_lt64 | apply or_lt64 | apply xor_lt64 | apply nt_lt | apply shr_lt64 | apply getD_lt64)))) rfl ?_
  refine st (y_assign rfl) rfl ?_
  refine l_nil ?_
  refine q_then ?_
  refine c_seq ?_
  refine c_seq ?_
  refine c_region ?_
  refine st (y_move rfl) rfl ?_
  obtain ⟨x, hx⟩ : ∃ x, nt' (wordAt s (i / 64)) &&& M = x := ⟨_, rfl⟩
  have hx64 : x < 18446744073709551616 := by rw [← hx]; exact and_lt64 M hnl1
  have hxb : ∀ t, t < 64 → x.testBit t = (decide (64 * (i / 64) + t ≤ i) && !s.getD (64 * (i / 64) + t) false) := fun t ht => by
    have e : decide (t ≤ i % 64) = decide (64 * (i / 64) + t ≤ i) := decide_eq_decide.2 (by omega)
    rw [← hx, Nat.testBit_and, nt_testBit, wordAt_testBit, hMb t ht, e, Bool.and_comm]; simp [ht]
  have hlx := lg_le (n := 64) hx64
  rw [hx]
  refine st_if (y_ne_u (b := 0) rfl rfl) rfl (fun h0 => ?_) (fun h0 => ?_)
  · have hp := lg_pos h0
    have hpw := prv_word (f := fun j => !s.getD j false) h0 hx64 (Nat.le_refl _) hxb (fun j h1 h2 => by omega)
    refine l_nil ?_
    refine q_then ?_
    refine c_true rfl rfl ?_
    refine c_seq ?_
    refine c_region ?_
    refine st (y_move rfl) rfl ?_
    refine st (y_shl_i (k := 6) rfl rfl (by omega) (by omega) (by omega)) rfl ?_
    rw [show (((i / 64 : Nat) : Int) * 2 ^ 6) = ((64 * (i / 64) : Nat) : Int) by omega]
    refine st (y_move rfl) rfl ?_
    refine sc rfl rfl isfn42 (c_Len64 x hx64 _) rfl ?_
    rintro _ _ ⟨rfl, rfl⟩
    first | refine st (y_add_in rfl rfl (by omega)) rfl ?_ | refine st (y_add_i rfl rfl (by omega) (by omega)) rfl ?_
    refine st (y_conv_iu rfl us3 Tryd.underlying22 rfl (by omega)) rfl ?_
    refine st (y_sub_u (b := 1) rfl rfl (by omega) (by omega)) rfl ?_
    refine st (y_assign rfl) rfl ?_
    refine st (y_assign rfl) rfl ?_
    refine l_nil ?_
    refine q_then ?_
    refine c_ret ?_
    refine q_then_ret ?_
    refine q_end2 (.inl rfl) rfl rfl rfl ?_
    exact ⟨_, rfl, Keep.refl _ _, .inl ⟨_, rfl, hpw⟩⟩
  ·
    have h00 : x = 0 := by omega
    have hpn := prv_none (f := fun j => !s.getD j false) h00 hxb (fun j h1 h2 => by omega)
    refine l_nil ?_
    refine q_then ?_
    refine c_false rfl rfl ?_
    refine c_skip ?_
    refine q_then ?_
    refine c_seq ?_
    refine c_seq ?_
    refine c_region ?_
    refine st (y_move rfl) rfl ?_
    refine st (y_sub_i (b := 1) rfl rfl (by omega) (by omega)) rfl ?_
    refine st (y_assign rfl) rfl ?_
    refine l_nil ?_
    refine q_then ?_
    refine c_block ?_
    refine c_loop (fun k : Nat => [(0, vP p), (6, vI ((k : Int) - 1))]) (fun k w' => w = w' ∧ k ≤ i / 64 ∧ ∀ j, 64 * k ≤ j → j ≤ i → (!s.getD j false) = false) (fun k => k) (i / 64) ?_ ?_ ?_
    · exact ⟨rfl, rfl, trivial⟩
    · exact ⟨rfl, Nat.le_refl _, hpn⟩
    · rintro k w1 ⟨rfl, hki, hz⟩
      refine c_seq ?_
      refine c_seq ?_
      refine c_region ?_
      refine st (y_move rfl) rfl ?_
      refine st_if (y_ge_i (b := 0) rfl rfl) rfl (fun hge => ?_) (fun hge => ?_)
      · have hk0 : 0 < k := by omega
        have hj : k - 1 < (pack s).length := by omega
        have hg2 : (pack s ++ tl).getD (k - 1) 0 = wordAt s (k - 1) := by rw [getD_app hj, pack_getD]
        have hw64 := wordAt_lt s (k - 1)
        have hnw64 := nt_lt64 hw64
        have hlw := lg_le (n := 64) hnw64
        have hwb : ∀ t, t < 64 → (nt' (wordAt s (k - 1))).testBit t = (decide (64 * (k - 1) + t ≤ i) && !s.getD (64 * (k - 1) + t) false) := fun t ht => by
          rw [nt_testBit, wordAt_testBit]; simp [ht, show 64 * (k - 1) + t ≤ i by omega]
        have hzz : ∀ j, 64 * (k - 1 + 1) ≤ j → j ≤ i → (!s.getD j false) = false := fun j h1 h2 => hz j (by omega) h2
        rw [sub1_int hk0]
        have hst2 := hB.st
        have hwd2 := hB.wd
        refine l_nil ?_
        refine q_then ?_
        refine c_true rfl rfl ?_
        refine c_skip ?_
        refine q_then ?_
        refine c_seq ?_
        refine c_block ?_
        refine c_seq ?_
        refine c_region ?_
        refine st (y_move rfl) rfl ?_
        refine st (y_nil rfl) rfl ?_
        refine st (fa66_1 rfl) rfl ?_
        refine st (y_loadb rfl one64 (by assumption) (by rfl)) rfl ?_
        refine st (y_move rfl) rfl ?_
        first | refine st (y_index0 rfl rfl Tryd.underlying64 sz67 (by omega)) rfl ?_ | refine st (y_index rfl rfl Tryd.underlying64 sz67 (by omega)) rfl ?_ | refine st (y_indexA rfl rfl Tryd.underlying64 sz67 (by omega)) rfl ?_
        first | refine st (y_loadM (0) rfl one67 (by assumption) (by first | omega | (simp only [List.length_append, List.length_map, List.length_replicate, List.length_set, List.length_take, List.length_drop]; omega) | (simp; done))) rfl ?_ | refine st (y_load rfl one67 (by assumption)) rfl ?_
        rw [hg2]
        refine st (y_assign rfl) rfl ?_
        refine l_nil ?_
        refine q_then ?_
        refine c_seq ?_
        refine c_region ?_
        refine st (y_move rfl) rfl ?_
        refine st (y_compl rfl (by first | omega | assumption | (repeat (first | assumption | omega | decide | exact shl_lt64 _ _ | apply and_lt64 | apply or_lt64 | apply xor_lt64 | apply nt_lt | apply shr_lt64 | apply getD_lt64)))) rfl ?_
        refine st (y_assign rfl) rfl ?_
        refine l_nil ?_
        refine q_then ?_
        rw [show nt (wordAt s (k - 1)) = nt' (wordAt s (k - 1)) from rfl]
        refine c_seq ?_
        refine c_region ?_
        refine st (y_move rfl) rfl ?_
        refine st_if (y_ne_u (b := 0) rfl rfl) rfl (fun hw0 => ?_) (fun hw0 => ?_)
        · have hp := lg_pos hw0
          have hpw := prv_word (f := fun j => !s.getD j false) hw0 hnw64 (show k - 1 ≤ i / 64 by omega) hwb hzz
          refine l_nil ?_
          refine q_then ?_
          refine c_true rfl rfl ?_
          refine c_seq ?_
          refine c_region ?_
          refine st (y_move rfl) rfl ?_
          refine st (y_shl_i (k := 6) rfl rfl (by omega) (by omega) (by omega)) rfl ?_
          rw [show (((k - 1 : Nat) : Int) * 2 ^ 6) = ((64 * (k - 1) : Nat) : Int) by omega]
          refine st (y_move rfl) rfl ?_
          refine sc rfl rfl isfn42 (c_Len64 _ hnw64 _) rfl ?_
          rintro _ _ ⟨rfl, rfl⟩
          first | refine st (y_add_in rfl rfl (by omega)) rfl ?_ | refine st (y_add_i rfl rfl (by omega) (by omega)) rfl ?_
          refine st (y_conv_iu rfl us3 Tryd.underlying22 rfl (by omega)) rfl ?_
          refine st (y_sub_u (b := 1) rfl rfl (by omega) (by omega)) rfl ?_
          refine st (y_assign rfl) rfl ?_
          refine st (y_assign rfl) rfl ?_
          refine l_nil ?_
          refine q_then ?_
          refine c_ret ?_
          refine q_block_ret ?_
          refine q_then_ret ?_
          refine q_then_ret ?_
          refine q_block_ret ?_
          refine q_then_ret ?_
          refine q_end2 (.inl rfl) rfl rfl rfl ?_
          exact ⟨_, rfl, Keep.refl _ _, .inl ⟨_, rfl, hpw⟩⟩
        ·
          have hw00 : nt' (wordAt s (k - 1)) = 0 := by omega
          have hpn2 := prv_none (f := fun j => !s.getD j false) hw00 hwb hzz
          refine l_nil ?_
          refine q_then ?_
          refine c_false rfl rfl ?_
          refine c_skip ?_
          refine q_block ?_
          refine q_then ?_
          refine c_region ?_
          refine st (y_move rfl) rfl ?_
          refine st (y_sub_i (b := 1) rfl rfl (by omega) (by omega)) rfl ?_
          refine st (y_assign rfl) rfl ?_
          refine l_nil ?_
          exact q_round (k - 1) ⟨rfl, rfl, trivial⟩ ⟨rfl, by omega, hpn2⟩ (by omega)
      ·
        refine l_nil ?_
        refine q_then ?_
        refine c_false rfl rfl ?_
        refine c_exit ?_
        refine q_then_exit ?_
        refine q_then_exit ?_
        refine q_block_hit ?_
        refine q_then ?_
        refine c_seq ?_
        refine c_region ?_
        refine st (y_assign (v := vU 0) rfl) rfl ?_
        refine st (y_assign rfl) rfl ?_
        refine l_nil ?_
        refine q_then ?_
        refine c_ret ?_
        refine q_end2 (.inl rfl) rfl rfl rfl ?_
        exact ⟨_, rfl, Keep.refl _ _, .inr ⟨rfl, fun j hj => hz j (by omega) hj⟩⟩

end Go.Proofs.YtbahhdeblppooaaDoor

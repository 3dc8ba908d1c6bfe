/- TrailingZeros64 by its table, NextSet, Len and the thin package's told, each by its contract. -/
import Derived.Test.YtbahhdeblppooaaDoorA5
import Derived.Test.YtbahhdeblppooaaDoorB1
import Derived.Test.YtbahhdeblppooaaDoorN1
import Derived.Test.YtbahhdeblppooaaDoorK9
import Derived.Test.YtbahhdeblppooaaDoorL10
set_option linter.unusedVariables false
set_option linter.unusedSimpArgs false
set_option maxRecDepth 100000
namespace Go.Proofs.YtbahhdeblppooaaDoor
open Go Go.RowKit

/-- the library's table is in its place -/
def Tb (w : World) : Prop := 0 < w.heap.size ∧ ∀ i, i < 64 → w.cell? ⟨0, i, none⟩ = some (v8 (Lib.deBruijn64tab.getD i 0))
theorem Tb.keep {w w' : World} {L : List Nat} (h : Tb w) (k : Keep w w' L) (hn : 0 ∉ L) : Tb w' :=
  ⟨Nat.lt_of_lt_of_le h.1 k.size, fun i hi => by rw [← h.2 i hi]; exact World.cell?_of_block (k.same _ h.1 hn)⟩

theorem c_TrailingZeros64 (m : Nat) (hm : m < 18446744073709551616) (w : World) (hT : Tb w) : Cal Tryd.prog 41 [vU m] w fun v w' => v = vI ((tz m : Nat) : Int) ∧ w = w' := by
  refine go_in' Tryd.func41 rfl Tryd.ntmps41 (Nat.le_of_ble_eq_true rfl) ?_
  refine c_seq ?_
  refine c_region ?_
  refine st (y_assign (v := vI ((0 : Nat) : Int)) rfl) rfl ?_
  refine l_nil ?_
  refine q_then ?_
  refine c_seq ?_
  refine c_seq ?_
  refine c_region ?_
  refine st (y_move rfl) rfl ?_
  refine st_if (y_eq_u (b := 0) rfl rfl) rfl (fun h0 => ?_) (fun h0 => ?_)
  · refine l_nil ?_
    refine q_then ?_
    refine c_true rfl rfl ?_
    refine c_seq ?_
    refine c_region ?_
    refine st (y_assign (v := vI ((64 : Nat) : Int)) rfl) rfl ?_
    refine l_nil ?_
    refine q_then ?_
    refine c_ret ?_
    refine q_then_ret ?_
    refine q_end1 (.inl rfl) rfl rfl ?_
    refine ⟨_, rfl, ?_, rfl⟩
    subst h0; rfl
  ·
    have hlow := tz_low h0 hm
    obtain ⟨h1, h2⟩ := tz_table h0 hm
    have h3 := hT.2 _ h1
    rw [h2] at h3
    have h4 : tz m < 64 := (tz_spec h0 hm).1
    refine l_nil ?_
    refine q_then ?_
    refine c_false rfl rfl ?_
    refine c_skip ?_
    refine q_then ?_
    refine c_seq ?_
    refine c_region ?_
    refine st (y_move rfl) rfl ?_
    refine st (y_move rfl) rfl ?_
    refine st (y_neg_u rfl (by omega)) rfl ?_
    refine st (y_and rfl rfl (by first | omega | assumption | (repeat (first | assumption | omega | decide | exact shl_lt64 _ _ | apply and_lt64 | apply or_lt64 | apply xor_lt64 | apply nt_lt | apply shr_lt64 | apply getD_lt64))) (by first | omega | assumption | (repeat (first | assumption | omega | decide | exact shl_lt64 _ _ | apply and_lt64 | apply or_lt64 | apply xor_lt64 | apply nt_lt | apply shr_lt64 | apply getD_lt64)))) rfl ?_
    rw [hlow]
    refine st (y_mulw_u (b := 285870213051353865) rfl rfl) rfl ?_
    obtain ⟨i, hi⟩ : ∃ i, (2 ^ tz m * 285870213051353865 % 18446744073709551616) >>> 58 = i := ⟨_, rfl⟩
    rw [hi] at h1 h3
    refine st (y_shr (k := 58) rfl rfl (by first | omega | assumption | (repeat (first | assumption | omega | decide | exact shl_lt64 _ _ | apply and_lt64 | apply or_lt64 | apply xor_lt64 | apply nt_lt | apply shr_lt64 | apply getD_lt64)))) rfl ?_
    rw [hi]
    refine st (y_indexarr rfl rfl Tryd.underlying76 sz5 (by omega)) rfl ?_
    rw [Nat.mul_one, Nat.zero_add]
    refine st (y_load rfl one5 h3) rfl ?_
    refine st (y_conv_8i rfl us5 Tryd.underlying3 (by omega)) rfl ?_
    refine st (y_assign rfl) rfl ?_
    refine l_nil ?_
    refine q_then ?_
    refine c_ret ?_
    refine q_end1 (.inl rfl) rfl rfl ?_
    exact ⟨_, rfl, rfl, rfl⟩

theorem c_Len (p q : Nat) (s : List Bool) (w : World) (hB : BSet w p q s) : Cal Tryd.prog 49 [vP p] w fun v w' => v = vU s.length ∧ w = w' := by
  obtain ⟨tl, hB⟩ := hB
  have hst := hB.st
  refine go_in' Tryd.func49 rfl Tryd.ntmps49 (Nat.le_of_ble_eq_true rfl) ?_
  refine c_seq ?_
  refine c_region ?_
  refine st (y_assign (v := vU 0) rfl) rfl ?_
  refine l_nil ?_
  refine q_then ?_
  refine c_seq ?_
  refine c_region ?_
  refine st (y_move rfl) rfl ?_
  refine st (y_nil rfl) rfl ?_
  refine st (fa66_0 rfl) rfl ?_
  refine st (y_loadb rfl one22 (by assumption) (by rfl)) rfl ?_
  refine st (y_assign rfl) rfl ?_
  refine l_nil ?_
  refine q_then ?_
  refine c_ret ?_
  refine q_end1 (.inl rfl) rfl rfl ?_
  exact ⟨_, rfl, rfl, rfl⟩

theorem c_NextSet (p q : Nat) (s : List Bool) (i : Nat) (w : World) (hT : Tb w) (hB : BSet w p q s) (hi : i ≤ 100000) (hs : s.length ≤ 100001) :
    Cal Tryd.prog 23 [vP p, vU i] w fun v w' => Keep w w' [] ∧ ((∃ x, v = vT [vU x, vB true] ∧ Nxt s i x) ∨ (v = vT [vU 0, vB false] ∧ Non s i)) := by
  obtain ⟨tl, hB⟩ := hB
  have hst := hB.st
  have hlen := pack_length s
  have hmod : i &&& 63 = i % 64 := and63 i
  have hdiv := shr6 i
  have hn : (pack s).length ≤ 2000 := by rw [pack_length]; unfold nW; omega
  have hg : ∀ j, j < (pack s).length → (pack s ++ tl).getD j 0 = wordAt s j := fun j hj => by
    rw [List.getD_eq_getElem?_getD, List.getElem?_append_left hj, ← List.getD_eq_getElem?_getD, pack_getD]
  have hKd : Keep w w.drew [] := Keep.drew w []
  refine go_in' Tryd.func23 rfl Tryd.ntmps23 (Nat.le_of_ble_eq_true rfl) ?_
  refine c_seq ?_
  refine c_region ?_
  refine st (y_assign (v := vU 0) rfl) rfl ?_
  refine st (y_assign rfl) rfl ?_
  refine l_nil ?_
  refine q_then ?_
  refine c_seq ?_
  refine c_region ?_
  refine st (y_move rfl) rfl ?_
  refine st (y_shr (k := 6) rfl rfl (by first | omega | assumption | (repeat (first | assumption | omega | decide | exact shl_lt64 _ _ | apply and_lt64 | apply or_lt64 | apply xor_lt64 | apply nt_lt | apply shr_lt64 | apply getD_lt64)))) rfl ?_
  rw [hdiv]
  refine st (y_conv_ui rfl us22 Tryd.underlying3 (by omega)) rfl ?_
  refine st (y_assign rfl) rfl ?_
  refine l_nil ?_
  refine q_then ?_
  refine c_seq ?_
  refine c_seq ?_
  refine c_region ?_
  refine st (y_move rfl) rfl ?_
  refine st (y_move rfl) rfl ?_
  refine st (y_nil rfl) rfl ?_
  refine st (fa66_1 rfl) rfl ?_
  refine st (y_loadb rfl one64 (by assumption) (by rfl)) rfl ?_
  refine st (y_len rfl Tryd.underlying64) rfl ?_
  refine st_if (y_ge_i rfl rfl) rfl (fun hge => ?_) (fun hge => ?_)
  · refine l_nil ?_
    refine q_then ?_
    refine c_true rfl rfl ?_
    refine c_seq ?_
    refine c_region ?_
    refine st (y_assign (v := vU 0) rfl) rfl ?_
    refine st (y_assign rfl) rfl ?_
    refine l_nil ?_
    refine q_then ?_
    refine c_ret ?_
    refine q_then_ret ?_
    refine q_end2 (.inl rfl) rfl rfl rfl ?_
    exact ⟨_, rfl, Keep.refl _ _, .inr ⟨rfl, non_past (k := i / 64) (fun j h1 h2 => by omega) (by omega)⟩⟩
  ·
    have e1 := hg (i / 64) (by omega)
    have hl1 := wordAt_lt s (i / 64)
    have hTd := hT.keep hKd (by simp)
    refine l_nil ?_
    refine q_then ?_
    refine c_false rfl rfl ?_
    refine c_skip ?_
    refine q_then ?_
    refine c_seq ?_
    refine c_tail 10 mixed (by kernel_rfl) ?_
    have hst := hst.drew
    have hwd := hB.wd.drew
    refine ss (y_move rfl) rfl ?_
    refine ss (y_nil rfl) rfl ?_
    refine ss (fa66_1 rfl) rfl ?_
    refine ss (y_loadb rfl one64 (by assumption) (by rfl)) rfl ?_
    refine ss (y_move rfl) rfl ?_
    first | refine ss (y_index0 rfl rfl Tryd.underlying64 sz67 (by omega)) rfl ?_ | refine ss (y_index rfl rfl Tryd.underlying64 sz67 (by omega)) rfl ?_ | refine ss (y_indexA rfl rfl Tryd.underlying64 sz67 (by omega)) rfl ?_
    first | refine ss (y_loadM (0) rfl one67 (by assumption) (by first | omega | (simp only [List.length_append, List.length_map, List.length_replicate, List.length_set, List.length_take, List.length_drop]; omega) | (simp; done))) rfl ?_ | refine ss (y_load rfl one67 (by assumption)) rfl ?_
    refine ss (y_move rfl) rfl ?_
    rw [e1]
    refine ssc rfl rfl isfn40 (c_wordsIndex _ (by omega) _) rfl ?_
    rw [hmod]
    have hlt : wordAt s (i / 64) >>> (i % 64) < 18446744073709551616 := by
      rw [Nat.shiftRight_eq_div_pow]; exact Nat.lt_of_le_of_lt (Nat.div_le_self _ _) hl1
    refine ss (y_shr rfl rfl (by first | omega | assumption | (repeat (first | assumption | omega | decide | exact shl_lt64 _ _ | apply and_lt64 | apply or_lt64 | apply xor_lt64 | apply nt_lt | apply shr_lt64 | apply getD_lt64)))) rfl ?_
    refine s_nil ?_
    show wpL _ _ _ _ _ _ _ _
    refine st (y_assign rfl) rfl ?_
    refine l_nil ?_
    refine q_then ?_
    refine c_seq ?_
    refine c_seq ?_
    refine c_region ?_
    refine st (y_move rfl) rfl ?_
    refine st_if (y_ne_u (b := 0) rfl rfl) rfl (fun h0 => ?_) (fun h0 => ?_)
    · have hx := nxt_here h0
      have hxl := hx.lt
      refine l_nil ?_
      refine q_then ?_
      refine c_true rfl rfl ?_
      refine c_seq ?_
      refine c_region ?_
      refine st (y_move rfl) rfl ?_
      refine st (y_move rfl) rfl ?_
      refine sc rfl rfl isfn41 (c_TrailingZeros64 _ hlt _ hTd) rfl ?_
      rintro _ _ ⟨rfl, rfl⟩
      refine st (y_conv_iu rfl us3 Tryd.underlying22 rfl (by omega)) rfl ?_
      refine st (y_add_u rfl rfl (by omega)) rfl ?_
      refine st (y_assign rfl) rfl ?_
      refine st (y_assign rfl) rfl ?_
      refine l_nil ?_
      refine q_then ?_
      refine c_ret ?_
      refine q_then_ret ?_
      refine q_end2 (.inl rfl) rfl rfl rfl ?_
      exact ⟨_, rfl, hKd, .inl ⟨_, rfl, hx⟩⟩
    ·
      have h00 : wordAt s (i / 64) >>> (i % 64) = 0 := by omega
      have hno := non_here h00
      refine l_nil ?_
      refine q_then ?_
      refine c_false rfl rfl ?_
      refine c_skip ?_
      refine q_then ?_
      refine c_seq ?_
      refine c_region ?_
      refine st (y_move rfl) rfl ?_
      first | refine st (y_add_in (b := 1) rfl rfl (by omega)) rfl ?_ | refine st (y_add_i (b := 1) rfl rfl (by omega) (by omega)) rfl ?_
      refine st (y_assign rfl) rfl ?_
      refine l_nil ?_
      refine q_then ?_
      refine c_seq ?_
      refine c_seq ?_
      refine c_region ?_
      refine st (y_move rfl) rfl ?_
      refine st (y_nil rfl) rfl ?_
      refine st (fa66_1 rfl) rfl ?_
      refine st (y_loadb rfl one64 (by assumption) (by rfl)) rfl ?_
      refine st (y_move rfl) rfl ?_
      refine st (y_slice_l rfl rfl Tryd.underlying64 sz67 (by omega)) rfl ?_
      obtain ⟨As, hAs⟩ : ∃ As, some (if (pack s).length + tl.length = i / 64 + 1 then (⟨q, 0, none⟩ : Addr) else ⟨q, 0 + (i / 64 + 1), none⟩) = As := ⟨_, rfl⟩
      have hRd := (hB.keep hKd (by simp) (by simp)).rds (l := i / 64 + 1) (by omega)
      rw [hAs] at hRd ⊢
      refine st (y_len rfl Tryd.underlying64) rfl ?_
      refine st (y_move (v := vI ((0 : Nat) : Int)) rfl) rfl ?_
      refine l_nil ?_
      refine q_then ?_
      refine c_block ?_
      refine c_loop (fun k : Nat => [(6, vI ((i / 64 + 1 : Nat) : Int)), (44, .slice As ((pack s).length - (i / 64 + 1)) ((pack s).length + tl.length - (i / 64 + 1))), (45, vI (((pack s).length - (i / 64 + 1) : Nat) : Int)), (46, vI (k : Nat))]) (fun k w' => k ≤ (pack s).length - (i / 64 + 1) ∧ w.drew = w' ∧ ∀ j, i ≤ j → j < 64 * (i / 64 + 1 + k) → s.getD j false = false) (fun k => (pack s).length - (i / 64 + 1) - k) 0 ?_ ?_ ?_
      · exact ⟨rfl, rfl, rfl, rfl, trivial⟩
      · exact ⟨Nat.zero_le _, rfl, hno⟩
      · rintro k w1 ⟨hk, rfl, hgap⟩
        refine c_seq ?_
        refine c_region ?_
        refine st_if (y_lt_i rfl rfl) rfl (fun hlt2 => ?_) (fun hlt2 => ?_)
        · obtain ⟨ad, rfl, had, hcell⟩ := hRd.2.2 (by omega)
          have hc := hcell k (by omega)
          have ew : ((pack s).drop (i / 64 + 1)).getD k 0 = wordAt s (i / 64 + 1 + k) := by
            rw [List.getD_eq_getElem?_getD, List.getElem?_drop, ← List.getD_eq_getElem?_getD, pack_getD]
          rw [ew] at hc
          have hl2 := wordAt_lt s (i / 64 + 1 + k)
          refine l_nil ?_
          refine q_then ?_
          refine c_seq ?_
          refine c_true rfl rfl ?_
          refine c_skip ?_
          refine q_then ?_
          refine c_seq ?_
          refine c_block ?_
          refine c_seq ?_
          refine c_region ?_
          refine st (y_move rfl) rfl ?_
          first | refine st (y_index0 rfl rfl Tryd.underlying64 sz67 (by omega)) rfl ?_ | refine st (y_index rfl rfl Tryd.underlying64 sz67 (by omega)) rfl ?_ | refine st (y_indexA rfl rfl Tryd.underlying64 sz67 (by omega)) rfl ?_
          refine st (y_load rfl one67 (by assumption)) rfl ?_
          refine st (y_assign rfl) rfl ?_
          refine st (y_assign rfl) rfl ?_
          refine l_nil ?_
          refine q_then ?_
          refine c_seq ?_
          refine c_region ?_
          refine st (y_move rfl) rfl ?_
          refine st_if (y_ne_u (b := 0) rfl rfl) rfl (fun hw => ?_) (fun hw => ?_)
          · have hx := nxt_word (by omega) hgap hw
            have hxl := hx.lt
            refine l_nil ?_
            refine q_then ?_
            refine c_true rfl rfl ?_
            refine c_seq ?_
            refine c_region ?_
            refine st (y_move rfl) rfl ?_
            refine st (y_move rfl) rfl ?_
            first | refine st (y_add_in rfl rfl (by omega)) rfl ?_ | refine st (y_add_i rfl rfl (by omega) (by omega)) rfl ?_
            refine st (y_shl_i (k := 6) rfl rfl (by omega) (by omega) (by omega)) rfl ?_
            rw [show (((i / 64 + 1 + k : Nat) : Int) * 2 ^ 6) = ((64 * (i / 64 + 1 + k) : Nat) : Int) by omega]
            refine st (y_move rfl) rfl ?_
            refine sc rfl rfl isfn41 (c_TrailingZeros64 _ hl2 _ hTd) rfl ?_
            rintro _ _ ⟨rfl, rfl⟩
            first | refine st (y_add_in rfl rfl (by omega)) rfl ?_ | refine st (y_add_i rfl rfl (by omega) (by omega)) rfl ?_
            refine st (y_conv_iu rfl us3 Tryd.underlying22 rfl (by omega)) rfl ?_
            refine st (y_assign rfl) rfl ?_
            refine st (y_assign rfl) rfl ?_
            refine l_nil ?_
            refine q_then ?_
            refine c_ret ?_
            refine q_block_ret ?_
            refine q_then_ret ?_
            refine q_then_ret ?_
            refine q_block_ret ?_
            refine q_then_ret ?_
            refine q_end2 (.inl rfl) rfl rfl rfl ?_
            exact ⟨_, rfl, hKd, .inl ⟨_, rfl, hx⟩⟩
          ·
            refine l_nil ?_
            refine q_then ?_
            refine c_false rfl rfl ?_
            refine c_skip ?_
            refine q_block ?_
            refine q_then ?_
            refine c_region ?_
            first | refine st (y_add_in (b := 1) rfl rfl (by omega)) rfl ?_ | refine st (y_add_i (b := 1) rfl rfl (by omega) (by omega)) rfl ?_
            refine st (y_move rfl) rfl ?_
            refine l_nil ?_
            refine q_round (k + 1) ⟨rfl, rfl, rfl, rfl, trivial⟩ ⟨by omega, rfl, ?_⟩ (by omega)
            exact non_word (k := i / 64 + 1 + k) hgap (Decidable.not_not.1 hw)
        ·
          refine l_nil ?_
          refine q_then ?_
          refine c_seq ?_
          refine c_false rfl rfl ?_
          refine c_exit ?_
          refine q_then_exit ?_
          refine q_then_exit ?_
          refine q_block_hit ?_
          refine q_then ?_
          refine c_seq ?_
          refine c_region ?_
          refine st (y_assign (v := vU 0) rfl) rfl ?_
          refine st (y_assign rfl) rfl ?_
          refine l_nil ?_
          refine q_then ?_
          refine c_ret ?_
          refine q_end2 (.inl rfl) rfl rfl rfl ?_
          exact ⟨_, rfl, hKd, .inr ⟨rfl, non_past hgap (by omega)⟩⟩

end Go.Proofs.YtbahhdeblppooaaDoor

/- A word of a set is stored; cleanLastWord; Complement, each by its contract. -/
import Derived.Test.YtepmbglaalkbdaaDoorB1
import Derived.Test.YtepmbglaalkbdaaDoorC1
import Derived.Test.YtepmbglaalkbdaaDoorL11
set_option linter.unusedVariables false
set_option linter.unusedSimpArgs false
set_option maxRecDepth 100000
namespace Go.Proofs.YtepmbglaalkbdaaDoor
open Go Go.RowKit

theorem BW.store {w w' : World} {p q L : Nat} {ws tl : List Nat} {j x : Nat} (h : BW w p q L ws tl) (hq : Blk w' q 38 (((ws ++ tl).set j x).map vU)) (hK : Keep w w' [q]) (hx : x < 18446744073709551616) (hj : j < ws.length) : BW w' p q L (ws.set j x) tl := by
  have hne := h.ne
  refine ⟨?_, ?_, hne, set_lt64 h.lt hx, by simpa using h.cap⟩
  · have := h.st.keep hK (by simpa using hne)
    simpa using this
  · rw [List.set_append_left _ _ hj] at hq
    exact hq
theorem BW.drew {w : World} {p q L : Nat} {ws tl : List Nat} (h : BW w p q L ws tl) : BW w.drew p q L ws tl := h.keep (Keep.drew w []) (by simp) (by simp)
theorem BW.bset {w : World} {p q : Nat} {s : List Bool} {ws tl : List Nat} (h : BW w p q s.length ws tl) (hl : ws.length = nW s.length) (hb : ∀ i, i < 64 * ws.length → wbit ws i = s.getD i false) : BSet w p q s := by
  have e := pack_unique hl h.lt hb
  subst e
  exact ⟨tl, h⟩

theorem c_isLenExactMultiple (p q L : Nat) (ws tl : List Nat) (w : World) (hB : BW w p q L ws tl) (hL : L ≤ 1000000) :
    Cal Tryd.prog 52 [vP p] w fun v w' => v = vB (decide (L % 64 = 0)) ∧ w = w' := by
  have hst := hB.st
  have hm := and63 L
  refine go_in' Tryd.func52 rfl Tryd.ntmps52 (Nat.le_of_ble_eq_true rfl) ?_
  refine c_seq ?_
  refine c_region ?_
  refine st (y_assign rfl) rfl ?_
  refine l_nil ?_
  refine q_then ?_
  refine c_seq ?_
  refine c_region ?_
  refine st (y_move rfl) rfl ?_
  refine st (y_nil rfl) rfl ?_
  refine st (fa70_0 rfl) rfl ?_
  refine st (y_loadb rfl one22 (by assumption) (by rfl)) rfl ?_
  refine sc rfl rfl isfn48 (c_wordsIndex _ (by omega) _) rfl ?_
  rintro _ _ ⟨rfl, rfl⟩
  rw [hm]
  refine st (y_eq_u (b := 0) rfl rfl) rfl ?_
  refine st (y_assign rfl) rfl ?_
  refine l_nil ?_
  refine q_then ?_
  refine c_ret ?_
  refine q_end1 (.inl rfl) rfl rfl ?_
  exact ⟨_, rfl, rfl, rfl⟩

theorem c_cleanLastWord (p q L : Nat) (ws tl : List Nat) (w : World) (hB : BW w p q L ws tl) (hL : L ≤ 1000000) (hl : ws.length = nW L) :
    Cal Tryd.prog 46 [vP p] w fun v w' => v = vT [] ∧ (∃ ws', BW w' p q L ws' tl ∧ ws'.length = ws.length ∧ ∀ i, wbit ws' i = (wbit ws i && decide (i < L))) ∧ Keep w w' [q] := by
  refine go_in' Tryd.func46 rfl Tryd.ntmps46 (Nat.le_of_ble_eq_true rfl) ?_
  refine c_seq ?_
  refine c_region ?_
  refine st (y_move rfl) rfl ?_
  refine sc rfl rfl isfn52 (c_isLenExactMultiple p q L ws tl _ hB hL) rfl ?_
  rintro _ _ ⟨rfl, rfl⟩
  refine st (y_not rfl) rfl ?_
  refine l_nil ?_
  refine q_then ?_
  refine c_ifb rfl (fun h => ?_) (fun h => ?_)
  · have hm : L % 64 ≠ 0 := by simpa using h
    have hp : 0 < nW L := nW_pos (by omega)
    have hp2 : nW L ≤ 1000000 := by unfold nW; omega
    have hBd := hB.drew
    have hst := hBd.st
    have hwd := hBd.wd
    have e1 := getD_app (tl := tl) (show ws.length - 1 < ws.length by omega)
    have hx := getD_lt64 hB.lt (ws.length - 1)
    have hmm := and63 L
    have hne := hB.ne
    refine c_tail 21 mixed (by kernel_rfl) ?_
    refine ss (y_move rfl) rfl ?_
    refine ss (y_nil rfl) rfl ?_
    refine ss (fa70_1 rfl) rfl ?_
    refine ss (y_loadb rfl one34 (by assumption) (by rfl)) rfl ?_
    refine ss (y_move rfl) rfl ?_
    refine ss (y_nil rfl) rfl ?_
    refine ss (fa70_1 rfl) rfl ?_
    refine ss (y_loadb rfl one34 (by assumption) (by rfl)) rfl ?_
    refine ss (y_len rfl Tryd.underlying34) rfl ?_
    refine ss (y_sub_i (b := 1) rfl rfl (by omega) (by omega)) rfl ?_
    rw [show ((ws.length : Int) - 1) = ((ws.length - 1 : Nat) : Int) by omega]
    first | refine ss (y_index0 rfl rfl Tryd.underlying34 sz38 (by omega)) rfl ?_ | refine ss (y_index rfl rfl Tryd.underlying34 sz38 (by omega)) rfl ?_ | refine ss (y_indexA rfl rfl Tryd.underlying34 sz38 (by omega)) rfl ?_
    first | refine ss (y_loadM (0) rfl one38 (by assumption) (by first | omega | (simp only [List.length_append, List.length_map, List.length_replicate, List.length_set, List.length_take, List.length_drop]; omega) | (simp; done))) rfl ?_ | refine ss (y_load rfl one38 (by assumption)) rfl ?_
    refine ss (y_move rfl) rfl ?_
    refine ss (y_nil rfl) rfl ?_
    refine ss (fa70_0 rfl) rfl ?_
    refine ss (y_loadb rfl one22 (by assumption) (by rfl)) rfl ?_
    rw [e1]
    refine ssc rfl rfl isfn48 (c_wordsIndex _ (by omega) _) rfl ?_
    rw [hmm]
    refine ss (y_sub_u (a := 64) rfl rfl (by omega) (by omega)) rfl ?_
    refine ss (y_shr (a := 18446744073709551615) rfl rfl (by first | omega | assumption | (repeat (first | assumption | omega | decide | exact shl_lt64 _ _ | apply and_lt64 | apply or_lt64 | apply xor_lt64 | apply nt_lt | apply shr_lt64 | apply getD_lt64)))) rfl ?_
    refine ss (y_and rfl rfl (by first | omega | assumption | (repeat (first | assumption | omega | decide | exact shl_lt64 _ _ | apply and_lt64 | apply or_lt64 | apply xor_lt64 | apply nt_lt | apply shr_lt64 | apply getD_lt64))) (by first | omega | assumption | (repeat (first | assumption | omega | decide | exact shl_lt64 _ _ | apply and_lt64 | apply or_lt64 | apply xor_lt64 | apply nt_lt | apply shr_lt64 | apply getD_lt64)))) rfl ?_
    first | refine ss (y_index0 rfl rfl Tryd.underlying34 sz38 (by omega)) rfl ?_ | refine ss (y_index rfl rfl Tryd.underlying34 sz38 (by omega)) rfl ?_ | refine ss (y_indexA rfl rfl Tryd.underlying34 sz38 (by omega)) rfl ?_
    refine s_nil ?_
    show wpL _ _ _ _ _ _ _ _
    refine st_storeM vU rfl rfl rfl sz38 (by assumption) (by first | omega | (simp only [List.length_append, List.length_map, List.length_replicate, List.length_set, List.length_take, List.length_drop]; omega)) rfl ?_
    intro w2 hw2 hK2 hS2
    refine l_nil ?_
    refine q_end0 (.inr rfl) rfl ?_
    refine ⟨_, rfl, rfl, ⟨_, hBd.store hw2 hK2 (and_lt64 _ hx) (by omega), by simp, wbit_clean hl hm⟩, (Keep.drew w [q]).trans hK2 (fun i hi => .inl hi)⟩
  ·
    have hm : L % 64 = 0 := by simpa using h
    refine c_skip ?_
    refine q_end0 (.inr rfl) rfl ?_
    exact ⟨_, rfl, rfl, ⟨ws, hB, rfl, clean_full hl hm⟩, Keep.refl _ _⟩

theorem c_Complement (p q : Nat) (s : List Bool) (w : World) (hB : BSet w p q s) (hs : s.length ≤ 100001) :
    Cal Tryd.prog 33 [vP p] w fun v w' => ∃ p2 q2, v = vP p2 ∧ w.heap.size ≤ p2 ∧ w.heap.size ≤ q2 ∧ BSet w' p2 q2 (bnots s) ∧ Keep w w' [] := by
  have hlts := hB.lts
  obtain ⟨tl, hB⟩ := hB
  have hst := hB.st
  have hlen := pack_length s
  have hn : nW s.length ≤ 2000 := by unfold nW; omega
  refine go_in' Tryd.func33 rfl Tryd.ntmps33 (Nat.le_of_ble_eq_true rfl) ?_
  refine c_seq ?_
  refine c_region ?_
  refine st (y_assign rfl) rfl ?_
  refine l_nil ?_
  refine q_then ?_
  refine c_seq ?_
  refine c_region ?_
  refine st (y_move rfl) rfl ?_
  refine sc rfl rfl isfn45 (c_panicIfNull p _) rfl ?_
  rintro _ _ ⟨rfl, rfl⟩
  refine l_nil ?_
  refine q_then ?_
  refine c_seq ?_
  refine c_region ?_
  refine st (y_move rfl) rfl ?_
  refine st (y_nil rfl) rfl ?_
  refine st (fa70_0 rfl) rfl ?_
  refine st (y_loadb rfl one22 (by assumption) (by rfl)) rfl ?_
  refine sc rfl rfl isfn40 (c_New _ (by omega) _) rfl ?_
  rintro _ w1 ⟨p2, q2, rfl, hp2, hq2, hN, hK1⟩
  have hB1 := hB.keep hK1 (by simp) (by simp)
  clear hst
  have hst := hB1.st
  have hwd := hB1.wd
  have hlt1 := hN.st.lt
  have hlt2 := hN.wd.lt
  refine st (y_assign rfl) rfl ?_
  refine l_nil ?_
  refine q_then ?_
  refine c_seq ?_
  refine c_seq ?_
  refine c_region ?_
  refine st (y_move rfl) rfl ?_
  refine st (y_nil rfl) rfl ?_
  refine st (fa70_1 rfl) rfl ?_
  refine st (y_loadb rfl one34 (by assumption) (by rfl)) rfl ?_
  refine st (y_len rfl Tryd.underlying34) rfl ?_
  refine st (y_move (v := vI ((0 : Nat) : Int)) rfl) rfl ?_
  refine l_nil ?_
  refine q_then ?_
  refine c_block ?_
  refine c_loop (fun k : Nat => [(2, vP p2), (15, vS q (pack s).length ((pack s).length + tl.length)), (16, vI ((pack s).length : Nat)), (17, vI (k : Nat))]) (fun k w' => k ≤ (pack s).length ∧ Keep w1 w' [q2] ∧ ∃ ws, BW w' p2 q2 s.length ws [] ∧ ws.length = nW s.length ∧ ∀ i, wbit ws i = (decide (i < 64 * k) && !(wbit (pack s) i))) (fun k => (pack s).length - k) 0 ?_ ?_ ?_
  · exact ⟨rfl, rfl, rfl, rfl, trivial⟩
  · exact ⟨Nat.zero_le _, Keep.refl _ _, _, hN, by simp, fun i => by rw [wbit_zeros]; simp⟩
  · rintro k w2 ⟨hk, hK2, ws, hBW, hwl, hwb⟩
    have hwd2 := hwd.keep hK2 (by simp; omega)
    have hstR := hBW.st
    have hwdR := hBW.wd
    refine c_seq ?_
    refine c_region ?_
    refine st_if (y_lt_i rfl rfl) rfl (fun hlt => ?_) (fun hlt => ?_)
    · have hkn : k < (pack s).length := by omega
      have hg := getD_app (tl := tl) hkn
      have hx := pack_getD_lt s k
      have hxn := nt_lt64 hx
      refine l_nil ?_
      refine q_then ?_
      refine c_seq ?_
      refine c_true rfl rfl ?_
      refine c_skip ?_
      refine q_then ?_
      refine c_seq ?_
      refine c_block ?_
      refine c_seq ?_
      refine c_region ?_
      refine st (y_move rfl) rfl ?_
      first | refine st (y_index0 rfl rfl Tryd.underlying34 sz38 (by omega)) rfl ?_ | refine st (y_index rfl rfl Tryd.underlying34 sz38 (by omega)) rfl ?_ | refine st (y_indexA rfl rfl Tryd.underlying34 sz38 (by omega)) rfl ?_
      first | refine st (y_loadM (0) rfl one38 (by assumption) (by first | omega | (simp only [List.length_append, List.length_map, List.length_replicate, List.length_set, List.length_take, List.length_drop]; omega) | (simp; done))) rfl ?_ | refine st (y_load rfl one38 (by assumption)) rfl ?_
      refine st (y_assign rfl) rfl ?_
      refine st (y_assign rfl) rfl ?_
      refine l_nil ?_
      refine q_then ?_
      refine c_region ?_
      refine st (y_move rfl) rfl ?_
      refine st (y_nil rfl) rfl ?_
      refine st (fa70_1 rfl) rfl ?_
      refine st (y_loadb rfl one34 (by assumption) (by rfl)) rfl ?_
      refine st (y_move rfl) rfl ?_
      refine st (y_move rfl) rfl ?_
      refine st (y_compl rfl (by first | omega | assumption | (repeat (first | assumption | omega | decide | exact shl_lt64 _ _ | apply and_lt64 | apply or_lt64 | apply xor_lt64 | apply nt_lt | apply shr_lt64 | apply getD_lt64)))) rfl ?_
      first | refine st (y_index0 rfl rfl Tryd.underlying34 sz38 (by omega)) rfl ?_ | refine st (y_index rfl rfl Tryd.underlying34 sz38 (by omega)) rfl ?_ | refine st (y_indexA rfl rfl Tryd.underlying34 sz38 (by omega)) rfl ?_
      rw [hg]
      refine st_storeM vU rfl rfl rfl sz38 (by assumption) (by first | omega | (simp only [List.length_append, List.length_map, List.length_replicate, List.length_set, List.length_take, List.length_drop]; omega)) rfl ?_
      intro w3 hw3 hK3 hS3
      refine l_nil ?_
      refine q_block ?_
      refine q_then ?_
      refine c_region ?_
      first | refine st (y_add_in (b := 1) rfl rfl (by omega)) rfl ?_ | refine st (y_add_i (b := 1) rfl rfl (by omega) (by omega)) rfl ?_
      refine st (y_move rfl) rfl ?_
      refine l_nil ?_
      refine q_round (k + 1) ⟨rfl, rfl, rfl, rfl, trivial⟩ ⟨by omega, hK2.trans hK3 (fun i hi => .inl hi), _, hBW.store hw3 hK3 hxn (by omega), by simpa using hwl, fun i => ?_⟩ (by omega)
      have hb := bit64 i
      rw [wbit_set _ _ _ _ (by omega)]
      by_cases h : i / 64 = k
      · have h5 : i < 64 * (k + 1) := by omega
        rw [if_pos h, show nt ((pack s).getD k 0) = nt' ((pack s).getD k 0) from rfl, nt_testBit, wbit_of, h]
        simp [hb, h5]
      · rw [if_neg h, hwb]
        have : decide (i < 64 * k) = decide (i < 64 * (k + 1)) := decide_eq_decide.2 (by omega)
        rw [this]
    ·
      have hkn : k = (pack s).length := by omega
      have hK12 := hK1.trans hK2 (fun i hi => by simp only [List.mem_singleton] at hi; exact .inr (by omega))
      refine l_nil ?_
      refine q_then ?_
      refine c_seq ?_
      refine c_false rfl rfl ?_
      refine c_exit ?_
      refine q_then_exit ?_
      refine q_then_exit ?_
      refine q_block_hit ?_
      refine q_then ?_
      refine c_seq ?_
      refine c_region ?_
      refine st (y_move rfl) rfl ?_
      refine sc rfl rfl isfn46 (c_cleanLastWord p2 q2 s.length ws [] _ hBW (by omega) hwl) rfl ?_
      rintro _ w4 ⟨rfl, ⟨ws', hBW', hwl', hwb'⟩, hK4⟩
      refine l_nil ?_
      refine q_then ?_
      refine c_ret ?_
      refine q_end1 (.inl rfl) rfl rfl ?_
      refine ⟨_, rfl, p2, q2, rfl, hp2, hq2, ?_, hK12.trans hK4 (fun i hi => by simp only [List.mem_singleton] at hi; exact .inr (by omega))⟩
      have hbl : (bnots s).length = s.length := by simp [bnots]
      rw [← hbl] at hBW'
      refine hBW'.bset (by rw [hbl]; omega) fun i hi => ?_
      rw [hwb', hwb, bnots_getD, wbit_pack]
      have h6 : i < 64 * k := by rw [hkn, hlen]; omega
      simp only [h6, decide_true, Bool.true_and]
      cases s.getD i false <;> simp

end Go.Proofs.YtepmbglaalkbdaaDoor

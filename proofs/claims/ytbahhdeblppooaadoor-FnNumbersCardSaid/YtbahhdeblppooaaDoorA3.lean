/- Set, Test and the thin package's made, each by its contract, over sets as lists of truths. -/
import Derived.Test.YtbahhdeblppooaaDoorA2
import Derived.Test.YtbahhdeblppooaaDoorL2
set_option linter.unusedVariables false
set_option linter.unusedSimpArgs false
set_option maxRecDepth 100000
namespace Go.Proofs.YtbahhdeblppooaaDoor
open Go Go.RowKit

/-- the set at p is s; its words lie at q -/
def BSet (w : World) (p q : Nat) (s : List Bool) : Prop := ∃ tl, BW w p q s.length (pack s) tl
theorem BSet.keep {w w' : World} {p q : Nat} {s : List Bool} {l : List Nat} (h : BSet w p q s) (k : Keep w w' l) (hp : p ∉ l) (hq : q ∉ l) : BSet w' p q s := by
  obtain ⟨tl, h⟩ := h; exact ⟨tl, h.keep k hp hq⟩
theorem BSet.lts {w : World} {p q : Nat} {s : List Bool} (h : BSet w p q s) : p < w.heap.size ∧ q < w.heap.size ∧ p ≠ q := by
  obtain ⟨tl, h⟩ := h; exact ⟨h.st.lt, h.wd.lt, h.ne⟩

theorem c_New' (L : Nat) (hL : L ≤ 1000000) (w : World) : Cal Tryd.prog 38 [vU L] w fun v w' => ∃ p q, v = vP p ∧ w.heap.size ≤ p ∧ w.heap.size ≤ q ∧ BSet w' p q (List.replicate L false) ∧ Keep w w' [] := by
  refine (c_New L hL w).mono ?_
  rintro v w' ⟨p, q, rfl, h1, h2, h3, h4⟩
  exact ⟨p, q, rfl, h1, h2, ⟨[], by rw [pack_zeros, List.length_replicate]; exact h3⟩, h4⟩


theorem c_Set (p q : Nat) (s : List Bool) (i : Nat) (w : World) (hB : BSet w p q s) (hi : i ≤ 100000) (hs : s.length ≤ 100001) :
    Cal Tryd.prog 39 [vP p, vU i] w fun v w' => v = vP p ∧ ∃ q', BSet w' p q' (put s i true) ∧ (q' = q ∨ w.heap.size ≤ q') ∧ Keep w w' [p, q] := by
  have hq : q < w.heap.size := hB.lts.2.1
  have hp : p < w.heap.size := hB.lts.1
  obtain ⟨tl, hB⟩ := hB
  have hst := hB.st
  have hwd := hB.wd
  have hne := hB.ne
  have hcap := hB.cap
  refine go_in' Tryd.func39 rfl Tryd.ntmps39 (Nat.le_of_ble_eq_true rfl) ?_
  refine c_seq ?_
  refine c_region ?_
  refine st (y_assign rfl) rfl ?_
  refine l_nil ?_
  refine q_then ?_
  refine c_cut (fun _ : Nat => [(0, vP p), (1, vU i)]) (fun q1 w1 => ∃ t : List Bool, BSet w1 p q1 t ∧ i < t.length ∧ t.set i true = put s i true ∧ (q1 = q ∨ w.heap.size ≤ q1) ∧ Keep w w1 [p, q]) ?_ ?_
  · refine c_seq ?_
    refine c_region ?_
    refine st (y_move rfl) rfl ?_
    refine st (y_move rfl) rfl ?_
    refine st (y_nil rfl) rfl ?_
    refine st (fa66_0 rfl) rfl ?_
    refine st (y_loadb rfl one22 (by assumption) (by rfl)) rfl ?_
    refine st_if (y_ge_u rfl rfl) rfl (fun hlt => ?_) (fun hlt => ?_)
    · refine l_nil ?_
      refine q_then ?_
      refine c_true rfl rfl ?_
      refine c_region ?_
      refine st (y_move rfl) rfl ?_
      refine st (y_move rfl) rfl ?_
      refine sc rfl rfl isfn51 (c_extendSet p q s.length (pack s) tl i _ hB hi (by rw [pack_length]; exact nW_le _ _ (by omega))) rfl ?_
      rintro _ w1 ⟨rfl, q1, tl1, hB1, hq1, hK1⟩
      refine l_nil ?_
      refine q_meet q1 ⟨rfl, rfl, trivial⟩ ⟨ext s (i + 1), ⟨tl1, ?_⟩, by rw [ext_length]; omega, rfl, hq1, hK1⟩
      rw [ext_length, Nat.max_eq_right (by omega), pack_ext s _ (by omega)]
      rw [pack_length] at hB1
      exact hB1
    ·
      refine l_nil ?_
      refine q_then ?_
      refine c_false rfl rfl ?_
      refine c_skip ?_
      exact q_meet q ⟨rfl, rfl, trivial⟩ ⟨s, ⟨tl, hB⟩, by omega, (put_of_lt _ (by omega)).symm, .inl rfl, Keep.refl _ _⟩
  ·
    intro q1 w1 ⟨t, ⟨tl1, hB1⟩, hit, hput, hq1, hK1⟩
    clear hst hwd hne hcap
    have hst := hB1.st
    have hwd := hB1.wd
    have hne := hB1.ne
    have hlen := pack_length t
    have hj : i / 64 < (pack t).length := by rw [pack_length]; unfold nW; omega
    refine c_seq ?_
    refine c_tail 13 mixed (by kernel_rfl) ?_
    have hst := hst.drew
    have hwd := hwd.drew
    have hlt := pack_getD_lt t (i / 64)
    have hgd : (pack t ++ tl1).getD (i >>> 6) 0 = (pack t).getD (i / 64) 0 := by rw [shr6, List.getD_eq_getElem?_getD, List.getD_eq_getElem?_getD, List.getElem?_append_left hj]
    refine ss (y_move rfl) rfl ?_
    refine ss (y_nil rfl) rfl ?_
    refine ss (fa66_1 rfl) rfl ?_
    refine ss (y_loadb rfl one64 (by assumption) (by rfl)) rfl ?_
    refine ss (y_move rfl) rfl ?_
    refine ss (y_shr (k := 6) rfl rfl (by first | omega | assumption | (repeat (first | assumption | omega | decide | exact shl_lt64 _ _ | apply and_lt64 | apply or_lt64 | apply xor_lt64 | apply nt_lt | apply shr_lt64 | apply getD_lt64)))) rfl ?_
    first | refine ss (y_index0 rfl rfl Tryd.underlying64 sz67 (by omega)) rfl ?_ | refine ss (y_index rfl rfl Tryd.underlying64 sz67 (by omega)) rfl ?_ | refine ss (y_indexA rfl rfl Tryd.underlying64 sz67 (by omega)) rfl ?_
    first | refine ss (y_loadM (0) rfl one67 (by assumption) (by first | omega | (simp only [List.length_append, List.length_map, List.length_replicate, List.length_set, List.length_take, List.length_drop]; omega) | (simp; done))) rfl ?_ | refine ss (y_load rfl one67 (by assumption)) rfl ?_
    refine ss (y_move rfl) rfl ?_
    rw [hgd]
    refine ssc rfl rfl isfn40 (c_wordsIndex i (by omega) _) rfl ?_
    refine ss (y_shl (a := 1) rfl rfl) rfl ?_
    refine ss (y_or rfl rfl (by first | omega | assumption | (repeat (first | assumption | omega | decide | exact shl_lt64 _ _ | apply and_lt64 | apply or_lt64 | apply xor_lt64 | apply nt_lt | apply shr_lt64 | apply getD_lt64))) (by first | omega | assumption | (repeat (first | assumption | omega | decide | exact shl_lt64 _ _ | apply and_lt64 | apply or_lt64 | apply xor_lt64 | apply nt_lt | apply shr_lt64 | apply getD_lt64)))) rfl ?_
    first | refine ss (y_index0 rfl rfl Tryd.underlying64 sz67 (by omega)) rfl ?_ | refine ss (y_index rfl rfl Tryd.underlying64 sz67 (by omega)) rfl ?_ | refine ss (y_indexA rfl rfl Tryd.underlying64 sz67 (by omega)) rfl ?_
    refine s_nil ?_
    show wpL _ _ _ _ _ _ _ _
    refine st_storeM vU rfl rfl rfl sz67 (by assumption) (by first | omega | (simp only [List.length_append, List.length_map, List.length_replicate, List.length_set, List.length_take, List.length_drop]; omega)) rfl ?_
    intro w2 hwd2 hK2 hS2
    have hst := hst.keep hK2 (by simp only [List.mem_cons, List.not_mem_nil, or_false, not_or, not_false_eq_true] <;> omega)
    refine l_nil ?_
    refine q_then ?_
    refine c_seq ?_
    refine c_region ?_
    refine st (y_move rfl) rfl ?_
    refine st (y_assign rfl) rfl ?_
    refine l_nil ?_
    refine q_then ?_
    refine c_ret ?_
    refine q_end1 (.inl rfl) rfl rfl ?_
    have hK : Keep w w2 [p, q] := (hK1.trans (Keep.drew w1 []) (by simp)).trans hK2 (by intro x; simp only [List.mem_cons, List.not_mem_nil, or_false]; omega)
    refine ⟨_, rfl, rfl, q1, ⟨tl1, ?_⟩, hq1, hK⟩
    rw [← hput, ← pack_set t i hit]
    refine ⟨?_, ?_, hB1.ne, ?_, by simpa using hB1.cap⟩
    · simpa using hst
    · rw [List.set_append_left _ _ (by rw [shr6]; exact hj), shr6, and63] at hwd2
      exact hwd2
    · exact set_lt64 (pack_lt t) (Nat.or_lt_two_pow (n := 64) hlt (Nat.mod_lt _ (by decide)))

































theorem c_made (L : Nat) (A : Option Addr) (n c : Nat) (xs : List Nat) (w : World) (hR : Rd w A n xs) (hL : L ≤ 6000) (hx : ∀ x ∈ xs, x ≤ 6000) :
    Cal Tryd.prog 22 [.agg #[vU L, .slice A n c]] w fun v w' => ∃ p q, v = vT [vP p, vB true] ∧ w.heap.size ≤ p ∧ w.heap.size ≤ q ∧ BSet w' p q (mkS L xs) ∧ Keep w w' [] := by
  have hn := hR.1
  refine go_in' Tryd.func22 rfl Tryd.ntmps22 (Nat.le_of_ble_eq_true rfl) ?_
  refine c_seq ?_
  refine c_region ?_
  refine st_box _ rfl rfl rfl ?_
  intro b1 w1 hb1 hB1 hK1 hS1
  refine st (y_assign rfl) rfl ?_
  refine st (y_assign rfl) rfl ?_
  refine l_nil ?_
  refine q_then ?_
  refine c_seq ?_
  refine c_seq ?_
  refine c_region ?_
  refine st (fa25_0 rfl) rfl ?_
  refine st (y_loadb rfl one22 (by assumption) (by rfl)) rfl ?_
  refine st_f (y_gt_u (b := 6000) rfl rfl) (by omega) rfl ?_
  refine l_nil ?_
  refine q_then ?_
  refine c_false rfl rfl ?_
  refine c_skip ?_
  refine q_then ?_
  refine c_seq ?_
  refine c_region ?_
  refine st (fa25_0 rfl) rfl ?_
  refine st (y_loadb rfl one22 (by assumption) (by rfl)) rfl ?_
  refine sc rfl rfl isfn38 (c_New' L (by omega) _) rfl ?_
  rintro _ w2 ⟨p, q0, rfl, hp, hq0, hset, hK2⟩
  have hB1 := hB1.keep hK2 (by simp only [List.mem_cons, List.not_mem_nil, or_false, not_or, not_false_eq_true] <;> omega)
  have hR2 := (hR.keep hK1 (by simp)).keep hK2 (by simp)
  refine st (y_assign rfl) rfl ?_
  refine l_nil ?_
  refine q_then ?_
  refine c_seq ?_
  refine c_seq ?_
  refine c_region ?_
  refine st (fa25_1 rfl) rfl ?_
  refine st (y_loadb rfl one23 (by assumption) (by rfl)) rfl ?_
  refine st (y_len rfl Tryd.underlying23) rfl ?_
  refine st (y_move (v := vI ((0 : Nat) : Int)) rfl) rfl ?_
  refine l_nil ?_
  refine q_then ?_
  refine c_block ?_
  have hn63 := hR.2.1
  refine c_loop (fun x : Nat × Nat => [(4, vP p), (14, .slice A n c), (15, vI (n : Nat)), (16, vI (x.1 : Nat))]) (fun x w' => x.1 ≤ n ∧ BSet w' p x.2 (mkS L (xs.take x.1)) ∧ w.heap.size ≤ x.2 ∧ Keep w w' [] ∧ Rd w' A n xs) (fun x => n - x.1) (0, q0) ?_ ?_ ?_
  · exact ⟨rfl, rfl, rfl, rfl, trivial⟩
  · exact ⟨Nat.zero_le _, by simpa [mkS] using hset, by omega, hK1.trans hK2 (by simp), hR2⟩
  · intro ⟨k, q⟩ w3 ⟨hk, hBk, hq, hKk, hRk⟩
    simp only at hk hBk hq hKk hRk ⊢
    refine c_seq ?_
    refine c_region ?_
    refine st_if (y_lt_i rfl rfl) rfl (fun hlt => ?_) (fun hlt => ?_)
    · obtain ⟨ad, rfl, had, hcell⟩ := hRk.2.2 (by omega)
      have hkn : k < n := by omega
      have hc := hcell k hkn
      have hxk : xs.getD k 0 ≤ 6000 := by
        rw [List.getD_eq_getElem?_getD, List.getElem?_eq_getElem (by omega)]
        exact hx _ (List.getElem_mem _)
      have hlen := mkS_length_le L 6001 (xs.take k) (by omega) (fun x h => by have := hx x (List.mem_of_mem_take h); omega)
      refine l_nil ?_
      refine q_then ?_
      refine c_seq ?_
      refine c_true rfl rfl ?_
      refine c_skip ?_
      refine q_then ?_
      refine c_seq ?_
      refine c_block ?_
      refine c_seq ?_
      refine c_region ?_
      first | refine st (y_index0 rfl rfl Tryd.underlying23 sz22 (by omega)) rfl ?_ | refine st (y_index rfl rfl Tryd.underlying23 sz22 (by omega)) rfl ?_ | refine st (y_indexA rfl rfl Tryd.underlying23 sz22 (by omega)) rfl ?_
      first | refine st (y_loadM (0) rfl one22 (by assumption) (by first | omega | (simp only [List.length_append, List.length_map, List.length_replicate, List.length_set, List.length_take, List.length_drop]; omega) | (simp; done))) rfl ?_ | refine st (y_load rfl one22 (by assumption)) rfl ?_
      refine st (y_assign rfl) rfl ?_
      refine l_nil ?_
      refine q_then ?_
      refine c_seq ?_
      refine c_seq ?_
      refine c_region ?_
      refine st (y_move rfl) rfl ?_
      refine st_f (y_gt_u (b := 6000) rfl rfl) (by omega) rfl ?_
      refine l_nil ?_
      refine q_then ?_
      refine c_false rfl rfl ?_
      refine c_skip ?_
      refine q_then ?_
      refine c_region ?_
      refine st (y_move rfl) rfl ?_
      refine st (y_move rfl) rfl ?_
      refine sc rfl rfl isfn39 (c_Set p q _ _ _ hBk (by omega) (by omega)) rfl ?_
      rintro _ w4 ⟨rfl, q', hB', hq', hK'⟩
      refine l_nil ?_
      refine q_block ?_
      refine q_then ?_
      refine c_region ?_
      first | refine st (y_add_in (b := 1) rfl rfl (by omega)) rfl ?_ | refine st (y_add_i (b := 1) rfl rfl (by omega) (by omega)) rfl ?_
      refine st (y_move rfl) rfl ?_
      refine l_nil ?_
      have hK4 : Keep w w4 [] := hKk.trans hK' (by intro x; simp only [List.mem_cons, List.not_mem_nil, or_false, false_or]; omega)
      refine q_round (k + 1, q') ⟨rfl, rfl, rfl, rfl, trivial⟩ ⟨by simp only; omega, ?_, by have := hKk.size; simp only; omega, hK4, hR.keep hK4 (by simp)⟩ (by simp only; omega)
      simp only
      rw [take_succ_getD xs k (by omega), mkS_snoc]
      exact hB'
    ·
      have hkn : k = n := by omega
      refine l_nil ?_
      refine q_then ?_
      refine c_seq ?_
      refine c_false rfl rfl ?_
      refine c_exit ?_
      refine q_then_exit ?_
      refine q_then_exit ?_
      refine q_block_hit ?_
      refine q_then ?_
      refine c_seq ?_
      refine c_region ?_
      refine st (y_move rfl) rfl ?_
      refine st (y_assign rfl) rfl ?_
      refine st (y_assign rfl) rfl ?_
      refine l_nil ?_
      refine q_then ?_
      refine c_ret ?_
      refine q_end2 (.inl rfl) rfl rfl rfl ?_
      refine ⟨_, rfl, p, q, rfl, by omega, hq, ?_, hKk⟩
      rw [hkn, ← hn, List.take_length] at hBk
      exact hBk

end Go.Proofs.YtbahhdeblppooaaDoor

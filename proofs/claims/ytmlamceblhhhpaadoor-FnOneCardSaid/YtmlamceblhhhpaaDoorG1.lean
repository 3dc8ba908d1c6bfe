/- Clear, Flip, SetTo, the reference's Put, each by its contract. -/
import Derived.Test.YtmlamceblhhhpaaDoorB2
import Derived.Test.YtmlamceblhhhpaaDoorN2
import Derived.Test.YtmlamceblhhhpaaDoorL14
set_option linter.unusedVariables false
set_option linter.unusedSimpArgs false
set_option maxRecDepth 100000
namespace Go.Proofs.YtmlamceblhhhpaaDoor
open Go Go.RowKit

theorem c_Clear (p q : Nat) (s : List Bool) (i : Nat) (w : World) (hB : BSet w p q s) (hi : i ≤ 100000) (hs : s.length ≤ 100001) :
    Cal Tryd.prog 21 [vP p, vU i] w fun v w' => v = vP p ∧ ∃ q', BSet w' p q' (clr s i) ∧ (q' = q ∨ w.heap.size ≤ q') ∧ Keep w w' [p, q] := by
  obtain ⟨tl, hBW⟩ := id hB
  have hst := hBW.st
  refine go_in' Tryd.func21 rfl Tryd.ntmps21 (Nat.le_of_ble_eq_true rfl) ?_
  refine c_seq ?_
  refine c_region ?_
  refine st (y_assign rfl) rfl ?_
  refine l_nil ?_
  refine q_then ?_
  refine c_seq ?_
  refine c_seq ?_
  refine c_region ?_
  refine st (y_move rfl) rfl ?_
  refine st (y_move rfl) rfl ?_
  refine st (y_nil rfl) rfl ?_
  refine st (fa53_0 rfl) rfl ?_
  refine st (y_loadb rfl one22 (by assumption) (by rfl)) rfl ?_
  refine st_if (y_ge_u rfl rfl) rfl (fun hge => ?_) (fun hge => ?_)
  · refine l_nil ?_
    refine q_then ?_
    refine c_true rfl rfl ?_
    refine c_seq ?_
    refine c_region ?_
    refine st (y_move rfl) rfl ?_
    refine st (y_assign rfl) rfl ?_
    refine l_nil ?_
    refine q_then ?_
    refine c_ret ?_
    refine q_then_ret ?_
    refine q_end1 (.inl rfl) rfl rfl ?_
    exact ⟨_, rfl, rfl, q, by unfold clr; rw [if_neg (by omega)]; exact hB, .inl rfl, Keep.refl _ _⟩
  ·
    have hj : i / 64 < (pack s).length := by rw [pack_length]; unfold nW; omega
    have hnn : (pack s).length ≤ 2000 := by rw [pack_length]; unfold nW; omega
    have hBWd := hBW.drew
    have hst2 := hBWd.st
    have hwd := hBWd.wd
    have hg := getD_app (tl := tl) hj
    have hx := pack_getD_lt s (i / 64)
    have hdiv := shr6 i
    have hmod := and63 i
    have hb := bit64 i
    clear hst
    refine l_nil ?_
    refine q_then ?_
    refine c_false rfl rfl ?_
    refine c_skip ?_
    refine q_then ?_
    refine c_seq ?_
    refine c_tail 13 mixed (by kernel_rfl) ?_
    refine ss (y_move rfl) rfl ?_
    refine ss (y_nil rfl) rfl ?_
    refine ss (fa53_1 rfl) rfl ?_
    refine ss (y_loadb rfl one51 (by assumption) (by rfl)) rfl ?_
    refine ss (y_move rfl) rfl ?_
    refine ss (y_shr (k := 6) rfl rfl (by first | omega | assumption | (repeat (first | assumption | omega | decide | exact shl_lt64 _ _ | apply and_lt64 | apply or_lt64 | apply xor_lt64 | apply nt_lt | apply shr_lt64 | apply getD_lt64)))) rfl ?_
    rw [hdiv]
    first | refine ss (y_index0 rfl rfl Tryd.underlying51 sz55 (by omega)) rfl ?_ | refine ss (y_index rfl rfl Tryd.underlying51 sz55 (by omega)) rfl ?_ | refine ss (y_indexA rfl rfl Tryd.underlying51 sz55 (by omega)) rfl ?_
    first | refine ss (y_loadM (0) rfl one55 (by assumption) (by first | omega | (simp only [List.length_append, List.length_map, List.length_replicate, List.length_set, List.length_take, List.length_drop]; omega) | (simp; done))) rfl ?_ | refine ss (y_load rfl one55 (by assumption)) rfl ?_
    refine ss (y_move rfl) rfl ?_
    rw [hg]
    refine ssc rfl rfl isfn37 (c_wordsIndex _ (by omega) _) rfl ?_
    rw [hmod]
    refine ss (y_shl (a := 1) rfl rfl) rfl ?_
    refine ss (y_andNot rfl rfl (by first | omega | assumption | (repeat (first | assumption | omega | decide | exact shl_lt64 _ _ | apply and_lt64 | apply or_lt64 | apply xor_lt64 | apply nt_lt | apply shr_lt64 | apply getD_lt64))) (by first | omega | assumption | (repeat (first | assumption | omega | decide | exact shl_lt64 _ _ | apply and_lt64 | apply or_lt64 | apply xor_lt64 | apply nt_lt | apply shr_lt64 | apply getD_lt64)))) rfl ?_
    first | refine ss (y_index0 rfl rfl Tryd.underlying51 sz55 (by omega)) rfl ?_ | refine ss (y_index rfl rfl Tryd.underlying51 sz55 (by omega)) rfl ?_ | refine ss (y_indexA rfl rfl Tryd.underlying51 sz55 (by omega)) rfl ?_
    refine s_nil ?_
    show wpL _ _ _ _ _ _ _ _
    rw [show nt ((1 <<< (i % 64)) % 18446744073709551616) = nt' ((1 <<< (i % 64)) % 18446744073709551616) from rfl]
    refine st_storeM vU rfl rfl rfl sz55 (by assumption) (by first | omega | (simp only [List.length_append, List.length_map, List.length_replicate, List.length_set, List.length_take, List.length_drop]; omega)) rfl ?_
    intro w2 hw2 hK2 hS2
    refine l_nil ?_
    refine q_then ?_
    refine c_seq ?_
    refine c_region ?_
    refine st (y_move rfl) rfl ?_
    refine st (y_assign rfl) rfl ?_
    refine l_nil ?_
    refine q_then ?_
    refine c_ret ?_
    refine q_end1 (.inl rfl) rfl rfl ?_
    have hBW2 := hBWd.store hw2 hK2 (and_lt64 _ hx) hj
    refine ⟨_, rfl, rfl, q, ?_, .inl rfl, (Keep.drew w [p, q]).trans hK2 (fun i hi => .inl (by simp only [List.mem_singleton] at hi; subst hi; simp))⟩
    have hcl : (clr s i).length = s.length := by unfold clr; rw [if_pos (by omega)]; simp
    rw [← hcl] at hBW2
    refine hBW2.bset (by rw [List.length_set, pack_length, hcl]) fun k _ => ?_
    rw [clear_word hj, wbit_pack]
    unfold clr
    rw [if_pos (by omega), set_getD _ _ _ _ (by omega)]
    by_cases e : k = i
    · rw [if_pos e]; simp [e]
    · rw [if_neg e]; simp [e]

theorem c_Flip (p q : Nat) (s : List Bool) (i : Nat) (w : World) (hB : BSet w p q s) (hi : i ≤ 100000) (hs : s.length ≤ 100001) :
    Cal Tryd.prog 22 [vP p, vU i] w fun v w' => v = vP p ∧ ∃ q', BSet w' p q' (flp s i) ∧ (q' = q ∨ w.heap.size ≤ q') ∧ Keep w w' [p, q] := by
  obtain ⟨tl, hBW⟩ := id hB
  have hst := hBW.st
  refine go_in' Tryd.func22 rfl Tryd.ntmps22 (Nat.le_of_ble_eq_true rfl) ?_
  refine c_seq ?_
  refine c_region ?_
  refine st (y_assign rfl) rfl ?_
  refine l_nil ?_
  refine q_then ?_
  refine c_seq ?_
  refine c_seq ?_
  refine c_region ?_
  refine st (y_move rfl) rfl ?_
  refine st (y_move rfl) rfl ?_
  refine st (y_nil rfl) rfl ?_
  refine st (fa53_0 rfl) rfl ?_
  refine st (y_loadb rfl one22 (by assumption) (by rfl)) rfl ?_
  refine st_if (y_ge_u rfl rfl) rfl (fun hge => ?_) (fun hge => ?_)
  · refine l_nil ?_
    refine q_then ?_
    refine c_true rfl rfl ?_
    refine c_seq ?_
    refine c_region ?_
    refine st (y_move rfl) rfl ?_
    refine st (y_move rfl) rfl ?_
    refine sc rfl rfl isfn20 (c_Set p q s i _ hB hi hs) rfl ?_
    rintro _ w1 ⟨rfl, q1, hB1, hq1, hK1⟩
    refine st (y_assign rfl) rfl ?_
    refine l_nil ?_
    refine q_then ?_
    refine c_ret ?_
    refine q_then_ret ?_
    refine q_end1 (.inl rfl) rfl rfl ?_
    exact ⟨_, rfl, rfl, q1, by unfold flp; rw [if_neg (by omega)]; exact hB1, hq1, hK1⟩
  ·
    have hj : i / 64 < (pack s).length := by rw [pack_length]; unfold nW; omega
    have hnn : (pack s).length ≤ 2000 := by rw [pack_length]; unfold nW; omega
    have hBWd := hBW.drew
    have hst2 := hBWd.st
    have hwd := hBWd.wd
    have hg := getD_app (tl := tl) hj
    have hx := pack_getD_lt s (i / 64)
    have hdiv := shr6 i
    have hmod := and63 i
    have hb := bit64 i
    clear hst
    refine l_nil ?_
    refine q_then ?_
    refine c_false rfl rfl ?_
    refine c_skip ?_
    refine q_then ?_
    refine c_seq ?_
    refine c_tail 13 mixed (by kernel_rfl) ?_
    refine ss (y_move rfl) rfl ?_
    refine ss (y_nil rfl) rfl ?_
    refine ss (fa53_1 rfl) rfl ?_
    refine ss (y_loadb rfl one51 (by assumption) (by rfl)) rfl ?_
    refine ss (y_move rfl) rfl ?_
    refine ss (y_shr (k := 6) rfl rfl (by first | omega | assumption | (repeat (first | assumption | omega | decide | exact shl_lt64 _ _ | apply and_lt64 | apply or_lt64 | apply xor_lt64 | apply nt_lt | apply shr_lt64 | apply getD_lt64)))) rfl ?_
    rw [hdiv]
    first | refine ss (y_index0 rfl rfl Tryd.underlying51 sz55 (by omega)) rfl ?_ | refine ss (y_index rfl rfl Tryd.underlying51 sz55 (by omega)) rfl ?_ | refine ss (y_indexA rfl rfl Tryd.underlying51 sz55 (by omega)) rfl ?_
    first | refine ss (y_loadM (0) rfl one55 (by assumption) (by first | omega | (simp only [List.length_append, List.length_map, List.length_replicate, List.length_set, List.length_take, List.length_drop]; omega) | (simp; done))) rfl ?_ | refine ss (y_load rfl one55 (by assumption)) rfl ?_
    refine ss (y_move rfl) rfl ?_
    rw [hg]
    refine ssc rfl rfl isfn37 (c_wordsIndex _ (by omega) _) rfl ?_
    rw [hmod]
    refine ss (y_shl (a := 1) rfl rfl) rfl ?_
    refine ss (y_xor rfl rfl (by first | omega | assumption | (repeat (first | assumption | omega | decide | exact shl_lt64 _ _ | apply and_lt64 | apply or_lt64 | apply xor_lt64 | apply nt_lt | apply shr_lt64 | apply getD_lt64))) (by first | omega | assumption | (repeat (first | assumption | omega | decide | exact shl_lt64 _ _ | apply and_lt64 | apply or_lt64 | apply xor_lt64 | apply nt_lt | apply shr_lt64 | apply getD_lt64)))) rfl ?_
    first | refine ss (y_index0 rfl rfl Tryd.underlying51 sz55 (by omega)) rfl ?_ | refine ss (y_index rfl rfl Tryd.underlying51 sz55 (by omega)) rfl ?_ | refine ss (y_indexA rfl rfl Tryd.underlying51 sz55 (by omega)) rfl ?_
    refine s_nil ?_
    show wpL _ _ _ _ _ _ _ _
    refine st_storeM vU rfl rfl rfl sz55 (by assumption) (by first | omega | (simp only [List.length_append, List.length_map, List.length_replicate, List.length_set, List.length_take, List.length_drop]; omega)) rfl ?_
    intro w2 hw2 hK2 hS2
    refine l_nil ?_
    refine q_then ?_
    refine c_seq ?_
    refine c_region ?_
    refine st (y_move rfl) rfl ?_
    refine st (y_assign rfl) rfl ?_
    refine l_nil ?_
    refine q_then ?_
    refine c_ret ?_
    refine q_end1 (.inl rfl) rfl rfl ?_
    have hBW2 := hBWd.store hw2 hK2 (xor_lt64 hx (Nat.mod_lt _ (by decide))) hj
    refine ⟨_, rfl, rfl, q, ?_, .inl rfl, (Keep.drew w [p, q]).trans hK2 (fun i hi => .inl (by simp only [List.mem_singleton] at hi; subst hi; simp))⟩
    have hcl : (flp s i).length = s.length := by unfold flp; rw [if_pos (by omega)]; simp
    rw [← hcl] at hBW2
    refine hBW2.bset (by rw [List.length_set, pack_length, hcl]) fun k _ => ?_
    rw [flip_word hj, wbit_pack]
    unfold flp
    rw [if_pos (by omega), set_getD _ _ _ _ (by omega)]
    by_cases e : k = i
    · rw [if_pos e, e]; simp
    · rw [if_neg e]; simp [e]

theorem c_SetTo (p q : Nat) (s : List Bool) (i : Nat) (x : Bool) (w : World) (hB : BSet w p q s) (hi : i ≤ 100000) (hs : s.length ≤ 100001) :
    Cal Tryd.prog 23 [vP p, vU i, vB x] w fun v w' => v = vP p ∧ ∃ q', BSet w' p q' (if x then put s i true else clr s i) ∧ (q' = q ∨ w.heap.size ≤ q') ∧ Keep w w' [p, q] := by
  refine go_in' Tryd.func23 rfl Tryd.ntmps23 (Nat.le_of_ble_eq_true rfl) ?_
  cases x
  ·
    refine c_seq ?_
    refine c_region ?_
    refine st (y_assign rfl) rfl ?_
    refine l_nil ?_
    refine q_then ?_
    refine c_seq ?_
    refine c_seq ?_
    refine c_region ?_
    refine st (y_move rfl) rfl ?_
    refine l_nil ?_
    refine q_then ?_
    refine c_false rfl rfl ?_
    refine c_skip ?_
    refine q_then ?_
    refine c_seq ?_
    refine c_region ?_
    refine st (y_move rfl) rfl ?_
    refine st (y_move rfl) rfl ?_
    refine sc rfl rfl isfn21 (c_Clear p q s i _ hB hi hs) rfl ?_
    rintro _ w1 ⟨rfl, q1, hB1, hq1, hK1⟩
    refine st (y_assign rfl) rfl ?_
    refine l_nil ?_
    refine q_then ?_
    refine c_ret ?_
    refine q_end1 (.inl rfl) rfl rfl ?_
    exact ⟨_, rfl, rfl, q1, hB1, hq1, hK1⟩
  ·
    refine c_seq ?_
    refine c_region ?_
    refine st (y_assign rfl) rfl ?_
    refine l_nil ?_
    refine q_then ?_
    refine c_seq ?_
    refine c_seq ?_
    refine c_region ?_
    refine st (y_move rfl) rfl ?_
    refine l_nil ?_
    refine q_then ?_
    refine c_true rfl rfl ?_
    refine c_seq ?_
    refine c_region ?_
    refine st (y_move rfl) rfl ?_
    refine st (y_move rfl) rfl ?_
    refine sc rfl rfl isfn20 (c_Set p q s i _ hB hi hs) rfl ?_
    rintro _ w1 ⟨rfl, q1, hB1, hq1, hK1⟩
    refine st (y_assign rfl) rfl ?_
    refine l_nil ?_
    refine q_then ?_
    refine c_ret ?_
    refine q_then_ret ?_
    refine q_end1 (.inl rfl) rfl rfl ?_
    exact ⟨_, rfl, rfl, q1, hB1, hq1, hK1⟩

theorem c_Put (ad : Addr) (m c : Nat) (s : List Bool) (i : Nat) (x : Bool) (w : World) (hB : RdB w (some ad) m s) (hs : s.length ≤ 100000) (hi : i ≤ 99999) :
    Cal Tryd.prog 11 [.slice (some ad) m c, vI (i : Nat), vB x] w fun v w' => Ow w' w.heap.size 4 v ((put s i x).map vB) ∧ Keep w w' [] := by
  refine go_in' Tryd.func11 rfl Tryd.ntmps11 (Nat.le_of_ble_eq_true rfl) ?_
  refine c_seq ?_
  refine c_region ?_
  refine st (y_assign rfl) rfl ?_
  refine l_nil ?_
  refine q_then ?_
  refine c_seq ?_
  refine c_region ?_
  refine st (y_move rfl) rfl ?_
  refine st (y_move rfl) rfl ?_
  first | refine st (y_add_in (b := 1) rfl rfl (by omega)) rfl ?_ | refine st (y_add_i (b := 1) rfl rfl (by omega) (by omega)) rfl ?_
  refine sc rfl rfl isfn18 (c_Longer ad m c s (i + 1) _ hB hs (by omega)) rfl ?_
  rintro v1 w1 ⟨hO, hK⟩
  have hel := ext_length s (i + 1)
  obtain ⟨b, c1, tail, rfl, hb, hBk, hc, hm⟩ := hO.row (by rw [List.length_map, hel]; omega)
  rw [List.length_map] at hc ⊢
  refine st (y_assign rfl) rfl ?_
  refine l_nil ?_
  refine q_then ?_
  refine c_seq ?_
  refine c_region ?_
  refine st (y_move rfl) rfl ?_
  refine st (y_move rfl) rfl ?_
  refine st (y_move rfl) rfl ?_
  first | refine st (y_index0 rfl rfl Tryd.underlying28 sz4 (by omega)) rfl ?_ | refine st (y_index rfl rfl Tryd.underlying28 sz4 (by omega)) rfl ?_ | refine st (y_indexA rfl rfl Tryd.underlying28 sz4 (by omega)) rfl ?_
  refine st_store rfl rfl rfl sz4 hBk (by simp; omega) rfl ?_
  intro w2 hB2 hK2 hS2
  have hB2' := setRow hB2 (by omega)
  refine l_nil ?_
  refine q_then ?_
  refine c_seq ?_
  refine c_region ?_
  refine st (y_move rfl) rfl ?_
  refine st (y_assign rfl) rfl ?_
  refine l_nil ?_
  refine q_then ?_
  refine c_ret ?_
  refine q_end1 (.inl rfl) rfl rfl ?_
  have hpl := put_length s i x
  refine ⟨_, rfl, .inr ⟨b, c1, tail, ?_, hb, hB2', ?_, hm⟩, hK.trans hK2 (fun j hj => by simp only [List.mem_singleton] at hj; exact .inr (by omega))⟩
  · rw [List.length_map, hpl, ← hel]
  · rw [List.length_map, hpl, ← hel]; exact hc

end Go.Proofs.YtmlamceblhhhpaaDoor

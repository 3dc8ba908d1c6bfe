/- A word of a set is stored; cleanLastWord; Complement, each by its contract. -/
import Derived.Test.YtmlamceblhhhpaaDoorB1
import Derived.Test.YtmlamceblhhhpaaDoorC1
import Derived.Test.YtmlamceblhhhpaaDoorL11
set_option linter.unusedVariables false
set_option linter.unusedSimpArgs false
set_option maxRecDepth 100000
namespace Go.Proofs.YtmlamceblhhhpaaDoor
open Go Go.RowKit

theorem BW.store {w w' : World} {p q L : Nat} {ws tl : List Nat} {j x : Nat} (h : BW w p q L ws tl) (hq : Blk w' q 55 (((ws ++ tl).set j x).map vU)) (hK : Keep w w' [q]) (hx : x < 18446744073709551616) (hj : j < ws.length) : BW w' p q L (ws.set j x) tl := by
  have hne := h.ne
  refine ⟨?_, ?_, hne, set_lt64 h.lt hx, by simpa using h.cap⟩
  · have := h.st.keep hK (by simpa using hne)
    simpa using this
  · rw [List.set_append_left _ _ hj] at hq
    exact hq
theorem BW.drew {w : World} {p q L : Nat} {ws tl : List Nat} (h : BW w p q L ws tl) : BW w.drew p q L ws tl := h.keep (Keep.drew w []) (by simp) (by simp)
theorem BW.bset {w : World} {p q : Nat} {s : List Bool} {ws tl : List Nat} (h : BW w p q s.length ws tl) (hl : ws.length = nW s.length) (hb : ∀ i, i < 64 * ws.length → wbit ws i = s.getD i false) : BSet w p q s := by
  have e := pack_unique hl h.lt hb
  subst e
  exact ⟨tl, h⟩

theorem c_isLenExactMultiple (p q L : Nat) (ws tl : List Nat) (w : World) (hB : BW w p q L ws tl) (hL : L ≤ 1000000) :
    Cal Tryd.prog 46 [vP p] w fun v w' => v = vB (decide (L % 64 = 0)) ∧ w = w' := by
  have hst := hB.st
  have hm := and63 L
  refine go_in' Tryd.func46 rfl Tryd.ntmps46 (Nat.le_of_ble_eq_true rfl) ?_
  refine c_seq ?_
  refine c_region ?_
  refine st (y_assign rfl) rfl ?_
  refine l_nil ?_
  refine q_then ?_
  refine c_seq ?_
  refine c_region ?_
  refine st (y_move rfl) rfl ?_
  refine st (y_nil rfl) rfl ?_
  refine st (fa53_0 rfl) rfl ?_
  refine st (y_loadb rfl one22 (by assumption) (by rfl)) rfl ?_
  refine sc rfl rfl isfn37 (c_wordsIndex _ (by omega) _) rfl ?_
  rintro _ _ ⟨rfl, rfl⟩
  rw [hm]
  refine st (y_eq_u (b := 0) rfl rfl) rfl ?_
  refine st (y_assign rfl) rfl ?_
  refine l_nil ?_
  refine q_then ?_
  refine c_ret ?_
  refine q_end1 (.inl rfl) rfl rfl ?_
  exact ⟨_, rfl, rfl, rfl⟩

theorem c_cleanLastWord (p q L : Nat) (ws tl : List Nat) (w : World) (hB : BW w p q L ws tl) (hL : L ≤ 1000000) (hl : ws.length = nW L) :
    Cal Tryd.prog 40 [vP p] w fun v w' => v = vT [] ∧ (∃ ws', BW w' p q L ws' tl ∧ ws'.length = ws.length ∧ ∀ i, wbit ws' i = (wbit ws i && decide (i < L))) ∧ Keep w w' [q] := by
  refine go_in' Tryd.func40 rfl Tryd.ntmps40 (Nat.le_of_ble_eq_true rfl) ?_
  refine c_seq ?_
  refine c_region ?_
  refine st (y_move rfl) rfl ?_
  refine sc rfl rfl isfn46 (c_isLenExactMultiple p q L ws tl _ hB hL) rfl ?_
  rintro _ _ ⟨rfl, rfl⟩
  refine st (y_not rfl) rfl ?_
  refine l_nil ?_
  refine q_then ?_
  refine c_ifb rfl (fun h => ?_) (fun h => ?_)
  · have hm : L % 64 ≠ 0 := by simpa using h
    have hp : 0 < nW L := nW_pos (by omega)
    have hp2 : nW L ≤ 1000000 := by unfold nW; omega
    have hBd := hB.drew
    have hst := hBd.st
    have hwd := hBd.wd
    have e1 := getD_app (tl := tl) (show ws.length - 1 < ws.length by omega)
    have hx := getD_lt64 hB.lt (ws.length - 1)
    have hmm := and63 L
    have hne := hB.ne
    refine c_tail 21 mixed (by kernel_rfl) ?_
    refine ss (y_move rfl) rfl ?_
    refine ss (y_nil rfl) rfl ?_
    refine ss (fa53_1 rfl) rfl ?_
    refine ss (y_loadb rfl one51 (by assumption) (by rfl)) rfl ?_
    refine ss (y_move rfl) rfl ?_
    refine ss (y_nil rfl) rfl ?_
    refine ss (fa53_1 rfl) rfl ?_
    refine ss (y_loadb rfl one51 (by assumption) (by rfl)) rfl ?_
    refine ss (y_len rfl Tryd.underlying51) rfl ?_
    refine ss (y_sub_i (b := 1) rfl rfl (by omega) (by omega)) rfl ?_
    rw [show ((ws.length : Int) - 1) = ((ws.length - 1 : Nat) : Int) by omega]
    first | refine ss (y_index0 rfl rfl Tryd.underlying51 sz55 (by omega)) rfl ?_ | refine ss (y_index rfl rfl Tryd.underlying51 sz55 (by omega)) rfl ?_ | refine ss (y_indexA rfl rfl Tryd.underlying51 sz55 (by omega)) rfl ?_
    first | refine ss (y_loadM (0) rfl one55 (by assumption) (by first | omega | (simp only [List.length_append, List.length_map, List.length_replicate, List.length_set, List.length_take, List.length_drop]; omega) | (simp; done))) rfl ?_ | refine ss (y_load rfl one55 (by assumption)) rfl ?_
    refine ss (y_move rfl) rfl ?_
    refine ss (y_nil rfl) rfl ?_
    refine ss (fa53_0 rfl) rfl ?_
    refine ss (y_loadb rfl one22 (by assumption) (by rfl)) rfl ?_
    rw [e1]
    refine ssc rfl rfl isfn37 (c_wordsIndex _ (by omega) _) rfl ?_
    rw [hmm]
    refine ss (y_sub_u (a := 64) rfl rfl (by omega) (by omega)) rfl ?_
    refine ss (y_shr (a := 18446744073709551615) rfl rfl (by first | omega | assumption | (repeat (first | assumption | omega | decide | exact shl_lt64 _ _ | apply and_lt64 | apply or_lt64 | apply xor_lt64 | apply nt_lt | apply shr_lt64 | apply getD_lt64)))) rfl ?_
    refine ss (y_and rfl rfl (by first | omega | assumption | (repeat (first | assumption | omega | decide | exact shl_lt64 _ _ | apply and_lt64 | apply or_lt64 | apply xor_lt64 | apply nt_lt | apply shr_lt64 | apply getD_lt64))) (by first | omega | assumption | (repeat (first | assumption | omega | decide | exact shl_lt64 _ _ | apply and_lt64 | apply or_lt64 | apply xor_lt64 | apply nt_lt | apply shr_lt64 | apply getD_lt64)))) rfl ?_
    first | refine ss (y_index0 rfl rfl Tryd.underlying51 sz55 (by omega)) rfl ?_ | refine ss (y_index rfl rfl Tryd.underlying51 sz55 (by omega)) rfl ?_ | refine ss (y_indexA rfl rfl Tryd.underlying51 sz55 (by omega)) rfl ?_
    refine s_nil ?_
    show wpL _ _ _ _ _ _ _ _
    refine st_storeM vU rfl rfl rfl sz55 (by assumption) (by first | omega | (simp only [List.length_append, List.length_map, List.length_replicate, List.length_set, List.length_take, List.length_drop]; omega)) rfl ?_
    intro w2 hw2 hK2 hS2
    refine l_nil ?_
    refine q_end0 (.inr rfl) rfl ?_
    refine ⟨_, rfl, rfl, ⟨_, hBd.store hw2 hK2 (and_lt64 _ hx) (by omega), by simp, wbit_clean hl hm⟩, (Keep.drew w [q]).trans hK2 (fun i hi => .inl hi)⟩
  ·
    have hm : L % 64 = 0 := by simpa using h
    refine c_skip ?_
    refine q_end0 (.inr rfl) rfl ?_
    exact ⟨_, rfl, rfl, ⟨ws, hB, rfl, clean_full hl hm⟩, Keep.refl _ _⟩
































































end Go.Proofs.YtmlamceblhhhpaaDoor

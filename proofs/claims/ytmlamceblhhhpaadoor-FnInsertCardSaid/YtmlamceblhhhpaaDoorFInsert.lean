/- A place is put in: the statement's own walk. -/
import Derived.Test.YtmlamceblhhhpaaDoorG5
import Derived.Test.YtmlamceblhhhpaaDoorG6
import Derived.Test.YtmlamceblhhhpaaDoorK12
set_option linter.unusedVariables false
set_option linter.unusedSimpArgs false
set_option maxRecDepth 100000
namespace Go.Proofs.YtmlamceblhhhpaaDoor
open Go Go.RowKit

theorem c_FnInsert (L : Nat) (A : Option Addr) (n c : Nat) (xs : List Nat) (i : Nat) (w : World) (hT : Tb w) (hR : Rd w A n xs) (hi : i < 18446744073709551616) :
    Cal Tryd.prog 4 [aB L A n c, vU i] w fun v w' => v = vB true ∧ Keep w w' [] := by
  have hT0 := hT.1
  refine go_in' Tryd.func4 rfl Tryd.ntmps4 (Nat.le_of_ble_eq_true rfl) ?_
  refine c_seq ?_
  refine c_region ?_
  refine st_box _ rfl rfl rfl ?_
  intro b1 w1 hb1 hB1 hK1 hS1
  refine st (y_assign rfl) rfl ?_
  refine l_nil ?_
  refine q_then ?_
  refine c_seq ?_
  refine c_seq ?_
  refine c_region ?_
  refine st (y_loadagg rfl agg25 us25 sz25 (by assumption) (by simp) (by rfl)) rfl ?_
  refine sc rfl rfl isfn9 (c_zzFits1 L A n c _) rfl ?_
  rintro _ w2 ⟨rfl, hK2⟩
  have hB1 := hB1.keep hK2 (by simp only [List.mem_cons, List.not_mem_nil, or_false, not_or, not_false_eq_true] <;> omega)
  have hK := hK1.trans hK2 (by simp)
  clear hK1 hK2
  refine st (y_not rfl) rfl ?_
  refine l_nil ?_
  refine q_then ?_
  refine c_ifb rfl (fun hz => ?_) (fun hz => ?_)
  · refine c_seq ?_
    refine c_region ?_
    refine st (y_assign rfl) rfl ?_
    refine l_nil ?_
    refine q_then ?_
    refine c_ret ?_
    refine q_then_ret ?_
    refine q_end1 (.inl rfl) rfl rfl ?_
    exact ⟨_, rfl, rfl, hK⟩
  ·
    refine c_skip ?_
    refine q_then ?_
    refine c_seq ?_
    refine c_region ?_
    refine st (y_loadagg rfl agg25 us25 sz25 (by assumption) (by simp) (by rfl)) rfl ?_
    refine sc rfl rfl isfn10 (c_set L A n c xs _ (hR.keep hK (by simp))) rfl ?_
    rintro _ w3 ⟨hK3, ⟨ho, b, rfl, hBl, hb⟩ | rfl⟩
    · have hB1 := hB1.keep hK3 (by simp only [List.mem_cons, List.not_mem_nil, or_false, not_or, not_false_eq_true] <;> omega)
      have hK' := hK.trans hK3 (by simp)
      have hlen := ho.len
      clear hK hK3
      refine st (y_move rfl) rfl ?_
      refine st (y_extract rfl rfl) rfl ?_
      refine st (y_extract rfl rfl) rfl ?_
      refine st (y_assign rfl) rfl ?_
      refine st (y_assign rfl) rfl ?_
      refine l_nil ?_
      refine q_then ?_
      refine c_seq ?_
      refine c_seq ?_
      refine c_region ?_
      refine st (y_move rfl) rfl ?_
      refine st (y_not rfl) rfl ?_
      refine st (y_move rfl) rfl ?_
      refine stg rfl rfl (y_move rfl) rfl ?_
      refine stg rfl rfl (y_move rfl) rfl ?_
      refine stg rfl rfl (y_len rfl Tryd.underlying28) rfl ?_
      refine stg rfl rfl (y_conv_iu rfl us3 Tryd.underlying22 rfl (by omega)) rfl ?_
      refine stg_if rfl rfl (y_ge_u rfl rfl) rfl (fun h1 => ?_) (fun h1 => ?_)
      · refine st (y_pickF rfl rfl) rfl ?_
        refine l_nil ?_
        refine q_then ?_
        refine c_true rfl rfl ?_
        refine c_seq ?_
        refine c_region ?_
        refine st (y_assign rfl) rfl ?_
        refine l_nil ?_
        refine q_then ?_
        refine c_ret ?_
        refine q_then_ret ?_
        refine q_end1 (.inl rfl) rfl rfl ?_
        exact ⟨_, rfl, rfl, hK'⟩
      ·
        have hlt : i < (mkS L xs).length := by omega
        have hKd := hK'.trans (Keep.drew w3 []) (by simp)
        have hBld := hBl.keep (Keep.drew w3 []) (by simp)
        obtain ⟨base, hbase⟩ : ∃ base, w3.drew.heap.size = base := ⟨_, rfl⟩
        have hbl := hBld.lt
        have hB1d := hB1.drew
        have hb1l := hB1d.lt
        rw [hbase] at hbl hb1l
        refine st (y_pickF rfl rfl) rfl ?_
        refine l_nil ?_
        refine q_then ?_
        refine c_false rfl rfl ?_
        refine c_skip ?_
        refine q_then ?_
        refine c_cut (fun v : Value => [(1, vU i), (2, vP b1), (7, v)]) (fun v w' => Ow w' base 4 v ((insB (mkS L xs) i).map vB) ∧ Keep w3.drew w' []) ?_ ?_
        ·
          refine c_moves ((fun _ => True)) (.take 1 (.take 2 (.take 3 (.take 7 (.take 8 (.take 9 (.two 0 5 (.two 4 5 (.one 5 (.one 6 (.one 10 (.take 11 .nil)))) (.one 4 (.one 6 (.one 10 (.take 11 .nil))))) (.one 0 (.one 4 (.one 6 (.one 10 (.take 11 .nil)))))))))))) mixed (by kernel_rfl) rfl (by kernel_rfl) (trivial) ?_
          show wpM _ _ _ _ _ _ _ _ _
          refine mt rfl (fun w' hS => y_move rfl) rfl rfl ?_
          refine mt rfl (fun w' hS => y_move rfl) rfl rfl ?_
          refine mt rfl (fun w' hS => y_slice_h rfl rfl Tryd.underlying28 sz4 (by omega)) rfl rfl ?_
          refine mt rfl (fun w' hS => y_move rfl) rfl rfl ?_
          refine mt rfl (fun w' hS => y_move rfl) rfl rfl ?_
          refine mt rfl (fun w' hS => y_slice_l rfl rfl Tryd.underlying28 sz4 (by omega)) rfl rfl ?_
          refine m_two ?_ ?_
          · refine mh rfl ?_
            refine st_buildSlice0 Tryd.underlying28 sz4 rfl ?_
            intro b4 w4 hb4 hB4 hK4 hS4
            have hO4 : Ow w4 base 4 (vS b4 0 0) ([] : List Value) := Ow.empty hB4 (by omega)
            refine l_nil ?_
            refine mh_end (trivial) ?_
            refine m_two ?_ ?_
            · refine mh rfl ?_
              have hBl4 := hBld.keep hK4 (by simp)
              obtain ⟨i4, hi1, hi2, hi3, hi4⟩ := info_parts inf4
              refine st_appendB (news := ((mkS L xs).take i).map vB) rfl rfl Tryd.underlying28 hi1 hi2 hi3 (by omega) rfl (by simp; omega) (((hBl4.rdB (by omega)).head (m := i) (by omega)).news) (one_vB _) (by assumption) (by first | omega | (simp only [List.length_map, List.length_nil, List.length_append, List.length_cons, List.length_take, List.length_drop]; omega) | simp) (by omega) (by omega) rfl ?_
              clear hi1 hi2 hi3 hi4
              intro v5 w5 hO5 hK5
              rw [List.nil_append] at hO5
              have hKA := hK4.trans hK5 (fun j hj => by simp only [List.mem_singleton] at hj; exact .inr (by omega))
              have hsz5 := hKA.size
              refine l_nil ?_
              refine mh_end (trivial) ?_
              refine mh rfl ?_
              refine st_buildSlice [vB false] Tryd.underlying28 sz4 zv4 rfl (by decide) (by decide) (by kernel_rfl) rfl ?_
              intro b6 w6 hb6 hB6 hK6 hS6
              have hO6 := hO5.keep hK6 (by simp)
              have hKA6 := hKA.trans hK6 (by simp)
              refine l_nil ?_
              refine mh_end (trivial) ?_
              refine mh rfl ?_
              obtain ⟨i4, hi1, hi2, hi3, hi4⟩ := info_parts inf4
              refine st_append1 rfl rfl Tryd.underlying28 hi1 hi2 hi3 (by omega) rfl rfl (by assumption) (by assumption) (by first | omega | (simp only [List.length_map, List.length_nil, List.length_append, List.length_cons, List.length_take, List.length_drop]; omega)) (by omega) rfl ?_
              clear hi1 hi2 hi3 hi4
              intro v7 w7 L7 hO7 hK7 hL7
              have hKA7 := hKA6.trans hK7 (fun j hj => .inr (by have := hL7 j hj; omega))
              have hBl7 := hBld.keep hKA7 (by simp)
              have hsz7 := hKA7.size
              refine l_nil ?_
              refine mh_end (trivial) ?_
              refine mh rfl ?_
              obtain ⟨i4, hi1, hi2, hi3, hi4⟩ := info_parts inf4
              refine st_appendL (news := ((mkS L xs).drop i).map vB) rfl rfl Tryd.underlying28 hi1 hi2 hi3 (by omega) rfl (by simp) (hBl7.tailNews (by omega)) (one_vB _) (by assumption) (by first | omega | (simp only [List.length_map, List.length_nil, List.length_append, List.length_cons, List.length_take, List.length_drop]; omega) | simp) (by omega) (by omega) rfl ?_
              clear hi1 hi2 hi3 hi4
              intro v8 w8 L8 hO8 hK8 hL8
              rw [insB_map] at hO8
              obtain ⟨A8, c8, rfl⟩ := hO8.form
              refine l_nil ?_
              refine mh_end (trivial) ?_
              refine mt rfl (fun w' hS => y_assign rfl) rfl rfl ?_
              refine m_nil ?_
              exact q_meet _ ⟨rfl, rfl, rfl, trivial⟩ ⟨hO8, hKA7.trans hK8 (fun j hj => .inr (by have := hL8 j hj; omega))⟩
            ·
              refine mh rfl ?_
              refine st_buildSlice [vB false] Tryd.underlying28 sz4 zv4 rfl (by decide) (by decide) (by kernel_rfl) rfl ?_
              intro b6 w6 hb6 hB6 hK6 hS6
              have hO5 := hO4.keep hK6 (by simp)
              have hKA := hK4.trans hK6 (by simp)
              have hBl4 := hBld.keep hKA (by simp)
              refine l_nil ?_
              refine mh_end (trivial) ?_
              refine mh rfl ?_
              obtain ⟨i4, hi1, hi2, hi3, hi4⟩ := info_parts inf4
              refine st_appendB (news := ((mkS L xs).take i).map vB) rfl rfl Tryd.underlying28 hi1 hi2 hi3 (by omega) rfl (by simp; omega) (((hBl4.rdB (by omega)).head (m := i) (by omega)).news) (one_vB _) (by assumption) (by first | omega | (simp only [List.length_map, List.length_nil, List.length_append, List.length_cons, List.length_take, List.length_drop]; omega) | simp) (by omega) (by omega) rfl ?_
              clear hi1 hi2 hi3 hi4
              intro v5 w5 hO6 hK5
              rw [List.nil_append] at hO6
              have hB6 := hB6.keep hK5 (by simp only [List.mem_cons, List.not_mem_nil, or_false, not_or, not_false_eq_true] <;> omega)
              have hKA6 := hKA.trans hK5 (fun j hj => by simp only [List.mem_singleton] at hj; exact .inr (by omega))
              have hsz6 := hKA6.size
              refine l_nil ?_
              refine mh_end (trivial) ?_
              refine mh rfl ?_
              obtain ⟨i4, hi1, hi2, hi3, hi4⟩ := info_parts inf4
              refine st_append1 rfl rfl Tryd.underlying28 hi1 hi2 hi3 (by omega) rfl rfl (by assumption) (by assumption) (by first | omega | (simp only [List.length_map, List.length_nil, List.length_append, List.length_cons, List.length_take, List.length_drop]; omega)) (by omega) rfl ?_
              clear hi1 hi2 hi3 hi4
              intro v7 w7 L7 hO7 hK7 hL7
              have hKA7 := hKA6.trans hK7 (fun j hj => .inr (by have := hL7 j hj; omega))
              have hBl7 := hBld.keep hKA7 (by simp)
              have hsz7 := hKA7.size
              refine l_nil ?_
              refine mh_end (trivial) ?_
              refine mh rfl ?_
              obtain ⟨i4, hi1, hi2, hi3, hi4⟩ := info_parts inf4
              refine st_appendL (news := ((mkS L xs).drop i).map vB) rfl rfl Tryd.underlying28 hi1 hi2 hi3 (by omega) rfl (by simp) (hBl7.tailNews (by omega)) (one_vB _) (by assumption) (by first | omega | (simp only [List.length_map, List.length_nil, List.length_append, List.length_cons, List.length_take, List.length_drop]; omega) | simp) (by omega) (by omega) rfl ?_
              clear hi1 hi2 hi3 hi4
              intro v8 w8 L8 hO8 hK8 hL8
              rw [insB_map] at hO8
              obtain ⟨A8, c8, rfl⟩ := hO8.form
              refine l_nil ?_
              refine mh_end (trivial) ?_
              refine mt rfl (fun w' hS => y_assign rfl) rfl rfl ?_
              refine m_nil ?_
              exact q_meet _ ⟨rfl, rfl, rfl, trivial⟩ ⟨hO8, hKA7.trans hK8 (fun j hj => .inr (by have := hL8 j hj; omega))⟩
          ·
            refine mh rfl ?_
            refine st_buildSlice [vB false] Tryd.underlying28 sz4 zv4 rfl (by decide) (by decide) (by kernel_rfl) rfl ?_
            intro b6 w6 hb6 hB6 hK6 hS6
            refine l_nil ?_
            refine mh_end (trivial) ?_
            refine mh rfl ?_
            refine st_buildSlice0 Tryd.underlying28 sz4 rfl ?_
            intro b4 w4 hb4 hB4 hK4 hS4
            have hB6 := hB6.keep hK4 (by simp only [List.mem_cons, List.not_mem_nil, or_false, not_or, not_false_eq_true] <;> omega)
            have hO4 : Ow w4 base 4 (vS b4 0 0) ([] : List Value) := Ow.empty hB4 (by omega)
            have hKA := hK6.trans hK4 (by simp)
            have hBl4 := hBld.keep hKA (by simp)
            refine l_nil ?_
            refine mh_end (trivial) ?_
            refine mh rfl ?_
            obtain ⟨i4, hi1, hi2, hi3, hi4⟩ := info_parts inf4
            refine st_appendB (news := ((mkS L xs).take i).map vB) rfl rfl Tryd.underlying28 hi1 hi2 hi3 (by omega) rfl (by simp; omega) (((hBl4.rdB (by omega)).head (m := i) (by omega)).news) (one_vB _) (by assumption) (by first | omega | (simp only [List.length_map, List.length_nil, List.length_append, List.length_cons, List.length_take, List.length_drop]; omega) | simp) (by omega) (by omega) rfl ?_
            clear hi1 hi2 hi3 hi4
            intro v5 w5 hO6 hK5
            rw [List.nil_append] at hO6
            have hB6 := hB6.keep hK5 (by simp only [List.mem_cons, List.not_mem_nil, or_false, not_or, not_false_eq_true] <;> omega)
            have hKA6 := hKA.trans hK5 (fun j hj => by simp only [List.mem_singleton] at hj; exact .inr (by omega))
            have hsz6 := hKA6.size
            refine l_nil ?_
            refine mh_end (trivial) ?_
            refine mh rfl ?_
            obtain ⟨i4, hi1, hi2, hi3, hi4⟩ := info_parts inf4
            refine st_append1 rfl rfl Tryd.underlying28 hi1 hi2 hi3 (by omega) rfl rfl (by assumption) (by assumption) (by first | omega | (simp only [List.length_map, List.length_nil, List.length_append, List.length_cons, List.length_take, List.length_drop]; omega)) (by omega) rfl ?_
            clear hi1 hi2 hi3 hi4
            intro v7 w7 L7 hO7 hK7 hL7
            have hKA7 := hKA6.trans hK7 (fun j hj => .inr (by have := hL7 j hj; omega))
            have hBl7 := hBld.keep hKA7 (by simp)
            have hsz7 := hKA7.size
            refine l_nil ?_
            refine mh_end (trivial) ?_
            refine mh rfl ?_
            obtain ⟨i4, hi1, hi2, hi3, hi4⟩ := info_parts inf4
            refine st_appendL (news := ((mkS L xs).drop i).map vB) rfl rfl Tryd.underlying28 hi1 hi2 hi3 (by omega) rfl (by simp) (hBl7.tailNews (by omega)) (one_vB _) (by assumption) (by first | omega | (simp only [List.length_map, List.length_nil, List.length_append, List.length_cons, List.length_take, List.length_drop]; omega) | simp) (by omega) (by omega) rfl ?_
            clear hi1 hi2 hi3 hi4
            intro v8 w8 L8 hO8 hK8 hL8
            rw [insB_map] at hO8
            obtain ⟨A8, c8, rfl⟩ := hO8.form
            refine l_nil ?_
            refine mh_end (trivial) ?_
            refine mt rfl (fun w' hS => y_assign rfl) rfl rfl ?_
            refine m_nil ?_
            exact q_meet _ ⟨rfl, rfl, rfl, trivial⟩ ⟨hO8, hKA7.trans hK8 (fun j hj => .inr (by have := hL8 j hj; omega))⟩
        ·
          rintro v w6 ⟨hO6, hKA⟩
          obtain ⟨A6, c6, rfl⟩ := hO6.form
          rw [List.length_map] at hO6 ⊢
          have hKd6 := hKd.trans hKA (by simp)
          have hR6 := hR.keep hKd6 (by simp)
          have hB16 := hB1d.keep hKA (by simp)
          clear hB1 hB1d
          refine c_seq ?_
          refine c_region ?_
          refine st (y_loadagg rfl agg25 us25 sz25 (by assumption) (by simp) (by rfl)) rfl ?_
          refine st (y_move rfl) rfl ?_
          refine sc rfl rfl isfn14 (c_change5 L A n c xs i _ (hT.keep hKd6 (by simp)) hR6 (by have := ho.1; omega) (fun x h => by have := ho.2.2 x h; omega) (by omega) hlt) rfl ?_
          rintro _ w7 ⟨t7, A7, c7, rfl, rfl, htl7, hO7, hK7⟩
          have hK8 := hKd6.trans hK7 (by simp)
          refine st (y_move rfl) rfl ?_
          refine sc rfl rfl isfn13 (c_exactly _ _ _ _ _ _ _ _ _ _ hO7.rd' (hO6.rdB.2.keep hK7 (by simp)) (by omega) rfl rfl) rfl ?_
          rintro _ w9 ⟨rfl, hK9⟩
          have hK10 := hK8.trans hK9 (by simp)
          refine st (y_move rfl) rfl ?_
          refine scg rfl rfl rfl rfl isfn15 (c_alive _ (hT.keep hK10 (by simp))) rfl ?_
          rintro _ w11 ⟨rfl, hK11⟩
          refine st (y_pickT rfl rfl) rfl ?_
          refine st (y_assign rfl) rfl ?_
          refine l_nil ?_
          refine q_then ?_
          refine c_ret ?_
          refine q_end1 (.inl rfl) rfl rfl ?_
          exact ⟨_, rfl, rfl, hK10.trans hK11 (by simp)⟩
    ·
      refine st (y_move rfl) rfl ?_
      refine st (y_extract rfl rfl) rfl ?_
      refine st (y_extract rfl rfl) rfl ?_
      refine st (y_assign rfl) rfl ?_
      refine st (y_assign rfl) rfl ?_
      refine l_nil ?_
      refine q_then ?_
      refine c_seq ?_
      refine c_seq ?_
      refine c_region ?_
      refine st (y_move rfl) rfl ?_
      refine st (y_not rfl) rfl ?_
      refine st (y_move rfl) rfl ?_
      refine sno rfl rfl rfl rfl ?_
      refine sno rfl rfl rfl rfl ?_
      refine sno rfl rfl rfl rfl ?_
      refine sno rfl rfl rfl rfl ?_
      refine sno rfl rfl rfl rfl ?_
      refine st (y_pickT rfl rfl) rfl ?_
      refine l_nil ?_
      refine q_then ?_
      refine c_true rfl rfl ?_
      refine c_seq ?_
      refine c_region ?_
      refine st (y_assign rfl) rfl ?_
      refine l_nil ?_
      refine q_then ?_
      refine c_ret ?_
      refine q_then_ret ?_
      refine q_end1 (.inl rfl) rfl rfl ?_
      exact ⟨_, rfl, rfl, hK.trans hK3 (by simp)⟩

end Go.Proofs.YtmlamceblhhhpaaDoor

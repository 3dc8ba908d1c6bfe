/- Bytes of a set that are cut are refused: the statement's own walk. -/
import Derived.Test.YtkemlhhpakjojaaDoorZ6
set_option linter.unusedVariables false
set_option linter.unusedSimpArgs false
set_option maxRecDepth 100000
set_option maxHeartbeats 1000000
namespace Go.Proofs.YtkemlhhpakjojaaDoor
open Go Go.RowKit

theorem c_FnCut (L : Nat) (A : Option Addr) (n c : Nat) (xs : List Nat) (k : Nat) (w : World) (hT : Tb w) (hEr : Er w) (hR : Rd w A n xs) (hk : k < 65536) :
    Cal Tryd.prog 3 [aB L A n c, .int .u16 (k : Nat)] w fun v w' => v = vB true ∧ Keep w w' [] := by
  obtain ⟨e1, e2, hE1, hE2⟩ := hEr
  refine go_in' Tryd.func3 rfl Tryd.ntmps3 (Nat.le_of_ble_eq_true rfl) ?_
  refine c_seq ?_
  refine c_region ?_
  refine st_box _ rfl rfl rfl ?_
  intro b1 w1 hb1 hB1 hK1 hS1
  refine st (y_assign rfl) rfl ?_
  refine l_nil ?_
  refine q_then ?_
  refine c_seq ?_
  refine c_seq ?_
  refine c_region ?_
  refine st (y_loadagg rfl agg25 us25 sz25 (by assumption) (by simp) (by rfl)) rfl ?_
  refine sc rfl rfl isfn5 (c_zzFits1 L A n c _) rfl ?_
  rintro _ w2 ⟨rfl, hK2⟩
  have hB1 := hB1.keep hK2 (by simp only [List.mem_cons, List.not_mem_nil, or_false, not_or, not_false_eq_true] <;> omega)
  have hK := hK1.trans hK2 (by simp)
  clear hK1 hK2
  refine st (y_not rfl) rfl ?_
  refine l_nil ?_
  refine q_then ?_
  refine c_ifb rfl (fun hz => ?_) (fun hz => ?_)
  · refine c_seq ?_
    refine c_region ?_
    refine st (y_assign rfl) rfl ?_
    refine l_nil ?_
    refine q_then ?_
    refine c_ret ?_
    refine q_then_ret ?_
    refine q_end1 (.inl rfl) rfl rfl ?_
    exact ⟨_, rfl, rfl, hK⟩
  ·
    refine c_skip ?_
    refine q_then ?_
    refine c_seq ?_
    refine c_region ?_
    refine st (y_loadagg rfl agg25 us25 sz25 (by assumption) (by simp) (by rfl)) rfl ?_
    refine sc rfl rfl isfn6 (c_set L A n c xs _ (hR.keep hK (by simp))) rfl ?_
    rintro _ w3 ⟨hK3, ⟨ho, b, rfl, hBl, hb⟩ | rfl⟩
    · have hB1 := hB1.keep hK3 (by simp only [List.mem_cons, List.not_mem_nil, or_false, not_or, not_false_eq_true] <;> omega)
      have hK' := hK.trans hK3 (by simp)
      have hlen := ho.len
      clear hK hK3
      obtain ⟨s, hs⟩ : ∃ s, mkS L xs = s := ⟨_, rfl⟩
      rw [hs] at hlen hBl ⊢
      have h8 := setB_lt s
      have hsl := setB_len s
      have hnW : nW s.length ≤ 100 := by unfold nW; omega
      obtain ⟨N, hN⟩ : ∃ N, (setB s).length = N := ⟨_, rfl⟩
      refine st (y_move rfl) rfl ?_
      refine st (y_extract rfl rfl) rfl ?_
      refine st (y_extract rfl rfl) rfl ?_
      refine st (y_assign rfl) rfl ?_
      refine st (y_assign rfl) rfl ?_
      refine l_nil ?_
      refine q_then ?_
      refine c_seq ?_
      refine c_seq ?_
      refine c_region ?_
      refine st (y_move rfl) rfl ?_
      refine st (y_not rfl) rfl ?_
      refine l_nil ?_
      refine q_then ?_
      refine c_false rfl rfl ?_
      refine c_skip ?_
      refine q_then ?_
      refine c_seq ?_
      refine c_region ?_
      refine st (y_move rfl) rfl ?_
      refine sc rfl rfl isfn7 (c_specBytes b s _ hBl (by omega)) rfl ?_
      rintro _ w4 ⟨pb, pc, rfl, hO4, hK4⟩
      have hK14 := hK'.trans hK4 (by simp)
      obtain ⟨hpl, hpb, tail, hBp, _, hpc, _⟩ := hO4.at
      rw [List.length_map, hN] at hpc
      rw [hN] at hsl ⊢
      have hmod : k % N < N := Nat.mod_lt _ (by omega)
      have hRc := hBp.rd8 (m := k % N) (by omega) (by omega)
      refine st (y_assign rfl) rfl ?_
      refine l_nil ?_
      refine q_then ?_
      refine c_seq ?_
      refine c_region ?_
      refine st (y_move rfl) rfl ?_
      refine st (y_move rfl) rfl ?_
      refine st (y_conv_16i rfl us26 Tryd.underlying3 hk) rfl ?_
      refine st (y_move rfl) rfl ?_
      refine st (y_len rfl Tryd.underlying32) rfl ?_
      refine st (y_rem_i rfl rfl (by omega)) rfl ?_
      refine st (y_slice_h rfl rfl Tryd.underlying32 sz5 (by omega)) rfl ?_
      refine sc rfl rfl isfn8 (c_implUnmErr w.heap.size (some ⟨pb, 0, none⟩) (k % N) pc ((setB s).take (k % N)) s e1 e2 _ hRc (fun h => by cases h) (fun x hx => h8 x (List.mem_of_mem_take hx)) (by rw [List.take_take, Nat.min_self]) (by omega) (by omega) (hE1.keep hK14 (by simp)) (hE2.keep hK14 (by simp))) rfl ?_
      rintro _ w5 ⟨rfl, hK5⟩
      have hK15 := hK14.trans hK5 (by simp)
      have hBp5 := hBp.keep hK5 (by simp)
      refine st (y_move rfl) rfl ?_
      refine st (y_extract rfl rfl) rfl ?_
      refine st (y_extract rfl rfl) rfl ?_
      refine st_alloc [.int .u64 0, .slice none 0 0] zv25 rfl rfl ?_
      intro b6 w6 hb6 hB6 hK6 hS6
      have hBp6 := hBp5.keep hK6 (by simp)
      have hK16 := hK15.trans hK6 (by simp)
      refine st_storeagg rfl rfl (by simp [Value.oneCell']) sz25 rfl (by assumption) (by simp) rfl ?_
      intro w7 hB7 hK7 hS7
      clear hB6
      have hBp7 := hBp6.keep hK7 (by simp only [List.mem_singleton]; have := hBp5.lt; omega)
      have hK17 := hK16.trans hK7 (fun i hi => by simp only [List.mem_singleton] at hi; have := hK15.size; exact .inr (by omega))
      have hRb := hBp7.rd8 (m := N) (by omega) (by omega)
      have htk : (setB s).take N = setB s := List.take_of_length_le (by omega)
      rw [htk] at hRb
      refine st (y_assign rfl) rfl ?_
      refine l_nil ?_
      refine q_then ?_
      refine c_seq ?_
      refine c_region ?_
      refine st (y_move rfl) rfl ?_
      refine sc rfl rfl isfn8 (c_implUnm (some ⟨pb, 0, none⟩) N pc (setB s) s _ (hT.keep hK17 (by simp)) hRb (fun h => by cases h) h8 (by rw [hN]; exact htk) (by omega) (by omega) (by omega)) rfl ?_
      rintro _ w8 ⟨A8, c8, rfl, hO8, hK8⟩
      have hK18 := hK17.trans hK8 (by simp)
      refine st (y_move rfl) rfl ?_
      refine st (y_extract rfl rfl) rfl ?_
      refine st (y_extract rfl rfl) rfl ?_
      refine st_alloc [.int .u64 0, .slice none 0 0] zv25 rfl rfl ?_
      intro b9 w9 hb9 hB9 hK9 hS9
      have hK19 := hK18.trans hK9 (by simp)
      refine st_storeagg rfl rfl (by simp [Value.oneCell']) sz25 rfl (by assumption) (by simp) rfl ?_
      intro w10 hB10 hK10 hS10
      have hK110 := hK19.trans hK10 (fun i hi => by simp only [List.mem_singleton] at hi; have := hK18.size; exact .inr (by omega))
      refine st (y_assign rfl) rfl ?_
      refine l_nil ?_
      refine q_then ?_
      refine c_seq ?_
      refine c_region ?_
      refine st (y_move rfl) rfl ?_
      refine st (y_not rfl) rfl ?_
      refine st (y_move rfl) rfl ?_
      refine stg rfl rfl (y_move rfl) rfl ?_
      refine st (y_pickT rfl rfl) rfl ?_
      refine st (y_assign rfl) rfl ?_
      refine l_nil ?_
      refine q_then ?_
      refine c_ret ?_
      refine q_end1 (.inl rfl) rfl rfl ?_
      exact ⟨_, rfl, rfl, hK110⟩
    ·
      refine st (y_move rfl) rfl ?_
      refine st (y_extract rfl rfl) rfl ?_
      refine st (y_extract rfl rfl) rfl ?_
      refine st (y_assign rfl) rfl ?_
      refine st (y_assign rfl) rfl ?_
      refine l_nil ?_
      refine q_then ?_
      refine c_seq ?_
      refine c_seq ?_
      refine c_region ?_
      refine st (y_move rfl) rfl ?_
      refine st (y_not rfl) rfl ?_
      refine l_nil ?_
      refine q_then ?_
      refine c_true rfl rfl ?_
      refine c_seq ?_
      refine c_region ?_
      refine st (y_assign rfl) rfl ?_
      refine l_nil ?_
      refine q_then ?_
      refine c_ret ?_
      refine q_then_ret ?_
      refine q_end1 (.inl rfl) rfl rfl ?_
      exact ⟨_, rfl, rfl, hK.trans hK3 (by simp)⟩

end Go.Proofs.YtkemlhhpakjojaaDoor

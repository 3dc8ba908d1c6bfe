/- The bytes of a set: the statement's own walk. -/
import Derived.Test.YtlhbbndedbacpaaX4
import Derived.Test.YtlhbbndedbacpaaW1
set_option linter.unusedVariables false
set_option linter.unusedSimpArgs false
set_option maxRecDepth 100000
set_option maxHeartbeats 1000000
namespace Go.Proofs.Ytlhbbndedbacpaa
open Go Go.RowKit

theorem Rd8.cells {w : World} {ad : Addr} {n : Nat} {xs : List Nat} (h : Rd8 w (some ad) n xs) : ∀ j, j < n → w.cell? (ad.add j) = some (v8 (xs.getD j 0)) := by
  intro j hj
  obtain ⟨ad', e, _, hc⟩ := h.2.2 (by omega)
  cases e
  exact hc j hj
theorem Ow.cells8 {w : World} {base b n c : Nat} {e : TypeId} {xs : List Nat} (h : Ow w base e (vS b n c) (xs.map v8)) : ∀ j, j < xs.length → w.cell? ((⟨b, 0, none⟩ : Addr).add j) = some (v8 (xs.getD j 0)) := by
  intro j hj
  obtain ⟨_, _, tail, hB, _⟩ := h.at
  rw [add_pt, Nat.zero_add]
  refine hB.cell ?_
  rw [List.getElem?_append_left (by simpa using hj), List.getElem?_map, List.getD_eq_getElem?_getD, List.getElem?_eq_getElem hj]; rfl

theorem c_FnBytes (L : Nat) (A : Option Addr) (n c : Nat) (xs : List Nat) (w : World) (hR : Rd w A n xs) :
    Cal Try.prog 8 [aB L A n c] w fun v w' => v = vB true ∧ Keep w w' [] := by
  refine go_in' Try.func8 rfl Try.ntmps8 (Nat.le_of_ble_eq_true rfl) ?_
  refine c_seq ?_
  refine c_region ?_
  refine st_box _ rfl rfl rfl ?_
  intro b1 w1 hb1 hB1 hK1 hS1
  refine st (y_assign rfl) rfl ?_
  refine l_nil ?_
  refine q_then ?_
  refine c_seq ?_
  refine c_seq ?_
  refine c_region ?_
  refine st (y_loadagg rfl agg25 us25 sz25 (by assumption) (by simp) (by rfl)) rfl ?_
  refine sc rfl rfl isfn12 (c_zzFits1 L A n c _) rfl ?_
  rintro _ w2 ⟨rfl, hK2⟩
  have hB1 := hB1.keep hK2 (by simp only [List.mem_cons, List.not_mem_nil, or_false, not_or, not_false_eq_true] <;> omega)
  have hK := hK1.trans hK2 (by simp)
  clear hK1 hK2
  refine st (y_not rfl) rfl ?_
  refine l_nil ?_
  refine q_then ?_
  refine c_ifb rfl (fun hz => ?_) (fun hz => ?_)
  · refine c_seq ?_
    refine c_region ?_
    refine st (y_assign rfl) rfl ?_
    refine l_nil ?_
    refine q_then ?_
    refine c_ret ?_
    refine q_then_ret ?_
    refine q_end1 (.inl rfl) rfl rfl ?_
    exact ⟨_, rfl, rfl, hK⟩
  ·
    refine c_skip ?_
    refine q_then ?_
    refine c_seq ?_
    refine c_region ?_
    refine st (y_loadagg rfl agg25 us25 sz25 (by assumption) (by simp) (by rfl)) rfl ?_
    refine sc rfl rfl isfn13 (c_set L A n c xs _ (hR.keep hK (by simp))) rfl ?_
    rintro _ w3 ⟨hK3, ⟨ho, b, rfl, hBl, hb⟩ | rfl⟩
    · have hB1 := hB1.keep hK3 (by simp only [List.mem_cons, List.not_mem_nil, or_false, not_or, not_false_eq_true] <;> omega)
      have hK' := hK.trans hK3 (by simp)
      have hlen := ho.len
      clear hK hK3
      obtain ⟨s, hs⟩ : ∃ s, mkS L xs = s := ⟨_, rfl⟩
      rw [hs] at hlen hBl ⊢
      have hL := ho.1
      have hxs := ho.2.2
      have h8 := setB_lt s
      refine st (y_move rfl) rfl ?_
      refine st (y_extract rfl rfl) rfl ?_
      refine st (y_extract rfl rfl) rfl ?_
      refine st (y_assign rfl) rfl ?_
      refine st (y_assign rfl) rfl ?_
      refine l_nil ?_
      refine q_then ?_
      refine c_seq ?_
      refine c_seq ?_
      refine c_region ?_
      refine st (y_move rfl) rfl ?_
      refine st (y_not rfl) rfl ?_
      refine l_nil ?_
      refine q_then ?_
      refine c_false rfl rfl ?_
      refine c_skip ?_
      refine q_then ?_
      refine c_seq ?_
      refine c_region ?_
      refine st (y_move rfl) rfl ?_
      refine sc rfl rfl isfn25 (c_specBytes b s _ hBl (by omega)) rfl ?_
      rintro _ w4 ⟨pb, pc, rfl, hO4, hK4⟩
      have hB1 := hB1.keep hK4 (by simp only [List.mem_cons, List.not_mem_nil, or_false, not_or, not_false_eq_true] <;> omega)
      have hK14 := hK'.trans hK4 (by simp)
      refine st (y_convBS rfl Try.underlying42 Try.underlying5 Try.underlying9 rfl h8 hO4.cells8) rfl ?_
      refine st (y_assign rfl) rfl ?_
      refine l_nil ?_
      refine q_then ?_
      refine c_seq ?_
      refine c_region ?_
      refine st (y_loadagg rfl agg25 us25 sz25 (by assumption) (by simp) (by rfl)) rfl ?_
      refine sc rfl rfl isfn26 (c_implMarshal L A n c xs _ (hR.keep hK14 (by simp)) (by omega) (fun x h => by have := hxs x h; omega)) rfl ?_
      rintro _ w5 ⟨r5, c5, rfl, hR5, hK5⟩
      rw [hs] at hR5 ⊢
      have hB1 := hB1.keep hK5 (by simp only [List.mem_cons, List.not_mem_nil, or_false, not_or, not_false_eq_true] <;> omega)
      have hK15 := hK14.trans hK5 (by simp)
      refine st (y_move rfl) rfl ?_
      refine st (y_extract rfl rfl) rfl ?_
      refine st (y_extract rfl rfl) rfl ?_
      refine st (y_assign rfl) rfl ?_
      refine st (y_assign rfl) rfl ?_
      refine l_nil ?_
      refine q_then ?_
      refine c_seq ?_
      refine c_region ?_
      refine st (y_loadagg rfl agg25 us25 sz25 (by assumption) (by simp) (by rfl)) rfl ?_
      refine sc rfl rfl isfn27 (c_implWrite L A n c xs _ (hR.keep hK15 (by simp)) (by omega) (fun x h => by have := hxs x h; omega)) rfl ?_
      rintro _ w6 ⟨r6, c6, rfl, hR6, hK6⟩
      rw [hs] at hR6 ⊢
      have hB1 := hB1.keep hK6 (by simp only [List.mem_cons, List.not_mem_nil, or_false, not_or, not_false_eq_true] <;> omega)
      have hK16 := hK15.trans hK6 (by simp)
      have hR56 := hR5.keep hK6 (by simp)
      refine st (y_move rfl) rfl ?_
      refine st (y_extract rfl rfl) rfl ?_
      refine st (y_extract rfl rfl) rfl ?_
      refine st (y_extract rfl rfl) rfl ?_
      refine st (y_assign rfl) rfl ?_
      refine st (y_assign rfl) rfl ?_
      refine st (y_assign rfl) rfl ?_
      refine l_nil ?_
      refine q_then ?_
      refine c_seq ?_
      refine c_region ?_
      refine st (y_move rfl) rfl ?_
      refine st (y_move rfl) rfl ?_
      refine stg rfl rfl (y_move rfl) rfl ?_
      refine st (y_pickT rfl rfl) rfl ?_
      refine st (y_move rfl) rfl ?_
      refine stg rfl rfl (y_move rfl) rfl ?_
      refine stg rfl rfl (y_convBS rfl Try.underlying42 Try.underlying5 Try.underlying9 rfl h8 hR56.cells) rfl ?_
      refine stg rfl rfl (y_move rfl) rfl ?_
      refine stg rfl rfl (y_eqST rfl rfl rfl) rfl ?_
      refine st (y_pickT rfl rfl) rfl ?_
      refine st (y_move rfl) rfl ?_
      refine stg rfl rfl (y_move rfl) rfl ?_
      refine stg rfl rfl (y_convBS rfl Try.underlying42 Try.underlying5 Try.underlying9 rfl h8 hR6.cells) rfl ?_
      refine stg rfl rfl (y_move rfl) rfl ?_
      refine stg rfl rfl (y_eqST rfl rfl rfl) rfl ?_
      refine st (y_pickT rfl rfl) rfl ?_
      refine st (y_move rfl) rfl ?_
      refine stg rfl rfl (y_move rfl) rfl ?_
      refine stg rfl rfl (y_move rfl) rfl ?_
      refine stg rfl rfl (y_lenS rfl Try.underlying9) rfl ?_
      rw [str_size]
      refine stg_t rfl rfl (y_eq_i rfl rfl) (rfl) rfl ?_
      refine st (y_pickT rfl rfl) rfl ?_
      refine st (y_move rfl) rfl ?_
      refine stg rfl rfl (y_loadagg rfl agg25 us25 sz25 (by assumption) (by simp) (by rfl)) rfl ?_
      refine scg rfl rfl rfl rfl isfn28 (c_implStorage L A n c xs _ (hR.keep hK16 (by simp)) (by omega) (fun x h => by have := hxs x h; omega)) rfl ?_
      rintro _ w7 ⟨rfl, hK7⟩
      rw [hs]
      have hK17 := hK16.trans hK7 (by simp)
      refine stg rfl rfl (y_move rfl) rfl ?_
      refine stg rfl rfl (y_lenS rfl Try.underlying9) rfl ?_
      rw [str_size]
      refine stg_t rfl rfl (y_eq_i rfl rfl) (rfl) rfl ?_
      refine st (y_pickT rfl rfl) rfl ?_
      refine st (y_assign rfl) rfl ?_
      refine l_nil ?_
      refine q_then ?_
      refine c_ret ?_
      refine q_end1 (.inl rfl) rfl rfl ?_
      exact ⟨_, rfl, rfl, hK17⟩
    ·
      refine st (y_move rfl) rfl ?_
      refine st (y_extract rfl rfl) rfl ?_
      refine st (y_extract rfl rfl) rfl ?_
      refine st (y_assign rfl) rfl ?_
      refine st (y_assign rfl) rfl ?_
      refine l_nil ?_
      refine q_then ?_
      refine c_seq ?_
      refine c_seq ?_
      refine c_region ?_
      refine st (y_move rfl) rfl ?_
      refine st (y_not rfl) rfl ?_
      refine l_nil ?_
      refine q_then ?_
      refine c_true rfl rfl ?_
      refine c_seq ?_
      refine c_region ?_
      refine st (y_assign rfl) rfl ?_
      refine l_nil ?_
      refine q_then ?_
      refine c_ret ?_
      refine q_then_ret ?_
      refine q_end1 (.inl rfl) rfl rfl ?_
      exact ⟨_, rfl, rfl, hK.trans hK3 (by simp)⟩

end Go.Proofs.Ytlhbbndedbacpaa

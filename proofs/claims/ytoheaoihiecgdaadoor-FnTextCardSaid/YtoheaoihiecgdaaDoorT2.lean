/- The thin package's told, the statements' list, is, exactly and alive, impl.Made, each by its contract where it answers true. -/
import Derived.Test.YtoheaoihiecgdaaDoorT1
import Derived.Test.YtoheaoihiecgdaaDoorK8
set_option linter.unusedVariables false
set_option linter.unusedSimpArgs false
set_option maxRecDepth 100000
namespace Go.Proofs.YtoheaoihiecgdaaDoor
open Go Go.RowKit

theorem Ow.len {w : World} {base : Nat} {e : TypeId} {A : Option Addr} {n c : Nat} {xs : List Value} (h : Ow w base e (.slice A n c) xs) : n = xs.length := by
  rcases h with ⟨h1, rfl⟩ | ⟨b, c', tail, h1, _⟩
  · cases h1; rfl
  · cases h1; rfl
theorem Ow.base {w : World} {base base' : Nat} {e : TypeId} {v : Value} {xs : List Value} (h : Ow w base e v xs) (hb : base' ≤ base) : Ow w base' e v xs := by
  rcases h with h | ⟨b, c, tail, h1, h2, h3⟩
  · exact .inl h
  · exact .inr ⟨b, c, tail, h1, by omega, h3⟩
theorem Ow.rd' {w : World} {base : Nat} {e : TypeId} {A : Option Addr} {n c : Nat} {xs : List Nat} (h : Ow w base e (.slice A n c) (xs.map vU)) : Rd w A n xs := by
  have hl := h.len
  rw [List.length_map] at hl
  obtain ⟨A', c', e, hR⟩ := h.rd
  cases e
  exact hR

theorem c_told (p q : Nat) (s : List Bool) (w : World) (hT : Tb w) (hB : BSet w p q s) (hs : s.length ≤ 100000) :
    Cal Tryd.prog 28 [vP p] w fun v w' => ∃ A c, v = aB s.length A (nums s).length c ∧ Ow w' w.heap.size 22 (.slice A (nums s).length c) ((nums s).map vU) ∧ Keep w w' [] := by
  have hpq := hB.lts
  have hT0 := hT.1
  have hcl := nums_length s
  have hcl2 := count_le s
  refine go_in' Tryd.func28 rfl Tryd.ntmps28 (Nat.le_of_ble_eq_true rfl) ?_
  refine c_seq ?_
  refine c_region ?_
  refine st_alloc [.int .u64 0, .slice none 0 0] zv25 rfl rfl ?_
  intro b2 w1 hb2 hB2 hK1 hS1
  have hS := hB.keep hK1 (by simp) (by simp)
  refine l_nil ?_
  refine q_then ?_
  refine c_seq ?_
  refine c_region ?_
  refine st (y_move rfl) rfl ?_
  refine sc rfl rfl isfn37 (c_Len p q s _ hS) rfl ?_
  rintro _ _ ⟨rfl, rfl⟩
  refine st (bld25_0 rfl) rfl ?_
  refine st_alloc [.int .u64 0, .slice none 0 0] zv25 rfl rfl ?_
  intro b3 w2 hb3 hB3 hK2 hS2
  have hB2 := hB2.keep hK2 (by simp only [List.mem_cons, List.not_mem_nil, or_false, not_or, not_false_eq_true] <;> omega)
  have hK12 := hK1.trans hK2 (by simp)
  refine st_storeagg rfl rfl (by simp [Value.oneCell']) sz25 rfl (by assumption) (by simp) rfl ?_
  intro w3 hB3' hK3 hS3
  have hB2 := hB2.keep hK3 (by simp only [List.mem_cons, List.not_mem_nil, or_false, not_or, not_false_eq_true] <;> omega)
  have hK13 := hK12.trans hK3 (by simp; omega)
  clear hB3
  have hS' := hB.keep hK13 (by simp) (by simp)
  have hT' := hT.keep hK13 (by simp)
  have hsz3 : w3.heap.size = b3 + 1 := by omega
  refine l_nil ?_
  refine q_then ?_
  refine c_seq ?_
  refine c_seq ?_
  refine c_region ?_
  refine st (y_move rfl) rfl ?_
  refine sc rfl rfl isfn22 (c_NextSet p q s 0 _ hT' hS' (by omega) (by omega)) rfl ?_
  rintro u4 w4 ⟨hK4, hres⟩
  have hB2 := hB2.keep hK4 (by simp only [List.mem_cons, List.not_mem_nil, or_false, not_or, not_false_eq_true] <;> omega)
  have hB3' := hB3'.keep hK4 (by simp only [List.mem_cons, List.not_mem_nil, or_false, not_or, not_false_eq_true] <;> omega)
  have hK14 := hK13.trans hK4 (by simp)
  have hsz4 := hK4.size
  obtain ⟨x0, ok0, hv0, hx0⟩ : ∃ x ok, u4 = vT [vU x, vB ok] ∧ ((ok = true ∧ Nxt s 0 x) ∨ (ok = false ∧ Non s 0)) := by
    rcases hres with ⟨x, e, h⟩ | ⟨e, h⟩
    · exact ⟨x, true, e, .inl ⟨rfl, h⟩⟩
    · exact ⟨0, false, e, .inr ⟨rfl, h⟩⟩
  subst hv0
  refine st (y_move rfl) rfl ?_
  refine st (y_extract rfl rfl) rfl ?_
  refine st (y_extract rfl rfl) rfl ?_
  refine st (y_assign rfl) rfl ?_
  refine st (y_assign rfl) rfl ?_
  refine l_nil ?_
  refine q_then ?_
  refine c_block ?_
  refine c_loop (fun x : Nat × Bool => [(0, vP p), (2, vP b2), (3, vP b3), (4, vU x.1), (5, vB x.2)]) (fun x w' => Keep w w' [] ∧ b3 < w'.heap.size ∧ Blk w' b2 25 [vU 0, .slice none 0 0] ∧ ∃ i A n c, i ≤ 100000 ∧ Blk w' b3 25 [vU s.length, .slice A n c] ∧ Ow w' (b3 + 1) 22 (.slice A n c) ((nums (s.take i)).map vU) ∧ ((x.2 = true ∧ Nxt s i x.1) ∨ (x.2 = false ∧ Non s i))) (fun x => if x.2 then s.length - x.1 + 1 else 0) (x0, ok0) ?_ ?_ ?_
  · exact ⟨rfl, rfl, rfl, rfl, rfl, trivial⟩
  · exact ⟨hK14, by omega, hB2, 0, none, 0, 0, by omega, hB3', Ow.nil _ _ _, hx0⟩
  · rintro ⟨x, ok⟩ w5 ⟨hK5, hsz5, hB25, i, A, n, c, hi, hB5, hO5, hx⟩
    simp only at hx ⊢
    rcases hx with ⟨rfl, hnx⟩ | ⟨rfl, hno⟩
    ·
      have hxl := hnx.lt
      have hnn := hnx.nums
      have hnl := nums_length_take s i (by have := hnx.1; omega)
      have hcn := cnt_le (fun i => s.getD i false) i
      have hix := hnx.1
      refine c_seq ?_
      refine c_seq ?_
      refine c_region ?_
      refine st (y_move rfl) rfl ?_
      refine l_nil ?_
      refine q_then ?_
      refine c_true rfl rfl ?_
      refine c_skip ?_
      refine q_then ?_
      refine c_seq ?_
      refine c_block ?_
      refine c_region ?_
      refine st (fa25_1 rfl) rfl ?_
      refine st (y_loadb rfl one23 (by assumption) (by rfl)) rfl ?_
      refine st (y_move rfl) rfl ?_
      refine st_buildSlice [vU x] Tryd.underlying23 sz22 zv22 rfl (by decide) (by decide) (by kernel_rfl) rfl ?_
      intro b6 w6 hb6 hB6 hK6 hS6
      have hO6 := hO5.keep hK6 (by simp)
      have hB5 := hB5.keep hK6 (by simp only [List.mem_cons, List.not_mem_nil, or_false, not_or, not_false_eq_true] <;> omega)
      have hB25 := hB25.keep hK6 (by simp only [List.mem_cons, List.not_mem_nil, or_false, not_or, not_false_eq_true] <;> omega)
      obtain ⟨i22, hi1, hi2, hi3, hi4⟩ := info_parts inf22
      refine st_append1 rfl rfl Tryd.underlying23 hi1 hi2 hi3 (by omega) rfl rfl (by assumption) (by assumption) (by first | omega | (simp only [List.length_map, List.length_nil, List.length_append, List.length_cons, List.length_take, List.length_drop]; omega)) (by omega) rfl ?_
      clear hi1 hi2 hi3 hi4
      intro v7 w7 L7 hO7 hK7 hL7
      obtain ⟨A7, c7, rfl⟩ := hO7.form
      have hB57 := hB5.keep hK7 (fun hm => by have := hL7 _ hm; omega)
      have hB27 := hB25.keep hK7 (fun hm => by have := hL7 _ hm; omega)
      have hsz7 := hK7.size
      refine st (fa25_1 rfl) rfl ?_
      refine st_store rfl rfl rfl sz23 (by assumption) (by first | simp | (simp; omega)) rfl ?_
      intro w8 hB8 hK8 hS8
      have hO8 := hO7.keep hK8 (fun i hi => by simp only [List.mem_singleton] at hi; left; omega)
      have hB28 := hB27.keep hK8 (by simp; omega)
      have hK18 : Keep w w8 [] := ((hK5.trans hK6 (by simp)).trans hK7 (fun i hi => by have := hL7 i hi; exact .inr (by omega))).trans hK8 (fun i hi => by simp only [List.mem_singleton] at hi; exact .inr (by omega))
      refine l_nil ?_
      refine q_block ?_
      refine q_then ?_
      refine c_region ?_
      refine st (y_move rfl) rfl ?_
      refine st (y_move rfl) rfl ?_
      refine st (y_add_u (b := 1) rfl rfl (by omega)) rfl ?_
      refine sc rfl rfl isfn22 (c_NextSet p q s (x + 1) _ (hT.keep hK18 (by simp)) (hB.keep hK18 (by simp) (by simp)) (by omega) (by omega)) rfl ?_
      rintro u9 w9 ⟨hK9, hres9⟩
      obtain ⟨x9, ok9, hv9, hx9⟩ : ∃ y ok, u9 = vT [vU y, vB ok] ∧ ((ok = true ∧ Nxt s (x + 1) y) ∨ (ok = false ∧ Non s (x + 1))) := by
        rcases hres9 with ⟨y, e, h⟩ | ⟨e, h⟩
        · exact ⟨y, true, e, .inl ⟨rfl, h⟩⟩
        · exact ⟨0, false, e, .inr ⟨rfl, h⟩⟩
      subst hv9
      refine st (y_move rfl) rfl ?_
      refine st (y_extract rfl rfl) rfl ?_
      refine st (y_extract rfl rfl) rfl ?_
      refine st (y_assign rfl) rfl ?_
      refine st (y_assign rfl) rfl ?_
      refine l_nil ?_
      refine q_round (x9, ok9) ⟨rfl, rfl, rfl, rfl, rfl, trivial⟩ ⟨hK18.trans hK9 (by simp), by have := hK9.size; omega, hB28.keep hK9 (by simp), x + 1, A7, _, c7, by omega, hB8.keep hK9 (by simp), ?_, hx9⟩ ?_
      · rw [hnn, List.map_append]
        exact hO8.keep hK9 (by simp)
      · simp only [if_true]
        rcases hx9 with ⟨rfl, h9⟩ | ⟨rfl, _⟩
        · have := h9.1
          simp only [if_true]
          omega
        · simp
    ·
      rw [← hno.nums] at hO5
      have hfo := hO5.len
      rw [List.length_map] at hfo
      subst hfo
      refine c_seq ?_
      refine c_seq ?_
      refine c_region ?_
      refine st (y_move rfl) rfl ?_
      refine l_nil ?_
      refine q_then ?_
      refine c_false rfl rfl ?_
      refine c_exit ?_
      refine q_then_exit ?_
      refine q_then_exit ?_
      refine q_block_hit ?_
      refine q_then ?_
      refine c_seq ?_
      refine c_region ?_
      refine st (y_loadagg rfl agg25 us25 sz25 (by assumption) (by simp) (by rfl)) rfl ?_
      refine st_storeagg rfl rfl (by simp [Value.oneCell']) sz25 rfl (by assumption) (by simp) rfl ?_
      intro w8 hB8 hK8 hS8
      have hK48 : Keep w w8 [] := hK5.trans hK8 (fun i hi => by simp only [List.mem_singleton] at hi; exact .inr (by omega))
      refine l_nil ?_
      refine q_then ?_
      refine c_ret ?_
      refine q_endc (.inl rfl) rfl rfl agg25 us25 sz25 (by assumption) (by rfl) ?_
      exact ⟨_, rfl, A, c, rfl, (hO5.keep hK8 (fun i hi => by simp only [List.mem_singleton] at hi; left; omega)).base (by omega), hK48⟩









































































theorem c_implMade (L : Nat) (A : Option Addr) (n c : Nat) (xs : List Nat) (w : World) (hT : Tb w) (hR : Rd w A n xs) (ho : Ok L n xs) :
    Cal Tryd.prog 17 [aB L A n c] w fun v w' => ∃ A' c', v = aB (mkS L xs).length A' (nums (mkS L xs)).length c' ∧ Ow w' w.heap.size 22 (.slice A' (nums (mkS L xs)).length c') ((nums (mkS L xs)).map vU) ∧ Keep w w' [] := by
  have hlen := ho.len
  have hT0 := hT.1
  refine go_in' Tryd.func17 rfl Tryd.ntmps17 (Nat.le_of_ble_eq_true rfl) ?_
  refine c_seq ?_
  refine c_region ?_
  refine st_box _ rfl rfl rfl ?_
  intro b1 w1 hb1 hB1 hK1 hS1
  refine st_alloc [.int .u64 0, .slice none 0 0] zv25 rfl rfl ?_
  intro b2 w2 hb2 hB2 hK2 hS2
  have hB1 := hB1.keep hK2 (by simp only [List.mem_cons, List.not_mem_nil, or_false, not_or, not_false_eq_true] <;> omega)
  have hK12 := hK1.trans hK2 (by simp)
  refine l_nil ?_
  refine q_then ?_
  refine c_seq ?_
  refine c_region ?_
  refine st (y_loadagg rfl agg25 us25 sz25 (by assumption) (by simp) (by rfl)) rfl ?_
  refine sc rfl rfl isfn14 (c_made L A n c xs _ (hR.keep hK12 (by simp)) (by have := ho.1; omega) (fun x h => by have := ho.2.2 x h; omega)) rfl ?_
  rintro _ w3 ⟨p, q, rfl, hp, hq, hS, hK3⟩
  have hB2 := hB2.keep hK3 (by simp only [List.mem_cons, List.not_mem_nil, or_false, not_or, not_false_eq_true] <;> omega)
  have hK13 := hK12.trans hK3 (by simp)
  refine st (y_move rfl) rfl ?_
  refine st (y_extract rfl rfl) rfl ?_
  refine st (y_extract rfl rfl) rfl ?_
  refine st (y_assign rfl) rfl ?_
  refine st (y_assign rfl) rfl ?_
  refine l_nil ?_
  refine q_then ?_
  refine c_seq ?_
  refine c_seq ?_
  refine c_region ?_
  refine st (y_move rfl) rfl ?_
  refine st (y_not rfl) rfl ?_
  refine l_nil ?_
  refine q_then ?_
  refine c_false rfl rfl ?_
  refine c_skip ?_
  refine q_then ?_
  refine c_seq ?_
  refine c_region ?_
  refine st (y_move rfl) rfl ?_
  refine sc rfl rfl isfn28 (c_told p q _ _ (hT.keep hK13 (by simp)) hS (by omega)) rfl ?_
  rintro _ w4 ⟨A4, c4, rfl, hO4, hK4⟩
  have hB2 := hB2.keep hK4 (by simp only [List.mem_cons, List.not_mem_nil, or_false, not_or, not_false_eq_true] <;> omega)
  have hK14 := hK13.trans hK4 (by simp)
  refine st_storeagg rfl rfl (by simp [Value.oneCell']) sz25 rfl (by assumption) (by simp) rfl ?_
  intro w5 hB5 hK5 hS5
  refine l_nil ?_
  refine q_then ?_
  refine c_ret ?_
  refine q_endc (.inl rfl) rfl rfl agg25 us25 sz25 (by assumption) (by rfl) ?_
  exact ⟨_, rfl, A4, c4, rfl, (hO4.keep hK5 (fun i hi => by simp only [List.mem_singleton] at hi; left; have := hK3.size; omega)).base (by have := hK13.size; omega), hK14.trans hK5 (fun i hi => by simp only [List.mem_singleton] at hi; exact .inr (by omega))⟩

theorem c_alive (w : World) (hT : Tb w) : Cal Tryd.prog 12 [] w fun v w' => v = vB true ∧ Keep w w' [] := by
  refine go_in' Tryd.func12 rfl Tryd.ntmps12 (Nat.le_of_ble_eq_true rfl) ?_
  refine c_seq ?_
  refine c_region ?_
  refine st (y_assign rfl) rfl ?_
  refine l_nil ?_
  refine q_then ?_
  refine c_seq ?_
  refine c_region ?_
  refine sc rfl rfl isfn18 (c_three _) rfl ?_
  rintro _ w1 ⟨b3, rfl, hR3, hb3, hK1⟩
  refine sc rfl rfl isfn17 (c_implMade 9 _ 3 3 [1, 2, 5] _ (hT.keep hK1 (by simp)) hR3 ⟨by omega, by omega, by decide⟩) rfl ?_
  rintro _ w2 ⟨A2, c2, rfl, hO2, hK2⟩
  rw [show (nums (mkS 9 [1, 2, 5])).length = 3 by decide]
  refine st (fld25_1 rfl (by rfl)) rfl ?_
  refine st (y_len rfl Tryd.underlying23) rfl ?_
  refine st_t (y_eq_i (b := 3) rfl rfl) (by omega) rfl ?_
  refine st (y_assign rfl) rfl ?_
  refine l_nil ?_
  refine q_then ?_
  refine c_ret ?_
  refine q_end1 (.inl rfl) rfl rfl ?_
  exact ⟨_, rfl, rfl, hK1.trans hK2 (by simp)⟩

end Go.Proofs.YtoheaoihiecgdaaDoor

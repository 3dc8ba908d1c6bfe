/- The thin package's told, the statements' list, is, exactly and alive, impl.Made, each by its contract where it answers true. -/
import Derived.Test.YtbahhdeblppooaaDoorT1
import Derived.Test.YtbahhdeblppooaaDoorK8
import Derived.Test.YtbahhdeblppooaaDoorO0
set_option linter.unusedVariables false
set_option linter.unusedSimpArgs false
set_option maxRecDepth 100000
namespace Go.Proofs.YtbahhdeblppooaaDoor
open Go Go.RowKit

theorem c_told (p q : Nat) (s : List Bool) (w : World) (hT : Tb w) (hB : BSet w p q s) (hs : s.length ≤ 100000) :
    Cal Tryd.prog 37 [vP p] w fun v w' => ∃ A c, v = aB s.length A (nums s).length c ∧ Ow w' w.heap.size 22 (.slice A (nums s).length c) ((nums s).map vU) ∧ Keep w w' [] := by
  have hpq := hB.lts
  have hT0 := hT.1
  have hcl := nums_length s
  have hcl2 := count_le s
  refine go_in' Tryd.func37 rfl Tryd.ntmps37 (Nat.le_of_ble_eq_true rfl) ?_
  refine c_seq ?_
  refine c_region ?_
  refine st_alloc [.int .u64 0, .slice none 0 0] zv25 rfl rfl ?_
  intro b2 w1 hb2 hB2 hK1 hS1
  have hS := hB.keep hK1 (by simp) (by simp)
  refine l_nil ?_
  refine q_then ?_
  refine c_seq ?_
  refine c_region ?_
  refine st (y_move rfl) rfl ?_
  refine sc rfl rfl isfn49 (c_Len p q s _ hS) rfl ?_
  rintro _ _ ⟨rfl, rfl⟩
  refine st (bld25_0 rfl) rfl ?_
  refine st_alloc [.int .u64 0, .slice none 0 0] zv25 rfl rfl ?_
  intro b3 w2 hb3 hB3 hK2 hS2
  have hB2 := hB2.keep hK2 (by simp only [List.mem_cons, List.not_mem_nil, or_false, not_or, not_false_eq_true] <;> omega)
  have hK12 := hK1.trans hK2 (by simp)
  refine st_storeagg rfl rfl (by simp [Value.oneCell']) sz25 rfl (by assumption) (by simp) rfl ?_
  intro w3 hB3' hK3 hS3
  have hB2 := hB2.keep hK3 (by simp only [List.mem_cons, List.not_mem_nil, or_false, not_or, not_false_eq_true] <;> omega)
  have hK13 := hK12.trans hK3 (by simp; omega)
  clear hB3
  have hS' := hB.keep hK13 (by simp) (by simp)
  have hT' := hT.keep hK13 (by simp)
  have hsz3 : w3.heap.size = b3 + 1 := by omega
  refine l_nil ?_
  refine q_then ?_
  refine c_seq ?_
  refine c_seq ?_
  refine c_region ?_
  refine st (y_move rfl) rfl ?_
  refine sc rfl rfl isfn23 (c_NextSet p q s 0 _ hT' hS' (by omega) (by omega)) rfl ?_
  rintro u4 w4 ⟨hK4, hres⟩
  have hB2 := hB2.keep hK4 (by simp only [List.mem_cons, List.not_mem_nil, or_false, not_or, not_false_eq_true] <;> omega)
  have hB3' := hB3'.keep hK4 (by simp only [List.mem_cons, List.not_mem_nil, or_false, not_or, not_false_eq_true] <;> omega)
  have hK14 := hK13.trans hK4 (by simp)
  have hsz4 := hK4.size
  obtain ⟨x0, ok0, hv0, hx0⟩ : ∃ x ok, u4 = vT [vU x, vB ok] ∧ ((ok = true ∧ Nxt s 0 x) ∨ (ok = false ∧ Non s 0)) := by
    rcases hres with ⟨x, e, h⟩ | ⟨e, h⟩
    · exact ⟨x, true, e, .inl ⟨rfl, h⟩⟩
    · exact ⟨0, false, e, .inr ⟨rfl, h⟩⟩
  subst hv0
  refine st (y_move rfl) rfl ?_
  refine st (y_extract rfl rfl) rfl ?_
  refine st (y_extract rfl rfl) rfl ?_
  refine st (y_assign rfl) rfl ?_
  refine st (y_assign rfl) rfl ?_
  refine l_nil ?_
  refine q_then ?_
  refine c_block ?_
  refine c_loop (fun x : Nat × Bool => [(0, vP p), (2, vP b2), (3, vP b3), (4, vU x.1), (5, vB x.2)]) (fun x w' => Keep w w' [] ∧ b3 < w'.heap.size ∧ Blk w' b2 25 [vU 0, .slice none 0 0] ∧ ∃ i A n c, i ≤ 100000 ∧ Blk w' b3 25 [vU s.length, .slice A n c] ∧ Ow w' (b3 + 1) 22 (.slice A n c) ((nums (s.take i)).map vU) ∧ ((x.2 = true ∧ Nxt s i x.1) ∨ (x.2 = false ∧ Non s i))) (fun x => if x.2 then s.length - x.1 + 1 else 0) (x0, ok0) ?_ ?_ ?_
  · exact ⟨rfl, rfl, rfl, rfl, rfl, trivial⟩
  · exact ⟨hK14, by omega, hB2, 0, none, 0, 0, by omega, hB3', Ow.nil _ _ _, hx0⟩
  · rintro ⟨x, ok⟩ w5 ⟨hK5, hsz5, hB25, i, A, n, c, hi, hB5, hO5, hx⟩
    simp only at hx ⊢
    rcases hx with ⟨rfl, hnx⟩ | ⟨rfl, hno⟩
    ·
      have hxl := hnx.lt
      have hnn := hnx.nums
      have hnl := nums_length_take s i (by have := hnx.1; omega)
      have hcn := cnt_le (fun i => s.getD i false) i
      have hix := hnx.1
      refine c_seq ?_
      refine c_seq ?_
      refine c_region ?_
      refine st (y_move rfl) rfl ?_
      refine l_nil ?_
      refine q_then ?_
      refine c_true rfl rfl ?_
      refine c_skip ?_
      refine q_then ?_
      refine c_seq ?_
      refine c_block ?_
      refine c_region ?_
      refine st (fa25_1 rfl) rfl ?_
      refine st (y_loadb rfl one23 (by assumption) (by rfl)) rfl ?_
      refine st (y_move rfl) rfl ?_
      refine st_buildSlice [vU x] Tryd.underlying23 sz22 zv22 rfl (by decide) (by decide) (by kernel_rfl) rfl ?_
      intro b6 w6 hb6 hB6 hK6 hS6
      have hO6 := hO5.keep hK6 (by simp)
      have hB5 := hB5.keep hK6 (by simp only [List.mem_cons, List.not_mem_nil, or_false, not_or, not_false_eq_true] <;> omega)
      have hB25 := hB25.keep hK6 (by simp only [List.mem_cons, List.not_mem_nil, or_false, not_or, not_false_eq_true] <;> omega)
      obtain ⟨i22, hi1, hi2, hi3, hi4⟩ := info_parts inf22
      refine st_append1 rfl rfl Tryd.underlying23 hi1 hi2 hi3 (by omega) rfl rfl (by assumption) (by assumption) (by first | omega | (simp only [List.length_map, List.length_nil, List.length_append, List.length_cons, List.length_take, List.length_drop]; omega)) (by omega) rfl ?_
      clear hi1 hi2 hi3 hi4
      intro v7 w7 L7 hO7 hK7 hL7
      obtain ⟨A7, c7, rfl⟩ := hO7.form
      have hB57 := hB5.keep hK7 (fun hm => by have := hL7 _ hm; omega)
      have hB27 := hB25.keep hK7 (fun hm => by have := hL7 _ hm; omega)
      have hsz7 := hK7.size
      refine st (fa25_1 rfl) rfl ?_
      refine st_store rfl rfl rfl sz23 (by assumption) (by first | simp | (simp; omega)) rfl ?_
      intro w8 hB8 hK8 hS8
      have hO8 := hO7.keep hK8 (fun i hi => by simp only [List.mem_singleton] at hi; left; omega)
      have hB28 := hB27.keep hK8 (by simp; omega)
      have hK18 : Keep w w8 [] := ((hK5.trans hK6 (by simp)).trans hK7 (fun i hi => by have := hL7 i hi; exact .inr (by omega))).trans hK8 (fun i hi => by simp only [List.mem_singleton] at hi; exact .inr (by omega))
      refine l_nil ?_
      refine q_block ?_
      refine q_then ?_
      refine c_region ?_
      refine st (y_move rfl) rfl ?_
      refine st (y_move rfl) rfl ?_
      refine st (y_add_u (b := 1) rfl rfl (by omega)) rfl ?_
      refine sc rfl rfl isfn23 (c_NextSet p q s (x + 1) _ (hT.keep hK18 (by simp)) (hB.keep hK18 (by simp) (by simp)) (by omega) (by omega)) rfl ?_
      rintro u9 w9 ⟨hK9, hres9⟩
      obtain ⟨x9, ok9, hv9, hx9⟩ : ∃ y ok, u9 = vT [vU y, vB ok] ∧ ((ok = true ∧ Nxt s (x + 1) y) ∨ (ok = false ∧ Non s (x + 1))) := by
        rcases hres9 with ⟨y, e, h⟩ | ⟨e, h⟩
        · exact ⟨y, true, e, .inl ⟨rfl, h⟩⟩
        · exact ⟨0, false, e, .inr ⟨rfl, h⟩⟩
      subst hv9
      refine st (y_move rfl) rfl ?_
      refine st (y_extract rfl rfl) rfl ?_
      refine st (y_extract rfl rfl) rfl ?_
      refine st (y_assign rfl) rfl ?_
      refine st (y_assign rfl) rfl ?_
      refine l_nil ?_
      refine q_round (x9, ok9) ⟨rfl, rfl, rfl, rfl, rfl, trivial⟩ ⟨hK18.trans hK9 (by simp), by have := hK9.size; omega, hB28.keep hK9 (by simp), x + 1, A7, _, c7, by omega, hB8.keep hK9 (by simp), ?_, hx9⟩ ?_
      · rw [hnn, List.map_append]
        exact hO8.keep hK9 (by simp)
      · simp only [if_true]
        rcases hx9 with ⟨rfl, h9⟩ | ⟨rfl, _⟩
        · have := h9.1
          simp only [if_true]
          omega
        · simp
    ·
      rw [← hno.nums] at hO5
      have hfo := hO5.len
      rw [List.length_map] at hfo
      subst hfo
      refine c_seq ?_
      refine c_seq ?_
      refine c_region ?_
      refine st (y_move rfl) rfl ?_
      refine l_nil ?_
      refine q_then ?_
      refine c_false rfl rfl ?_
      refine c_exit ?_
      refine q_then_exit ?_
      refine q_then_exit ?_
      refine q_block_hit ?_
      refine q_then ?_
      refine c_seq ?_
      refine c_region ?_
      refine st (y_loadagg rfl agg25 us25 sz25 (by assumption) (by simp) (by rfl)) rfl ?_
      refine st_storeagg rfl rfl (by simp [Value.oneCell']) sz25 rfl (by assumption) (by simp) rfl ?_
      intro w8 hB8 hK8 hS8
      have hK48 : Keep w w8 [] := hK5.trans hK8 (fun i hi => by simp only [List.mem_singleton] at hi; exact .inr (by omega))
      refine l_nil ?_
      refine q_then ?_
      refine c_ret ?_
      refine q_endc (.inl rfl) rfl rfl agg25 us25 sz25 (by assumption) (by rfl) ?_
      exact ⟨_, rfl, A, c, rfl, (hO5.keep hK8 (fun i hi => by simp only [List.mem_singleton] at hi; left; omega)).base (by omega), hK48⟩

theorem c_list (A B : Option Addr) (n c m d : Nat) (xs ys : List Nat) (w : World) (hx : Rd w A n xs) (hy : Rd w B m ys) (he : xs = ys) :
    Cal Tryd.prog 16 [.slice A n c, .slice B m d] w fun v w' => v = vB true ∧ Keep w w' [] := by
  subst he
  have hnx := hx.1
  have hny := hy.1
  have hnb := hx.2.1
  refine go_in' Tryd.func16 rfl Tryd.ntmps16 (Nat.le_of_ble_eq_true rfl) ?_
  refine c_seq ?_
  refine c_region ?_
  refine st (y_assign rfl) rfl ?_
  refine l_nil ?_
  refine q_then ?_
  refine c_seq ?_
  refine c_seq ?_
  refine c_region ?_
  refine st (y_move rfl) rfl ?_
  refine st (y_len rfl Tryd.underlying23) rfl ?_
  refine st (y_move rfl) rfl ?_
  refine st (y_len rfl Tryd.underlying23) rfl ?_
  refine st_f (y_ne_i rfl rfl) (by omega) rfl ?_
  refine l_nil ?_
  refine q_then ?_
  refine c_false rfl rfl ?_
  refine c_skip ?_
  refine q_then ?_
  refine c_seq ?_
  refine c_seq ?_
  refine c_region ?_
  refine st (y_move rfl) rfl ?_
  refine st (y_len rfl Tryd.underlying23) rfl ?_
  refine st (y_move (v := vI ((0 : Nat) : Int)) rfl) rfl ?_
  refine l_nil ?_
  refine q_then ?_
  refine c_block ?_
  refine c_loop (fun k : Nat => [(0, .slice A n c), (1, .slice B m d), (12, vI (n : Nat)), (13, vI (k : Nat))]) (fun k w' => k ≤ n ∧ Keep w w' []) (fun k => n - k) 0 ?_ ?_ ?_
  · exact ⟨rfl, rfl, rfl, rfl, trivial⟩
  · exact ⟨Nat.zero_le _, Keep.refl _ _⟩
  · rintro k w1 ⟨hk, hK⟩
    refine c_seq ?_
    refine c_region ?_
    refine st_if (y_lt_i rfl rfl) rfl (fun hlt => ?_) (fun hlt => ?_)
    · have hK2 := hK.trans (Keep.drew w1 []) (by simp)
      obtain ⟨ad, rfl, had, hcell⟩ := (hx.keep hK2 (by simp)).2.2 (by omega)
      obtain ⟨ad2, rfl, had2, hcell2⟩ := (hy.keep hK2 (by simp)).2.2 (by omega)
      have hc := hcell k (by omega)
      have hc2 := hcell2 k (by omega)
      refine l_nil ?_
      refine q_then ?_
      refine c_seq ?_
      refine c_true rfl rfl ?_
      refine c_skip ?_
      refine q_then ?_
      refine c_seq ?_
      refine c_block ?_
      refine c_seq ?_
      refine c_region ?_
      refine st (y_move rfl) rfl ?_
      refine st (y_assign rfl) rfl ?_
      refine l_nil ?_
      refine q_then ?_
      refine c_seq ?_
      refine c_still mixed (by kernel_rfl) ?_
      refine ss (y_move rfl) rfl ?_
      refine ss (y_move rfl) rfl ?_
      first | refine ss (y_index0 rfl rfl Tryd.underlying23 sz22 (by omega)) rfl ?_ | refine ss (y_index rfl rfl Tryd.underlying23 sz22 (by omega)) rfl ?_ | refine ss (y_indexA rfl rfl Tryd.underlying23 sz22 (by omega)) rfl ?_
      refine ss (y_load rfl one22 (by assumption)) rfl ?_
      refine ss (y_move rfl) rfl ?_
      refine ss (y_move rfl) rfl ?_
      first | refine ss (y_index0 rfl rfl Tryd.underlying23 sz22 (by omega)) rfl ?_ | refine ss (y_index rfl rfl Tryd.underlying23 sz22 (by omega)) rfl ?_ | refine ss (y_indexA rfl rfl Tryd.underlying23 sz22 (by omega)) rfl ?_
      refine ss (y_load rfl one22 (by assumption)) rfl ?_
      refine ss_f (y_ne_u rfl rfl) (by omega) rfl ?_
      refine s_nil ?_
      refine q_then ?_
      refine c_false rfl rfl ?_
      refine c_skip ?_
      refine q_block ?_
      refine q_then ?_
      refine c_region ?_
      first | refine st (y_add_in (b := 1) rfl rfl (by omega)) rfl ?_ | refine st (y_add_i (b := 1) rfl rfl (by omega) (by omega)) rfl ?_
      refine st (y_move rfl) rfl ?_
      refine l_nil ?_
      exact q_round (k + 1) ⟨rfl, rfl, rfl, rfl, trivial⟩ ⟨by omega, hK2⟩ (by omega)
    ·
      refine l_nil ?_
      refine q_then ?_
      refine c_seq ?_
      refine c_false rfl rfl ?_
      refine c_exit ?_
      refine q_then_exit ?_
      refine q_then_exit ?_
      refine q_block_hit ?_
      refine q_then ?_
      refine c_seq ?_
      refine c_region ?_
      refine st (y_assign rfl) rfl ?_
      refine l_nil ?_
      refine q_then ?_
      refine c_ret ?_
      refine q_end1 (.inl rfl) rfl rfl ?_
      exact ⟨_, rfl, rfl, hK⟩

theorem c_is (L : Nat) (A : Option Addr) (n c : Nat) (xs : List Nat) (B : Option Addr) (m d : Nat) (s : List Bool) (w : World) (hx : Rd w A n xs) (hB : RdB w B m s) (hs : s.length ≤ 100000) (he : xs = nums s) :
    Cal Tryd.prog 20 [aB L A n c, .slice B m d] w fun v w' => v = vB true ∧ Keep w w' [] := by
  refine go_in' Tryd.func20 rfl Tryd.ntmps20 (Nat.le_of_ble_eq_true rfl) ?_
  refine c_seq ?_
  refine c_region ?_
  refine st_box _ rfl rfl rfl ?_
  intro b2 w1 hb2 hB2 hK1 hS1
  have hK1d := hK1.trans (Keep.drew w1 []) (by simp)
  refine st (y_assign rfl) rfl ?_
  refine l_nil ?_
  refine q_then ?_
  refine c_seq ?_
  refine c_heldN ((fun w' => Blk w' b2 25 [vU L, .slice A n c])) 3 mixed (by kernel_rfl) (hB2.drew) ?_
  refine sh (fun w' hS => fa25_1 rfl) rfl rfl ?_
  refine sh (fun w' hS => y_loadb rfl one23 (by first | assumption | exact hS | exact hS.1 | exact hS.2.1 | exact hS.2.2.1 | exact hS.2.2.2.1 | exact hS.2 | exact hS.2.2 | exact hS.2.2.2) (by rfl)) rfl rfl ?_
  refine sh (fun w' hS => y_move rfl) rfl rfl ?_
  refine h_nil ?_
  show wpL _ _ _ _ _ _ _ _
  refine sc rfl rfl isfn14 (c_NumbersR B m d s _ (hB.keep hK1d (by simp)) hs) rfl ?_
  rintro v3 w3 ⟨hO, hK3⟩
  obtain ⟨A3, c3, rfl, hRd3⟩ := hO.rd
  have hK13 := hK1d.trans hK3 (by simp)
  refine l_nil ?_
  refine q_tail ((hB2.drew.keep hK3 (by simp))) ?_
  show wpL _ _ _ _ _ _ _ _
  refine sc rfl rfl isfn16 (c_list A A3 n c _ c3 xs (nums s) _ (hx.keep hK13 (by simp)) hRd3 he) rfl ?_
  rintro _ w4 ⟨rfl, hK4⟩
  refine l_nil ?_
  refine q_tail (((hB2.drew.keep hK3 (by simp)).keep hK4 (by simp))) ?_
  show wpL _ _ _ _ _ _ _ _
  refine st (y_assign rfl) rfl ?_
  refine l_nil ?_
  refine q_tail (((hB2.drew.keep hK3 (by simp)).keep hK4 (by simp))) ?_
  show qf _ _ _ _ _ _
  refine q_then ?_
  refine c_ret ?_
  refine q_end1 (.inl rfl) rfl rfl ?_
  exact ⟨_, rfl, rfl, hK13.trans hK4 (by simp)⟩

















theorem c_implMade (L : Nat) (A : Option Addr) (n c : Nat) (xs : List Nat) (w : World) (hT : Tb w) (hR : Rd w A n xs) (ho : Ok L n xs) :
    Cal Tryd.prog 30 [aB L A n c] w fun v w' => ∃ A' c', v = aB (mkS L xs).length A' (nums (mkS L xs)).length c' ∧ Ow w' w.heap.size 22 (.slice A' (nums (mkS L xs)).length c') ((nums (mkS L xs)).map vU) ∧ Keep w w' [] := by
  have hlen := ho.len
  have hT0 := hT.1
  refine go_in' Tryd.func30 rfl Tryd.ntmps30 (Nat.le_of_ble_eq_true rfl) ?_
  refine c_seq ?_
  refine c_region ?_
  refine st_box _ rfl rfl rfl ?_
  intro b1 w1 hb1 hB1 hK1 hS1
  refine st_alloc [.int .u64 0, .slice none 0 0] zv25 rfl rfl ?_
  intro b2 w2 hb2 hB2 hK2 hS2
  have hB1 := hB1.keep hK2 (by simp only [List.mem_cons, List.not_mem_nil, or_false, not_or, not_false_eq_true] <;> omega)
  have hK12 := hK1.trans hK2 (by simp)
  refine l_nil ?_
  refine q_then ?_
  refine c_seq ?_
  refine c_region ?_
  refine st (y_loadagg rfl agg25 us25 sz25 (by assumption) (by simp) (by rfl)) rfl ?_
  refine sc rfl rfl isfn22 (c_made L A n c xs _ (hR.keep hK12 (by simp)) (by have := ho.1; omega) (fun x h => by have := ho.2.2 x h; omega)) rfl ?_
  rintro _ w3 ⟨p, q, rfl, hp, hq, hS, hK3⟩
  have hB2 := hB2.keep hK3 (by simp only [List.mem_cons, List.not_mem_nil, or_false, not_or, not_false_eq_true] <;> omega)
  have hK13 := hK12.trans hK3 (by simp)
  refine st (y_move rfl) rfl ?_
  refine st (y_extract rfl rfl) rfl ?_
  refine st (y_extract rfl rfl) rfl ?_
  refine st (y_assign rfl) rfl ?_
  refine st (y_assign rfl) rfl ?_
  refine l_nil ?_
  refine q_then ?_
  refine c_seq ?_
  refine c_seq ?_
  refine c_region ?_
  refine st (y_move rfl) rfl ?_
  refine st (y_not rfl) rfl ?_
  refine l_nil ?_
  refine q_then ?_
  refine c_false rfl rfl ?_
  refine c_skip ?_
  refine q_then ?_
  refine c_seq ?_
  refine c_region ?_
  refine st (y_move rfl) rfl ?_
  refine sc rfl rfl isfn37 (c_told p q _ _ (hT.keep hK13 (by simp)) hS (by omega)) rfl ?_
  rintro _ w4 ⟨A4, c4, rfl, hO4, hK4⟩
  have hB2 := hB2.keep hK4 (by simp only [List.mem_cons, List.not_mem_nil, or_false, not_or, not_false_eq_true] <;> omega)
  have hK14 := hK13.trans hK4 (by simp)
  refine st_storeagg rfl rfl (by simp [Value.oneCell']) sz25 rfl (by assumption) (by simp) rfl ?_
  intro w5 hB5 hK5 hS5
  refine l_nil ?_
  refine q_then ?_
  refine c_ret ?_
  refine q_endc (.inl rfl) rfl rfl agg25 us25 sz25 (by assumption) (by rfl) ?_
  exact ⟨_, rfl, A4, c4, rfl, (hO4.keep hK5 (fun i hi => by simp only [List.mem_singleton] at hi; left; have := hK3.size; omega)).base (by have := hK13.size; omega), hK14.trans hK5 (fun i hi => by simp only [List.mem_singleton] at hi; exact .inr (by omega))⟩

theorem c_alive (w : World) (hT : Tb w) : Cal Tryd.prog 17 [] w fun v w' => v = vB true ∧ Keep w w' [] := by
  refine go_in' Tryd.func17 rfl Tryd.ntmps17 (Nat.le_of_ble_eq_true rfl) ?_
  refine c_seq ?_
  refine c_region ?_
  refine st (y_assign rfl) rfl ?_
  refine l_nil ?_
  refine q_then ?_
  refine c_seq ?_
  refine c_region ?_
  refine sc rfl rfl isfn13 (c_three _) rfl ?_
  rintro _ w1 ⟨b3, rfl, hR3, hb3, hK1⟩
  refine sc rfl rfl isfn30 (c_implMade 9 _ 3 3 [1, 2, 5] _ (hT.keep hK1 (by simp)) hR3 ⟨by omega, by omega, by decide⟩) rfl ?_
  rintro _ w2 ⟨A2, c2, rfl, hO2, hK2⟩
  rw [show (nums (mkS 9 [1, 2, 5])).length = 3 by decide]
  refine st (fld25_1 rfl (by rfl)) rfl ?_
  refine st (y_len rfl Tryd.underlying23) rfl ?_
  refine st_t (y_eq_i (b := 3) rfl rfl) (by omega) rfl ?_
  refine st (y_assign rfl) rfl ?_
  refine l_nil ?_
  refine q_then ?_
  refine c_ret ?_
  refine q_end1 (.inl rfl) rfl rfl ?_
  exact ⟨_, rfl, rfl, hK1.trans hK2 (by simp)⟩

end Go.Proofs.YtbahhdeblppooaaDoor

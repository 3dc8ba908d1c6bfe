/- The rule as a row of four, the reference's Joined, both sets made at once. -/
import Derived.Test.YtefhjchhfpjciaaDoorC5
import Derived.Test.YtefhjchhfpjciaaDoorK9
import Derived.Test.YtefhjchhfpjciaaDoorD2
import Derived.Test.YtefhjchhfpjciaaDoorC2
set_option linter.unusedVariables false
set_option linter.unusedSimpArgs false
set_option maxRecDepth 100000
namespace Go.Proofs.YtefhjchhfpjciaaDoor
open Go Go.RowKit

def tabs : List (List Bool) := [[false, true, true, true], [false, false, false, true], [false, false, true, false], [false, true, true, false]]
theorem tabs_len {i : Nat} (h : i < 4) : (tabs.getD i []).length = 4 := by
  rcases (show i = 0 ∨ i = 1 ∨ i = 2 ∨ i = 3 by omega) with rfl | rfl | rfl | rfl <;> rfl
theorem four {l : List Bool} (h : l.length = 4) : ∃ a b c d, l = [a, b, c, d] := by
  match l, h with
  | [a, b, c, d], _ => exact ⟨a, b, c, d, rfl⟩

theorem c_table (i : Nat) (hi : i < 4) (w : World) : Cal Tryd.prog 9 [vI (i : Nat)] w fun v w' => v = .agg ((tabs.getD i []).map vB).toArray ∧ Keep w w' [] := by
  rcases (show i = 0 ∨ i = 1 ∨ i = 2 ∨ i = 3 by omega) with rfl | rfl | rfl | rfl
  · refine go_in' Tryd.func9 rfl Tryd.ntmps9 (Nat.le_of_ble_eq_true rfl) ?_
    refine c_seq ?_
    refine c_region ?_
    refine st_alloc [.bool false, .bool false, .bool false, .bool false] zv34 rfl rfl ?_
    intro b1 w1 hb1 hB1 hK1 hS1
    refine l_nil ?_
    refine q_then ?_
    refine c_seq ?_
    refine c_region ?_
    refine st (bld34_0_1_2_3 rfl rfl rfl rfl) rfl ?_
    refine st (bld34_0_1_2_3 rfl rfl rfl rfl) rfl ?_
    refine st (bld34_0_1_2_3 rfl rfl rfl rfl) rfl ?_
    refine st (bld34_0_1_2_3 rfl rfl rfl rfl) rfl ?_
    refine st_buildSlice [vB false, vB true, vB true, vB true, vB false, vB false, vB false, vB true, vB false, vB false, vB true, vB false, vB false, vB true, vB true, vB false] Tryd.underlying49 sz34 zv34 rfl (by decide) (by decide) (by kernel_rfl) rfl ?_
    intro b2 w2 hb2 hB2 hK2 hS2
    have hB1 := hB1.keep hK2 (by simp only [List.mem_cons, List.not_mem_nil, or_false, not_or, not_false_eq_true] <;> omega)
    refine st (y_move rfl) rfl ?_
    refine st (y_indexs rfl rfl Tryd.underlying49 sz34 (by omega)) rfl ?_
    refine st (y_loadagg rfl agg34 us34 sz34 (by assumption) (by simp) (by rfl)) rfl ?_
    refine st_storeagg rfl rfl (by simp [Value.oneCell']) sz34 rfl (by assumption) (by simp) rfl ?_
    intro w3 hB3 hK3 hS3
    refine l_nil ?_
    refine q_then ?_
    refine c_ret ?_
    refine q_endc (.inl rfl) rfl rfl agg34 us34 sz34 (by assumption) (by rfl) ?_
    have hK : Keep w _ [] := ((((Keep.refl w []).trans hK1 (by intro i; simp only [List.mem_cons, List.not_mem_nil, or_false, false_or, false_implies] <;> omega)).trans hK2 (by intro i; simp only [List.mem_cons, List.not_mem_nil, or_false, false_or, false_implies] <;> omega)).trans hK3 (by intro i; simp only [List.mem_cons, List.not_mem_nil, or_false, false_or, false_implies] <;> omega))
    exact ⟨_, rfl, rfl, hK⟩
  ·
    refine go_in' Tryd.func9 rfl Tryd.ntmps9 (Nat.le_of_ble_eq_true rfl) ?_
    refine c_seq ?_
    refine c_region ?_
    refine st_alloc [.bool false, .bool false, .bool false, .bool false] zv34 rfl rfl ?_
    intro b1 w1 hb1 hB1 hK1 hS1
    refine l_nil ?_
    refine q_then ?_
    refine c_seq ?_
    refine c_region ?_
    refine st (bld34_0_1_2_3 rfl rfl rfl rfl) rfl ?_
    refine st (bld34_0_1_2_3 rfl rfl rfl rfl) rfl ?_
    refine st (bld34_0_1_2_3 rfl rfl rfl rfl) rfl ?_
    refine st (bld34_0_1_2_3 rfl rfl rfl rfl) rfl ?_
    refine st_buildSlice [vB false, vB true, vB true, vB true, vB false, vB false, vB false, vB true, vB false, vB false, vB true, vB false, vB false, vB true, vB true, vB false] Tryd.underlying49 sz34 zv34 rfl (by decide) (by decide) (by kernel_rfl) rfl ?_
    intro b2 w2 hb2 hB2 hK2 hS2
    have hB1 := hB1.keep hK2 (by simp only [List.mem_cons, List.not_mem_nil, or_false, not_or, not_false_eq_true] <;> omega)
    refine st (y_move rfl) rfl ?_
    refine st (y_indexs rfl rfl Tryd.underlying49 sz34 (by omega)) rfl ?_
    refine st (y_loadagg rfl agg34 us34 sz34 (by assumption) (by simp) (by rfl)) rfl ?_
    refine st_storeagg rfl rfl (by simp [Value.oneCell']) sz34 rfl (by assumption) (by simp) rfl ?_
    intro w3 hB3 hK3 hS3
    refine l_nil ?_
    refine q_then ?_
    refine c_ret ?_
    refine q_endc (.inl rfl) rfl rfl agg34 us34 sz34 (by assumption) (by rfl) ?_
    have hK : Keep w _ [] := ((((Keep.refl w []).trans hK1 (by intro i; simp only [List.mem_cons, List.not_mem_nil, or_false, false_or, false_implies] <;> omega)).trans hK2 (by intro i; simp only [List.mem_cons, List.not_mem_nil, or_false, false_or, false_implies] <;> omega)).trans hK3 (by intro i; simp only [List.mem_cons, List.not_mem_nil, or_false, false_or, false_implies] <;> omega))
    exact ⟨_, rfl, rfl, hK⟩
  ·
    refine go_in' Tryd.func9 rfl Tryd.ntmps9 (Nat.le_of_ble_eq_true rfl) ?_
    refine c_seq ?_
    refine c_region ?_
    refine st_alloc [.bool false, .bool false, .bool false, .bool false] zv34 rfl rfl ?_
    intro b1 w1 hb1 hB1 hK1 hS1
    refine l_nil ?_
    refine q_then ?_
    refine c_seq ?_
    refine c_region ?_
    refine st (bld34_0_1_2_3 rfl rfl rfl rfl) rfl ?_
    refine st (bld34_0_1_2_3 rfl rfl rfl rfl) rfl ?_
    refine st (bld34_0_1_2_3 rfl rfl rfl rfl) rfl ?_
    refine st (bld34_0_1_2_3 rfl rfl rfl rfl) rfl ?_
    refine st_buildSlice [vB false, vB true, vB true, vB true, vB false, vB false, vB false, vB true, vB false, vB false, vB true, vB false, vB false, vB true, vB true, vB false] Tryd.underlying49 sz34 zv34 rfl (by decide) (by decide) (by kernel_rfl) rfl ?_
    intro b2 w2 hb2 hB2 hK2 hS2
    have hB1 := hB1.keep hK2 (by simp only [List.mem_cons, List.not_mem_nil, or_false, not_or, not_false_eq_true] <;> omega)
    refine st (y_move rfl) rfl ?_
    refine st (y_indexs rfl rfl Tryd.underlying49 sz34 (by omega)) rfl ?_
    refine st (y_loadagg rfl agg34 us34 sz34 (by assumption) (by simp) (by rfl)) rfl ?_
    refine st_storeagg rfl rfl (by simp [Value.oneCell']) sz34 rfl (by assumption) (by simp) rfl ?_
    intro w3 hB3 hK3 hS3
    refine l_nil ?_
    refine q_then ?_
    refine c_ret ?_
    refine q_endc (.inl rfl) rfl rfl agg34 us34 sz34 (by assumption) (by rfl) ?_
    have hK : Keep w _ [] := ((((Keep.refl w []).trans hK1 (by intro i; simp only [List.mem_cons, List.not_mem_nil, or_false, false_or, false_implies] <;> omega)).trans hK2 (by intro i; simp only [List.mem_cons, List.not_mem_nil, or_false, false_or, false_implies] <;> omega)).trans hK3 (by intro i; simp only [List.mem_cons, List.not_mem_nil, or_false, false_or, false_implies] <;> omega))
    exact ⟨_, rfl, rfl, hK⟩
  ·
    refine go_in' Tryd.func9 rfl Tryd.ntmps9 (Nat.le_of_ble_eq_true rfl) ?_
    refine c_seq ?_
    refine c_region ?_
    refine st_alloc [.bool false, .bool false, .bool false, .bool false] zv34 rfl rfl ?_
    intro b1 w1 hb1 hB1 hK1 hS1
    refine l_nil ?_
    refine q_then ?_
    refine c_seq ?_
    refine c_region ?_
    refine st (bld34_0_1_2_3 rfl rfl rfl rfl) rfl ?_
    refine st (bld34_0_1_2_3 rfl rfl rfl rfl) rfl ?_
    refine st (bld34_0_1_2_3 rfl rfl rfl rfl) rfl ?_
    refine st (bld34_0_1_2_3 rfl rfl rfl rfl) rfl ?_
    refine st_buildSlice [vB false, vB true, vB true, vB true, vB false, vB false, vB false, vB true, vB false, vB false, vB true, vB false, vB false, vB true, vB true, vB false] Tryd.underlying49 sz34 zv34 rfl (by decide) (by decide) (by kernel_rfl) rfl ?_
    intro b2 w2 hb2 hB2 hK2 hS2
    have hB1 := hB1.keep hK2 (by simp only [List.mem_cons, List.not_mem_nil, or_false, not_or, not_false_eq_true] <;> omega)
    refine st (y_move rfl) rfl ?_
    refine st (y_indexs rfl rfl Tryd.underlying49 sz34 (by omega)) rfl ?_
    refine st (y_loadagg rfl agg34 us34 sz34 (by assumption) (by simp) (by rfl)) rfl ?_
    refine st_storeagg rfl rfl (by simp [Value.oneCell']) sz34 rfl (by assumption) (by simp) rfl ?_
    intro w3 hB3 hK3 hS3
    refine l_nil ?_
    refine q_then ?_
    refine c_ret ?_
    refine q_endc (.inl rfl) rfl rfl agg34 us34 sz34 (by assumption) (by rfl) ?_
    have hK : Keep w _ [] := ((((Keep.refl w []).trans hK1 (by intro i; simp only [List.mem_cons, List.not_mem_nil, or_false, false_or, false_implies] <;> omega)).trans hK2 (by intro i; simp only [List.mem_cons, List.not_mem_nil, or_false, false_or, false_implies] <;> omega)).trans hK3 (by intro i; simp only [List.mem_cons, List.not_mem_nil, or_false, false_or, false_implies] <;> omega))
    exact ⟨_, rfl, rfl, hK⟩

theorem joined_at (g : Bool → Bool → Bool) (s t : List Bool) (i : Nat) (h : i < max s.length t.length) : (joined g s t).getD i false = g (s.getD i false) (t.getD i false) := by
  rw [List.getD_eq_getElem?_getD]; simp [joined, h]

theorem c_Joined (b b2 : Nat) (s t : List Bool) (tb : List Bool) (htb : tb.length = 4) (w : World) (hB : Bl w b s) (hB2 : Bl w b2 t) (hs : s.length ≤ 100000) (ht : t.length ≤ 100000) :
    Cal Tryd.prog 8 [vS b s.length s.length, vS b2 t.length t.length, .agg (tb.map vB).toArray] w fun v w' => ∃ b', v = vS b' (joined (tabf tb) s t).length (joined (tabf tb) s t).length ∧ Bl w' b' (joined (tabf tb) s t) ∧ w.heap.size ≤ b' ∧ Keep w w' [] := by
  obtain ⟨x0, x1, x2, x3, rfl⟩ := four htb
  have hbl : b < w.heap.size := Blk.lt hB
  have hbl2 : b2 < w.heap.size := Blk.lt hB2
  obtain ⟨N, hN⟩ : ∃ N, max s.length t.length = N := ⟨_, rfl⟩
  rw [joined_length, hN]
  have hNi : max (s.length : Int) (t.length : Int) = (N : Int) := by omega
  refine go_in' Tryd.func8 rfl Tryd.ntmps8 (Nat.le_of_ble_eq_true rfl) ?_
  refine c_seq ?_
  refine c_region ?_
  refine st_box _ rfl rfl rfl ?_
  intro b5 w1 hb5 hB5 hK1 hS1
  refine st (y_assign rfl) rfl ?_
  refine l_nil ?_
  refine q_then ?_
  refine c_seq ?_
  refine c_region ?_
  refine st (y_move rfl) rfl ?_
  refine st (y_len rfl Tryd.underlying28) rfl ?_
  refine st (y_move rfl) rfl ?_
  refine st (y_len rfl Tryd.underlying28) rfl ?_
  refine st (y_max_i rfl rfl Tryd.underlying3) rfl ?_
  rw [hNi]
  refine mk28 rfl rfl (by omega) (by omega) rfl ?_
  intro b7 w2 hb7 hB7 hK2 hS2
  have hB5 := hB5.keep hK2 (by simp only [List.mem_cons, List.not_mem_nil, or_false, not_or, not_false_eq_true] <;> omega)
  have hK12 := hK1.trans hK2 (by simp)
  refine st (y_assign rfl) rfl ?_
  refine l_nil ?_
  refine q_then ?_
  refine c_seq ?_
  refine c_seq ?_
  refine c_region ?_
  refine st (y_move rfl) rfl ?_
  refine st (y_len rfl Tryd.underlying28) rfl ?_
  refine st (y_move (v := vI ((0 : Nat) : Int)) rfl) rfl ?_
  refine l_nil ?_
  refine q_then ?_
  refine c_block ?_
  refine c_loop (fun k : Nat => [(0, vS b s.length s.length), (1, vS b2 t.length t.length), (5, vP b5), (7, vS b7 N N), (17, vI (N : Nat)), (18, vI (k : Nat))]) (fun k w' => k ≤ N ∧ Keep w2 w' [b7] ∧ ∃ u : List Bool, u.length = N ∧ Bl w' b7 u ∧ ∀ j, j < k → u.getD j false = (joined (tabf [x0, x1, x2, x3]) s t).getD j false) (fun k => N - k) 0 ?_ ?_ ?_
  · exact ⟨rfl, rfl, rfl, rfl, rfl, rfl, trivial⟩
  · exact ⟨Nat.zero_le _, Keep.refl _ _, List.replicate N false, by simp, hB7, fun j hj => absurd hj (by omega)⟩
  · rintro k w3 ⟨hk, hK3, u, hul, hBu, hu⟩
    have hBs : Bl w3 b s := (hB.keep hK12 (by simp)).keep hK3 (by simp; omega)
    have hBt : Bl w3 b2 t := (hB2.keep hK12 (by simp)).keep hK3 (by simp; omega)
    have hBx := hB5.keep hK3 (by simp; omega)
    unfold Bl at hBu
    refine c_seq ?_
    refine c_region ?_
    refine st_if (y_lt_i rfl rfl) rfl (fun hlt => ?_) (fun hlt => ?_)
    · have hat := joined_at (tabf [x0, x1, x2, x3]) s t k (by omega)
      have step : ∀ x, x = tabf [x0, x1, x2, x3] (s.getD k false) (t.getD k false) → ∀ j, j < k + 1 → (u.set k x).getD j false = (joined (tabf [x0, x1, x2, x3]) s t).getD j false := by
        intro x hx j hj
        rw [set_getD u k j x (by omega)]
        by_cases e : j = k
        · rw [if_pos e, e, hat, hx]
        · rw [if_neg e]; exact hu j (by omega)
      refine l_nil ?_
      refine q_then ?_
      refine c_seq ?_
      refine c_true rfl rfl ?_
      refine c_skip ?_
      refine q_then ?_
      refine c_seq ?_
      refine c_block ?_
      refine c_seq ?_
      refine c_region ?_
      refine st (y_move rfl) rfl ?_
      refine st (y_assign rfl) rfl ?_
      refine l_nil ?_
      refine q_then ?_
      refine c_seq ?_
      refine c_region ?_
      refine st (y_assign (v := vI ((0 : Nat) : Int)) rfl) rfl ?_
      refine l_nil ?_
      refine q_then ?_
      refine c_seq ?_
      refine c_seq ?_
      refine c_region ?_
      refine st (y_move rfl) rfl ?_
      refine st (y_move rfl) rfl ?_
      refine sc rfl rfl isfn24 (c_Has b s k _ hBs (by omega)) rfl ?_
      rintro _ _ ⟨rfl, rfl⟩
      refine l_nil ?_
      refine q_then ?_
      refine c_ifb rfl (fun h1 => ?_) (fun h1 => ?_)
      · refine c_region ?_
        refine st (y_move rfl) rfl ?_
        first | refine st (y_add_in (b := 2) rfl rfl (by omega)) rfl ?_ | refine st (y_add_i (b := 2) rfl rfl (by omega) (by omega)) rfl ?_
        refine st (y_assign rfl) rfl ?_
        refine l_nil ?_
        refine q_then ?_
        refine c_seq ?_
        refine c_seq ?_
        refine c_region ?_
        refine st (y_move rfl) rfl ?_
        refine st (y_move rfl) rfl ?_
        refine sc rfl rfl isfn24 (c_Has b2 t k _ hBt (by omega)) rfl ?_
        rintro _ _ ⟨rfl, rfl⟩
        refine l_nil ?_
        refine q_then ?_
        refine c_ifb rfl (fun h2 => ?_) (fun h2 => ?_)
        · refine c_region ?_
          refine st (y_move rfl) rfl ?_
          first | refine st (y_add_in (b := 1) rfl rfl (by omega)) rfl ?_ | refine st (y_add_i (b := 1) rfl rfl (by omega) (by omega)) rfl ?_
          refine st (y_assign rfl) rfl ?_
          refine l_nil ?_
          refine q_then ?_
          refine c_region ?_
          refine st (y_move rfl) rfl ?_
          refine st (y_move rfl) rfl ?_
          refine st (y_move rfl) rfl ?_
          refine st (y_indexarr rfl rfl Tryd.underlying34 sz4 (by omega)) rfl ?_
          refine st (y_loadb rfl one4 (by assumption) (by rfl)) rfl ?_
          first | refine st (y_index0 rfl rfl Tryd.underlying28 sz4 (by omega)) rfl ?_ | refine st (y_index rfl rfl Tryd.underlying28 sz4 (by omega)) rfl ?_ | refine st (y_indexA rfl rfl Tryd.underlying28 sz4 (by omega)) rfl ?_
          refine st_storeM vB rfl rfl rfl sz4 (by assumption) (by first | omega | (simp only [List.length_append, List.length_map, List.length_replicate, List.length_set, List.length_take, List.length_drop]; omega)) rfl ?_
          intro w4 hB4 hK4 hS4
          refine l_nil ?_
          refine q_block ?_
          refine q_then ?_
          refine c_region ?_
          first | refine st (y_add_in (b := 1) rfl rfl (by omega)) rfl ?_ | refine st (y_add_i (b := 1) rfl rfl (by omega) (by omega)) rfl ?_
          refine st (y_move rfl) rfl ?_
          refine l_nil ?_
          refine q_round (k + 1) ⟨rfl, rfl, rfl, rfl, rfl, rfl, trivial⟩ ⟨by omega, hK3.trans hK4 (fun i h => .inl h), u.set k x3, by simp; exact hul, hB4, step _ (by rw [h1, h2]; rfl)⟩ (by omega)
        ·
          refine c_skip ?_
          refine q_then ?_
          refine c_region ?_
          refine st (y_move rfl) rfl ?_
          refine st (y_move rfl) rfl ?_
          refine st (y_move rfl) rfl ?_
          refine st (y_indexarr rfl rfl Tryd.underlying34 sz4 (by omega)) rfl ?_
          refine st (y_loadb rfl one4 (by assumption) (by rfl)) rfl ?_
          first | refine st (y_index0 rfl rfl Tryd.underlying28 sz4 (by omega)) rfl ?_ | refine st (y_index rfl rfl Tryd.underlying28 sz4 (by omega)) rfl ?_ | refine st (y_indexA rfl rfl Tryd.underlying28 sz4 (by omega)) rfl ?_
          refine st_storeM vB rfl rfl rfl sz4 (by assumption) (by first | omega | (simp only [List.length_append, List.length_map, List.length_replicate, List.length_set, List.length_take, List.length_drop]; omega)) rfl ?_
          intro w4 hB4 hK4 hS4
          refine l_nil ?_
          refine q_block ?_
          refine q_then ?_
          refine c_region ?_
          first | refine st (y_add_in (b := 1) rfl rfl (by omega)) rfl ?_ | refine st (y_add_i (b := 1) rfl rfl (by omega) (by omega)) rfl ?_
          refine st (y_move rfl) rfl ?_
          refine l_nil ?_
          refine q_round (k + 1) ⟨rfl, rfl, rfl, rfl, rfl, rfl, trivial⟩ ⟨by omega, hK3.trans hK4 (fun i h => .inl h), u.set k x2, by simp; exact hul, hB4, step _ (by rw [h1, h2]; rfl)⟩ (by omega)
      ·
        refine c_skip ?_
        refine q_then ?_
        refine c_seq ?_
        refine c_seq ?_
        refine c_region ?_
        refine st (y_move rfl) rfl ?_
        refine st (y_move rfl) rfl ?_
        refine sc rfl rfl isfn24 (c_Has b2 t k _ hBt (by omega)) rfl ?_
        rintro _ _ ⟨rfl, rfl⟩
        refine l_nil ?_
        refine q_then ?_
        refine c_ifb rfl (fun h2 => ?_) (fun h2 => ?_)
        · refine c_region ?_
          refine st (y_move rfl) rfl ?_
          first | refine st (y_add_in (b := 1) rfl rfl (by omega)) rfl ?_ | refine st (y_add_i (b := 1) rfl rfl (by omega) (by omega)) rfl ?_
          refine st (y_assign rfl) rfl ?_
          refine l_nil ?_
          refine q_then ?_
          refine c_region ?_
          refine st (y_move rfl) rfl ?_
          refine st (y_move rfl) rfl ?_
          refine st (y_move rfl) rfl ?_
          refine st (y_indexarr rfl rfl Tryd.underlying34 sz4 (by omega)) rfl ?_
          refine st (y_loadb rfl one4 (by assumption) (by rfl)) rfl ?_
          first | refine st (y_index0 rfl rfl Tryd.underlying28 sz4 (by omega)) rfl ?_ | refine st (y_index rfl rfl Tryd.underlying28 sz4 (by omega)) rfl ?_ | refine st (y_indexA rfl rfl Tryd.underlying28 sz4 (by omega)) rfl ?_
          refine st_storeM vB rfl rfl rfl sz4 (by assumption) (by first | omega | (simp only [List.length_append, List.length_map, List.length_replicate, List.length_set, List.length_take, List.length_drop]; omega)) rfl ?_
          intro w4 hB4 hK4 hS4
          refine l_nil ?_
          refine q_block ?_
          refine q_then ?_
          refine c_region ?_
          first | refine st (y_add_in (b := 1) rfl rfl (by omega)) rfl ?_ | refine st (y_add_i (b := 1) rfl rfl (by omega) (by omega)) rfl ?_
          refine st (y_move rfl) rfl ?_
          refine l_nil ?_
          refine q_round (k + 1) ⟨rfl, rfl, rfl, rfl, rfl, rfl, trivial⟩ ⟨by omega, hK3.trans hK4 (fun i h => .inl h), u.set k x1, by simp; exact hul, hB4, step _ (by rw [h1, h2]; rfl)⟩ (by omega)
        ·
          refine c_skip ?_
          refine q_then ?_
          refine c_region ?_
          refine st (y_move rfl) rfl ?_
          refine st (y_move rfl) rfl ?_
          refine st (y_move rfl) rfl ?_
          refine st (y_indexarr rfl rfl Tryd.underlying34 sz4 (by omega)) rfl ?_
          refine st (y_loadb rfl one4 (by assumption) (by rfl)) rfl ?_
          first | refine st (y_index0 rfl rfl Tryd.underlying28 sz4 (by omega)) rfl ?_ | refine st (y_index rfl rfl Tryd.underlying28 sz4 (by omega)) rfl ?_ | refine st (y_indexA rfl rfl Tryd.underlying28 sz4 (by omega)) rfl ?_
          refine st_storeM vB rfl rfl rfl sz4 (by assumption) (by first | omega | (simp only [List.length_append, List.length_map, List.length_replicate, List.length_set, List.length_take, List.length_drop]; omega)) rfl ?_
          intro w4 hB4 hK4 hS4
          refine l_nil ?_
          refine q_block ?_
          refine q_then ?_
          refine c_region ?_
          first | refine st (y_add_in (b := 1) rfl rfl (by omega)) rfl ?_ | refine st (y_add_i (b := 1) rfl rfl (by omega) (by omega)) rfl ?_
          refine st (y_move rfl) rfl ?_
          refine l_nil ?_
          refine q_round (k + 1) ⟨rfl, rfl, rfl, rfl, rfl, rfl, trivial⟩ ⟨by omega, hK3.trans hK4 (fun i h => .inl h), u.set k x0, by simp; exact hul, hB4, step _ (by rw [h1, h2]; rfl)⟩ (by omega)
    ·
      have hkN : k = N := by omega
      subst hkN
      have e : u = joined (tabf [x0, x1, x2, x3]) s t := bool_ext (by rw [joined_length]; omega) fun j hj => hu j (by omega)
      subst e
      refine l_nil ?_
      refine q_then ?_
      refine c_seq ?_
      refine c_false rfl rfl ?_
      refine c_exit ?_
      refine q_then_exit ?_
      refine q_then_exit ?_
      refine q_block_hit ?_
      refine q_then ?_
      refine c_seq ?_
      refine c_region ?_
      refine st (y_move rfl) rfl ?_
      refine st (y_assign rfl) rfl ?_
      refine l_nil ?_
      refine q_then ?_
      refine c_ret ?_
      refine q_end1 (.inl rfl) rfl rfl ?_
      refine ⟨_, rfl, b7, rfl, hBu, by omega, hK12.trans hK3 ?_⟩
      intro i hi
      simp only [List.mem_singleton] at hi
      exact .inr (by omega)


/-- how many numbers there are once two sets are joined by a row of four -/
def cardT (i : Nat) (s t : List Bool) : Nat := count (joined (tabf (tabs.getD i [])) s t)
theorem cardT_le (i : Nat) (s t : List Bool) : cardT i s t ≤ max s.length t.length := by
  have := count_le (joined (tabf (tabs.getD i [])) s t)
  rwa [joined_length] at this
end Go.Proofs.YtefhjchhfpjciaaDoor

/- Sets made of words, and the words of a set: slices.Clone, From, told of nothing, and the thin package's; each by its contract. -/
import Derived.Test.YtepmbglaalkbdaaDoorT2
import Derived.Test.YtepmbglaalkbdaaDoorB2
import Derived.Test.YtepmbglaalkbdaaDoorK15
import Derived.Test.YtepmbglaalkbdaaDoorL23
set_option linter.unusedVariables false
set_option linter.unusedSimpArgs false
set_option maxRecDepth 100000
namespace Go.Proofs.YtepmbglaalkbdaaDoor
open Go Go.RowKit

theorem Rd.news {w : World} {ad : Addr} {n : Nat} {xs : List Nat} (h : Rd w (some ad) n xs) : ∀ j u', (xs.map vU)[j]? = some u' → w.cell? (ad.add j) = some u' := by
  intro j u hj
  have hl := h.1
  rw [List.getElem?_map] at hj
  cases hs : xs[j]? with
  | none => rw [hs] at hj; cases hj
  | some x =>
    rw [hs] at hj
    obtain ⟨hlt, hx⟩ := List.getElem?_eq_some_iff.1 hs
    obtain ⟨ad', e, _, hc⟩ := h.2.2 (by omega)
    cases e
    rw [hc j (by omega), List.getD_eq_getElem?_getD, hs]
    exact hj
theorem one_vU (xs : List Nat) : ∀ u ∈ xs.map vU, u.oneCell' = true := by
  intro u hu
  obtain ⟨b, _, rfl⟩ := List.mem_map.1 hu
  rfl

theorem c_Clone64 (A : Option Addr) (n c : Nat) (xs : List Nat) (hA : A = none → c = 0) (hn : n ≤ 100000) (w : World) (hR : Rd w A n xs) :
    Cal Tryd.prog 31 [.slice A n c] w fun v w' => Keep w w' [] ∧ ((n = 0 ∧ ∃ A' c', v = .slice A' 0 c') ∨ (0 < n ∧ ∃ b c', v = vS b n c' ∧ n ≤ c' ∧ c' ≤ 9223372036854775807 ∧ w.heap.size ≤ b ∧ Blk w' b 38 ((xs ++ List.replicate (c' - n) 0).map vU))) := by
  have hl := hR.1
  refine go_in' Tryd.func31 rfl Tryd.ntmps31 (Nat.le_of_ble_eq_true rfl) ?_
  rcases A with _ | ad
  · have hn0 : n = 0 := by
      rcases Nat.eq_zero_or_pos n with h | h
      · exact h
      · obtain ⟨_, e, _⟩ := hR.2.2 h; cases e
    refine c_seq ?_
    refine c_region ?_
    refine st (y_assign rfl) rfl ?_
    refine l_nil ?_
    refine q_then ?_
    refine c_seq ?_
    refine c_seq ?_
    refine c_region ?_
    refine st (y_move rfl) rfl ?_
    refine st (y_snil_eq rfl rfl Tryd.underlying34) rfl ?_
    refine l_nil ?_
    refine q_then ?_
    refine c_true rfl rfl ?_
    refine c_seq ?_
    refine c_region ?_
    refine st (y_assign rfl) rfl ?_
    refine l_nil ?_
    refine q_then ?_
    refine c_ret ?_
    refine q_then_ret ?_
    refine q_end1 (.inl rfl) rfl rfl ?_
    exact ⟨_, rfl, Keep.refl _ _, .inl ⟨hn0, none, 0, rfl⟩⟩
  ·
    refine c_seq ?_
    refine c_region ?_
    refine st (y_assign rfl) rfl ?_
    refine l_nil ?_
    refine q_then ?_
    refine c_seq ?_
    refine c_seq ?_
    refine c_region ?_
    refine st (y_move rfl) rfl ?_
    refine st (y_snil_eq rfl rfl Tryd.underlying34) rfl ?_
    refine l_nil ?_
    refine q_then ?_
    refine c_false rfl rfl ?_
    refine c_skip ?_
    refine q_then ?_
    refine c_seq ?_
    refine c_region ?_
    refine st_buildSlice0 Tryd.underlying34 sz38 rfl ?_
    intro b1 w1 hb1 hB1 hK1 hS1
    have hR1 := hR.keep hK1 (by simp)
    rcases Nat.eq_zero_or_pos n with h0 | h0
    · subst h0
      have hx0 : xs = [] := List.eq_nil_of_length_eq_zero hl
      subst hx0
      have hO : Ow w1 b1 38 (vS b1 0 0) ([] : List Value) := Ow.empty hB1 (Nat.le_refl _)
      refine st (y_move rfl) rfl ?_
      obtain ⟨i38, hi1, hi2, hi3, hi4⟩ := info_parts inf38
      refine st_appendB (news := []) rfl rfl Tryd.underlying34 hi1 hi2 hi3 (by omega) rfl (rfl) (fun j u' hj => by simp at hj) (fun u hu => by simp at hu) (by assumption) (by first | omega | (simp only [List.length_map, List.length_nil, List.length_append, List.length_cons, List.length_take, List.length_drop]; omega) | simp) (by omega) (by omega) rfl ?_
      clear hi1 hi2 hi3 hi4
      intro v2 w2 hO2 hK2
      obtain ⟨A2, c2, rfl⟩ := hO2.form
      refine st (y_assign rfl) rfl ?_
      refine l_nil ?_
      refine q_then ?_
      refine c_ret ?_
      refine q_end1 (.inl rfl) rfl rfl ?_
      exact ⟨_, rfl, hK1.trans hK2 (fun j hj => by simp only [List.mem_singleton] at hj; exact .inr (by omega)), .inl ⟨rfl, A2, c2, rfl⟩⟩
    ·
      refine st (y_move rfl) rfl ?_
      obtain ⟨i2, hi1, hi2, hi3, hi4⟩ := info_parts inf38
      refine st_appendE (news := xs.map vU) rfl rfl Tryd.underlying34 hi1 hi2 hi3 (by omega) rfl (by simpa using hl) hR1.news h0 (by omega) rfl ?_
      clear hi1 hi2 hi3 hi4
      intro c' w2 hc1 hc2 hB2 hK2 hS2
      refine st (y_assign rfl) rfl ?_
      refine l_nil ?_
      refine q_then ?_
      refine c_ret ?_
      refine q_end1 (.inl rfl) rfl rfl ?_
      refine ⟨_, rfl, hK1.trans hK2 (by simp), .inr ⟨h0, _, c', rfl, hc1, by unfold maxLen at hc2; omega, by omega, ?_⟩⟩
      rw [List.map_append, List.map_replicate]
      exact hB2

theorem c_FWL (L : Nat) (A : Option Addr) (n c : Nat) (hL : L ≤ 100000) (hn : nW L ≤ n) (w : World) :
    Cal Tryd.prog 44 [vU L, .slice A n c] w fun v w' => ∃ p, v = vP p ∧ p = w.heap.size ∧ Blk w' p 70 [vU L, .slice A n c] ∧ Keep w w' [] := by
  refine go_in' Tryd.func44 rfl Tryd.ntmps44 (Nat.le_of_ble_eq_true rfl) ?_
  refine c_seq ?_
  refine c_region ?_
  refine st (y_assign rfl) rfl ?_
  refine l_nil ?_
  refine q_then ?_
  refine c_seq ?_
  refine c_seq ?_
  refine c_region ?_
  refine st (y_move rfl) rfl ?_
  refine st (y_len rfl Tryd.underlying34) rfl ?_
  refine st (y_move rfl) rfl ?_
  refine sc rfl rfl isfn50 (c_wordsNeeded L (by omega) _) rfl ?_
  rintro _ _ ⟨rfl, rfl⟩
  refine st_f (y_lt_i rfl rfl) (by omega) rfl ?_
  refine l_nil ?_
  refine q_then ?_
  refine c_false rfl rfl ?_
  refine c_skip ?_
  refine q_then ?_
  refine c_seq ?_
  refine c_region ?_
  refine st (y_move rfl) rfl ?_
  refine st (y_move rfl) rfl ?_
  refine st (bld70_0_1 rfl rfl) rfl ?_
  refine st_box _ rfl rfl rfl ?_
  intro p w3 hp hB3 hK3 hS3
  refine st (y_assign rfl) rfl ?_
  refine l_nil ?_
  refine q_then ?_
  refine c_ret ?_
  refine q_end1 (.inl rfl) rfl rfl ?_
  exact ⟨_, rfl, p, rfl, hp.symm, hB3, hK3⟩

theorem c_From (A : Option Addr) (n c : Nat) (hn : n ≤ 1000) (w : World) :
    Cal Tryd.prog 30 [.slice A n c] w fun v w' => ∃ p, v = vP p ∧ p = w.heap.size ∧ Blk w' p 70 [vU (n * 64), .slice A n c] ∧ Keep w w' [] := by
  refine go_in' Tryd.func30 rfl Tryd.ntmps30 (Nat.le_of_ble_eq_true rfl) ?_
  refine c_seq ?_
  refine c_region ?_
  refine st (y_assign rfl) rfl ?_
  refine l_nil ?_
  refine q_then ?_
  refine c_seq ?_
  refine c_region ?_
  refine st (y_move rfl) rfl ?_
  refine st (y_len rfl Tryd.underlying34) rfl ?_
  refine st (y_conv_iu rfl us3 Tryd.underlying22 rfl (by omega)) rfl ?_
  refine st (y_mul_u (b := 64) rfl rfl (by omega)) rfl ?_
  refine st (y_move rfl) rfl ?_
  refine sc rfl rfl isfn44 (c_FWL (n * 64) A n c (by omega) (by unfold nW; omega) _) rfl ?_
  rintro _ w1 ⟨p, rfl, hp, hB, hK⟩
  refine st (y_assign rfl) rfl ?_
  refine l_nil ?_
  refine q_then ?_
  refine c_ret ?_
  refine q_end1 (.inl rfl) rfl rfl ?_
  exact ⟨_, rfl, p, rfl, hp, hB, hK⟩

theorem c_Len0 (p : Nat) (A : Option Addr) (c : Nat) (w : World) (hst : Blk w p 70 [vU 0, .slice A 0 c]) : Cal Tryd.prog 42 [vP p] w fun v w' => v = vU 0 ∧ w = w' := by
  refine go_in' Tryd.func42 rfl Tryd.ntmps42 (Nat.le_of_ble_eq_true rfl) ?_
  refine c_seq ?_
  refine c_region ?_
  refine st (y_assign (v := vU 0) rfl) rfl ?_
  refine l_nil ?_
  refine q_then ?_
  refine c_seq ?_
  refine c_region ?_
  refine st (y_move rfl) rfl ?_
  refine st (y_nil rfl) rfl ?_
  refine st (fa70_0 rfl) rfl ?_
  refine st (y_loadb rfl one22 (by assumption) (by rfl)) rfl ?_
  refine st (y_assign rfl) rfl ?_
  refine l_nil ?_
  refine q_then ?_
  refine c_ret ?_
  refine q_end1 (.inl rfl) rfl rfl ?_
  exact ⟨_, rfl, rfl, rfl⟩

theorem c_NextSet0 (p : Nat) (A : Option Addr) (c : Nat) (w : World) (hst : Blk w p 70 [vU 0, .slice A 0 c]) :
    Cal Tryd.prog 43 [vP p, vU 0] w fun v w' => v = vT [vU 0, vB false] ∧ w = w' := by
  refine go_in' Tryd.func43 rfl Tryd.ntmps43 (Nat.le_of_ble_eq_true rfl) ?_
  refine c_seq ?_
  refine c_region ?_
  refine st (y_assign (v := vU 0) rfl) rfl ?_
  refine st (y_assign rfl) rfl ?_
  refine l_nil ?_
  refine q_then ?_
  refine c_seq ?_
  refine c_region ?_
  refine st (y_move rfl) rfl ?_
  refine st (y_shr (k := 6) rfl rfl (by first | omega | assumption | (repeat (first | assumption | omega | decide | exact shl_lt64 _ _ | apply and_lt64 | apply or_lt64 | apply xor_lt64 | apply nt_lt | apply shr_lt64 | apply getD_lt64)))) rfl ?_
  rw [show (0 : Nat) >>> 6 = 0 from rfl]
  refine st (y_conv_ui rfl us22 Tryd.underlying3 (by omega)) rfl ?_
  refine st (y_assign rfl) rfl ?_
  refine l_nil ?_
  refine q_then ?_
  refine c_seq ?_
  refine c_seq ?_
  refine c_region ?_
  refine st (y_move rfl) rfl ?_
  refine st (y_move rfl) rfl ?_
  refine st (y_nil rfl) rfl ?_
  refine st (fa70_1 rfl) rfl ?_
  refine st (y_loadb rfl one34 (by assumption) (by rfl)) rfl ?_
  refine st (y_len rfl Tryd.underlying34) rfl ?_
  refine st_t (y_ge_i rfl rfl) (by omega) rfl ?_
  refine l_nil ?_
  refine q_then ?_
  refine c_true rfl rfl ?_
  refine c_seq ?_
  refine c_region ?_
  refine st (y_assign (v := vU 0) rfl) rfl ?_
  refine st (y_assign rfl) rfl ?_
  refine l_nil ?_
  refine q_then ?_
  refine c_ret ?_
  refine q_then_ret ?_
  refine q_end2 (.inl rfl) rfl rfl rfl ?_
  exact ⟨_, rfl, rfl, rfl⟩

theorem c_told0 (p : Nat) (A : Option Addr) (c : Nat) (w : World) (hst : Blk w p 70 [vU 0, .slice A 0 c]) :
    Cal Tryd.prog 28 [vP p] w fun v w' => v = aB 0 none 0 0 ∧ Keep w w' [] := by
  have hp0 := hst.lt
  refine go_in' Tryd.func28 rfl Tryd.ntmps28 (Nat.le_of_ble_eq_true rfl) ?_
  refine c_seq ?_
  refine c_region ?_
  refine st_alloc [.int .u64 0, .slice none 0 0] zv25 rfl rfl ?_
  intro b2 w1 hb2 hB2 hK1 hS1
  have hst := hst.keep hK1 (by simp only [List.mem_cons, List.not_mem_nil, or_false, not_or, not_false_eq_true] <;> omega)
  refine l_nil ?_
  refine q_then ?_
  refine c_seq ?_
  refine c_region ?_
  refine st (y_move rfl) rfl ?_
  refine sc rfl rfl isfn42 (c_Len0 p A c _ hst) rfl ?_
  rintro _ _ ⟨rfl, rfl⟩
  refine st (bld25_0 rfl) rfl ?_
  refine st_alloc [.int .u64 0, .slice none 0 0] zv25 rfl rfl ?_
  intro b3 w2 hb3 hB3 hK2 hS2
  have hst := hst.keep hK2 (by simp only [List.mem_cons, List.not_mem_nil, or_false, not_or, not_false_eq_true] <;> omega)
  have hB2 := hB2.keep hK2 (by simp only [List.mem_cons, List.not_mem_nil, or_false, not_or, not_false_eq_true] <;> omega)
  refine st_storeagg rfl rfl (by simp [Value.oneCell']) sz25 rfl (by assumption) (by simp) rfl ?_
  intro w3 hB3' hK3 hS3
  have hst3 := hst.keep hK3 (by simp only [List.mem_singleton]; omega)
  have hB2 := hB2.keep hK3 (by simp only [List.mem_cons, List.not_mem_nil, or_false, not_or, not_false_eq_true] <;> omega)
  have hK13 := (hK1.trans hK2 (by simp)).trans hK3 (fun i hi => by simp only [List.mem_singleton] at hi; exact .inr (by omega))
  clear hB3
  have hB33 : Blk w3 b3 25 [vU 0, .slice none 0 0] := hB3'
  clear hB3'
  refine l_nil ?_
  refine q_then ?_
  refine c_seq ?_
  refine c_seq ?_
  refine c_region ?_
  refine st (y_move rfl) rfl ?_
  refine sc rfl rfl isfn43 (c_NextSet0 p A c _ hst3) rfl ?_
  rintro _ _ ⟨rfl, rfl⟩
  refine st (y_move rfl) rfl ?_
  refine st (y_extract rfl rfl) rfl ?_
  refine st (y_extract rfl rfl) rfl ?_
  refine st (y_assign rfl) rfl ?_
  refine st (y_assign rfl) rfl ?_
  refine l_nil ?_
  refine q_then ?_
  refine c_block ?_
  refine c_loop (fun _ : Unit => [(0, vP p), (2, vP b2), (3, vP b3), (4, vU 0), (5, vB false)]) (fun _ w' => w3 = w') (fun _ => 0) () ?_ ?_ ?_
  · exact ⟨rfl, rfl, rfl, rfl, rfl, trivial⟩
  · exact rfl
  · rintro _ w4 rfl
    refine c_seq ?_
    refine c_seq ?_
    refine c_region ?_
    refine st (y_move rfl) rfl ?_
    refine l_nil ?_
    refine q_then ?_
    refine c_false rfl rfl ?_
    refine c_exit ?_
    refine q_then_exit ?_
    refine q_then_exit ?_
    refine q_block_hit ?_
    refine q_then ?_
    refine c_seq ?_
    refine c_region ?_
    refine st (y_loadagg rfl agg25 us25 sz25 (by assumption) (by simp) (by rfl)) rfl ?_
    refine st_storeagg rfl rfl (by simp [Value.oneCell']) sz25 rfl (by assumption) (by simp) rfl ?_
    intro w8 hB8 hK8 hS8
    refine l_nil ?_
    refine q_then ?_
    refine c_ret ?_
    refine q_endc (.inl rfl) rfl rfl agg25 us25 sz25 (by assumption) (by rfl) ?_
    exact ⟨_, rfl, rfl, hK13.trans hK8 (fun i hi => by simp only [List.mem_singleton] at hi; exact .inr (by omega))⟩

theorem c_implFromWords (A : Option Addr) (n c : Nat) (xs : List Nat) (hA : A = none → c = 0) (hn : n ≤ 50) (hx : ∀ x ∈ xs, x < 18446744073709551616) (w : World) (hT : Tb w) (hR : Rd w A n xs) :
    Cal Tryd.prog 14 [.slice A n c] w fun v w' => ∃ A' c', v = aB (ofW xs).length A' (nums (ofW xs)).length c' ∧ Ow w' w.heap.size 22 (.slice A' (nums (ofW xs)).length c') ((nums (ofW xs)).map vU) ∧ Keep w w' [] := by
  have hl := hR.1
  have hT0 := hT.1
  have hol := ofW_length xs
  have hpo := pack_ofW hx
  refine go_in' Tryd.func14 rfl Tryd.ntmps14 (Nat.le_of_ble_eq_true rfl) ?_
  refine c_seq ?_
  refine c_region ?_
  refine st_alloc [.int .u64 0, .slice none 0 0] zv25 rfl rfl ?_
  intro b2 w1 hb2 hB2 hK1 hS1
  refine l_nil ?_
  refine q_then ?_
  refine c_seq ?_
  refine c_seq ?_
  refine c_region ?_
  refine st (y_move rfl) rfl ?_
  refine st (y_len rfl Tryd.underlying34) rfl ?_
  refine st_f (y_gt_i (b := 93) rfl rfl) (by omega) rfl ?_
  refine l_nil ?_
  refine q_then ?_
  refine c_false rfl rfl ?_
  refine c_skip ?_
  refine q_then ?_
  refine c_seq ?_
  refine c_region ?_
  refine st (y_move rfl) rfl ?_
  refine sc rfl rfl isfn31 (c_Clone64 A n c xs hA (by omega) _ (hR.keep hK1 (by simp))) rfl ?_
  rintro v3 w3 ⟨hK3, hcl⟩
  have hB2 := hB2.keep hK3 (by simp only [List.mem_cons, List.not_mem_nil, or_false, not_or, not_false_eq_true] <;> omega)
  have hK13 := hK1.trans hK3 (by simp)
  have hsz3 := hK3.size
  rcases hcl with ⟨hn0, A', c', rfl⟩ | ⟨hn0, b, c', rfl, hc1, hc2, hb, hBb⟩
  · have hx0 : xs = [] := List.eq_nil_of_length_eq_zero (by omega)
    refine sc rfl rfl isfn30 (c_From A' 0 c' (by omega) _) rfl ?_
    rintro _ w4 ⟨p, rfl, hp, hB4, hK4⟩
    have hB2 := hB2.keep hK4 (by simp only [List.mem_cons, List.not_mem_nil, or_false, not_or, not_false_eq_true] <;> omega)
    have hK14 := hK13.trans hK4 (by simp)
    rw [Nat.zero_mul] at hB4
    refine sc rfl rfl isfn28 (c_told0 p A' c' _ hB4) rfl ?_
    rintro _ w5 ⟨rfl, hK5⟩
    have hB2 := hB2.keep hK5 (by simp only [List.mem_cons, List.not_mem_nil, or_false, not_or, not_false_eq_true] <;> omega)
    have hK15 := hK14.trans hK5 (by simp)
    refine st_storeagg rfl rfl (by simp [Value.oneCell']) sz25 rfl (by assumption) (by simp) rfl ?_
    intro w6 hB6 hK6 hS6
    refine l_nil ?_
    refine q_then ?_
    refine c_ret ?_
    refine q_endc (.inl rfl) rfl rfl agg25 us25 sz25 (by assumption) (by rfl) ?_
    subst hx0
    exact ⟨_, rfl, none, 0, rfl, Ow.nil _ _ _, hK15.trans hK6 (fun i hi => by simp only [List.mem_singleton] at hi; exact .inr (by omega))⟩
  ·
    refine sc rfl rfl isfn30 (c_From (some ⟨b, 0, none⟩) n c' (by omega) _) rfl ?_
    rintro _ w4 ⟨p, rfl, hp, hB4, hK4⟩
    have hB2 := hB2.keep hK4 (by simp only [List.mem_cons, List.not_mem_nil, or_false, not_or, not_false_eq_true] <;> omega)
    have hBb := hBb.keep hK4 (by simp only [List.mem_cons, List.not_mem_nil, or_false, not_or, not_false_eq_true] <;> omega)
    have hK14 := hK13.trans hK4 (by simp)
    have hbl := hBb.lt
    have hsz4 := hK4.size
    have hS : BSet w4 p b (ofW xs) := by
      refine ⟨List.replicate (c' - n) 0, ?_, ?_, ?_, ?_, ?_⟩
      · rw [hpo, hol, hl, List.length_replicate, show n + (c' - n) = c' by omega, Nat.mul_comm 64 n]; exact hB4
      · rw [hpo]; exact hBb
      · intro e
        have h1 := hBb.lt
        rw [hp] at e
        have h2 : b < w3.heap.size := by
          have := Blk.lt (by assumption : Blk w3 b 38 ((xs ++ List.replicate (c' - n) 0).map vU))
          exact this
        omega
      · rw [hpo]; exact hx
      · rw [hpo, hl, List.length_replicate]; omega
    refine sc rfl rfl isfn28 (c_told p b _ _ (hT.keep hK14 (by simp)) hS (by omega)) rfl ?_
    rintro _ w5 ⟨A5, c5, rfl, hO5, hK5⟩
    have hB2 := hB2.keep hK5 (by simp only [List.mem_cons, List.not_mem_nil, or_false, not_or, not_false_eq_true] <;> omega)
    have hK15 := hK14.trans hK5 (by simp)
    have hsz1 := hK14.size
    refine st_storeagg rfl rfl (by simp [Value.oneCell']) sz25 rfl (by assumption) (by simp) rfl ?_
    intro w6 hB6 hK6 hS6
    refine l_nil ?_
    refine q_then ?_
    refine c_ret ?_
    refine q_endc (.inl rfl) rfl rfl agg25 us25 sz25 (by assumption) (by rfl) ?_
    exact ⟨_, rfl, A5, c5, rfl, (hO5.keep hK6 (fun i hi => by simp only [List.mem_singleton] at hi; left; omega)).base (by omega), hK15.trans hK6 (fun i hi => by simp only [List.mem_singleton] at hi; exact .inr (by omega))⟩

theorem c_Words (p q : Nat) (s : List Bool) (w : World) (hB : BSet w p q s) : Cal Tryd.prog 32 [vP p] w fun v w' => (∃ c, v = vS q (pack s).length c) ∧ w = w' := by
  obtain ⟨tl, hB⟩ := hB
  have hst := hB.st
  refine go_in' Tryd.func32 rfl Tryd.ntmps32 (Nat.le_of_ble_eq_true rfl) ?_
  refine c_seq ?_
  refine c_region ?_
  refine st (y_assign rfl) rfl ?_
  refine l_nil ?_
  refine q_then ?_
  refine c_seq ?_
  refine c_region ?_
  refine st (y_move rfl) rfl ?_
  refine st (y_nil rfl) rfl ?_
  refine st (fa70_1 rfl) rfl ?_
  refine st (y_loadb rfl one34 (by assumption) (by rfl)) rfl ?_
  refine st (y_assign rfl) rfl ?_
  refine l_nil ?_
  refine q_then ?_
  refine c_ret ?_
  refine q_end1 (.inl rfl) rfl rfl ?_
  exact ⟨_, rfl, ⟨_, rfl⟩, rfl⟩

theorem c_implWords (L : Nat) (A : Option Addr) (n c : Nat) (xs : List Nat) (w : World) (hR : Rd w A n xs) (hL : L ≤ 6000) (hx : ∀ x ∈ xs, x ≤ 6000) :
    Cal Tryd.prog 15 [aB L A n c] w fun v w' => ∃ A' c', v = .slice A' (pack (mkS L xs)).length c' ∧ Rd w' A' (pack (mkS L xs)).length (pack (mkS L xs)) ∧ Keep w w' [] := by
  have hlen : (mkS L xs).length ≤ 6001 := mkS_length_le L 6001 xs (by omega) fun x h => by have := hx x h; omega
  refine go_in' Tryd.func15 rfl Tryd.ntmps15 (Nat.le_of_ble_eq_true rfl) ?_
  refine c_seq ?_
  refine c_region ?_
  refine st_box _ rfl rfl rfl ?_
  intro b1 w1 hb1 hB1 hK1 hS1
  refine st (y_assign rfl) rfl ?_
  refine l_nil ?_
  refine q_then ?_
  refine c_seq ?_
  refine c_region ?_
  refine st (y_loadagg rfl agg25 us25 sz25 (by assumption) (by simp) (by rfl)) rfl ?_
  refine sc rfl rfl isfn27 (c_made L A n c xs _ (hR.keep hK1 (by simp)) hL hx) rfl ?_
  rintro _ w3 ⟨p, q, rfl, hp, hq, hS, hK3⟩
  have hK13 := hK1.trans hK3 (by simp)
  obtain ⟨s, hs⟩ : ∃ s, mkS L xs = s := ⟨_, rfl⟩
  rw [hs] at hS hlen ⊢
  have hpl := pack_length s
  have hnn : nW s.length ≤ 2000 := by unfold nW; omega
  obtain ⟨tl, hBW⟩ := id hS
  have hRd := hBW.rd
  refine st (y_move rfl) rfl ?_
  refine st (y_extract rfl rfl) rfl ?_
  refine st (y_extract rfl rfl) rfl ?_
  refine st (y_assign rfl) rfl ?_
  refine st (y_assign rfl) rfl ?_
  refine l_nil ?_
  refine q_then ?_
  refine c_seq ?_
  refine c_seq ?_
  refine c_region ?_
  refine st (y_move rfl) rfl ?_
  refine st (y_not rfl) rfl ?_
  refine l_nil ?_
  refine q_then ?_
  refine c_false rfl rfl ?_
  refine c_skip ?_
  refine q_then ?_
  refine c_seq ?_
  refine c_region ?_
  refine st (y_move rfl) rfl ?_
  refine sc rfl rfl isfn32 (c_Words p q s _ hS) rfl ?_
  rintro _ _ ⟨⟨c4, rfl⟩, rfl⟩
  refine sc rfl rfl isfn31 (c_Clone64 (some ⟨q, 0, none⟩) _ c4 (pack s) (fun h => by cases h) (by omega) _ hRd) rfl ?_
  rintro v5 w5 ⟨hK5, hcl⟩
  have hK15 := hK13.trans hK5 (by simp)
  rcases hcl with ⟨hn0, A', c', rfl⟩ | ⟨hn0, b, c', rfl, hc1, hc2, hb, hBb⟩
  · refine st (y_assign rfl) rfl ?_
    refine l_nil ?_
    refine q_then ?_
    refine c_ret ?_
    refine q_end1 (.inl rfl) rfl rfl ?_
    refine ⟨_, rfl, A', c', by rw [hn0], ⟨rfl, by omega, fun h => by omega⟩, hK15⟩
  ·
    refine st (y_assign rfl) rfl ?_
    refine l_nil ?_
    refine q_then ?_
    refine c_ret ?_
    refine q_end1 (.inl rfl) rfl rfl ?_
    refine ⟨_, rfl, some ⟨b, 0, none⟩, c', rfl, ?_, hK15⟩
    have h := Rd.of_row hBb (o := 0) (m := (pack s).length) (by simp) (by omega)
    rw [List.drop_zero, List.take_left' rfl] at h
    exact h

theorem c_Of (A : Option Addr) (n c : Nat) (xs : List Nat) (hn : n ≤ 1000) (hx : ∀ x ∈ xs, x < 18446744073709551616) (w : World) (hR : Rd w A n xs) :
    Cal Tryd.prog 16 [.slice A n c] w fun v w' => ∃ b, v = vS b (ofW xs).length (ofW xs).length ∧ Bl w' b (ofW xs) ∧ w.heap.size ≤ b ∧ Keep w w' [] := by
  have hl := hR.1
  have hol := ofW_length xs
  obtain ⟨N, hN⟩ : ∃ N, 64 * n = N := ⟨_, rfl⟩
  have hN2 : N ≤ 64000 := by omega
  refine go_in' Tryd.func16 rfl Tryd.ntmps16 (Nat.le_of_ble_eq_true rfl) ?_
  refine c_seq ?_
  refine c_region ?_
  refine st (y_assign rfl) rfl ?_
  refine l_nil ?_
  refine q_then ?_
  refine c_seq ?_
  refine c_region ?_
  refine st (y_move rfl) rfl ?_
  refine st (y_len rfl Tryd.underlying34) rfl ?_
  first | refine st (y_mul_in (a := 64) rfl rfl (by omega)) rfl ?_ | refine st (y_mul_i (a := 64) rfl rfl (by omega) (by omega)) rfl ?_
  rw [hN]
  refine mk28 rfl rfl (by omega) (by omega) rfl ?_
  intro b1 w1 hb1 hB1 hK1 hS1
  have hR1 := hR.keep hK1 (by simp)
  refine st (y_assign rfl) rfl ?_
  refine l_nil ?_
  refine q_then ?_
  refine c_seq ?_
  refine c_seq ?_
  refine c_region ?_
  refine st (y_move rfl) rfl ?_
  refine st (y_len rfl Tryd.underlying28) rfl ?_
  refine st (y_move (v := vI ((0 : Nat) : Int)) rfl) rfl ?_
  refine l_nil ?_
  refine q_then ?_
  refine c_block ?_
  refine c_loop (fun k : Nat => [(0, .slice A n c), (3, vS b1 N N), (10, vI (N : Nat)), (11, vI (k : Nat))]) (fun k w' => k ≤ N ∧ Blk w' b1 4 ((tab N fun i => decide (i < k) && wbit xs i).map vB) ∧ Keep w1 w' [b1]) (fun k => N - k) 0 ?_ ?_ ?_
  · exact ⟨rfl, rfl, rfl, rfl, trivial⟩
  · refine ⟨Nat.zero_le _, ?_, Keep.refl _ _⟩
    have e : (tab N fun i => decide (i < 0) && wbit xs i) = List.replicate N false := by
      apply bool_ext (by rw [tab_length, List.length_replicate])
      intro i _
      rw [tab_getD, replicate_getD]; simp
    rw [e]; exact hB1
  · rintro k w2 ⟨hk, hBk, hKk⟩
    have hK2 : Keep w w2 [] := hK1.trans hKk (fun i hi => by simp only [List.mem_singleton] at hi; exact .inr (by omega))
    have hR2 := hR.keep hK2 (by simp)
    have htl := tab_length N (fun i => decide (i < k) && wbit xs i)
    refine c_seq ?_
    refine c_region ?_
    refine st_if (y_lt_i rfl rfl) rfl (fun hlt => ?_) (fun hlt => ?_)
    · have hkN : k < N := by omega
      obtain ⟨ad, rfl, had, hcell⟩ := hR2.2.2 (by omega)
      have hc := hcell (k / 64) (by omega)
      have hxk := getD_lt64 hx (k / 64)
      have hob := ofW_bit xs k
      refine l_nil ?_
      refine q_then ?_
      refine c_seq ?_
      refine c_true rfl rfl ?_
      refine c_skip ?_
      refine q_then ?_
      refine c_seq ?_
      refine c_block ?_
      refine c_seq ?_
      refine c_region ?_
      refine st (y_move rfl) rfl ?_
      refine st (y_assign rfl) rfl ?_
      refine l_nil ?_
      refine q_then ?_
      refine c_region ?_
      refine st (y_move rfl) rfl ?_
      refine st (y_move rfl) rfl ?_
      refine st (y_move rfl) rfl ?_
      refine st (y_move rfl) rfl ?_
      refine st (y_quo_i (b := 64) rfl rfl (by omega) (by omega)) rfl ?_
      first | refine st (y_index0 rfl rfl Tryd.underlying34 sz38 (by omega)) rfl ?_ | refine st (y_index rfl rfl Tryd.underlying34 sz38 (by omega)) rfl ?_ | refine st (y_indexA rfl rfl Tryd.underlying34 sz38 (by omega)) rfl ?_
      refine st (y_load rfl one38 (by assumption)) rfl ?_
      refine st (y_move rfl) rfl ?_
      refine st (y_rem_i (b := 64) rfl rfl (by omega)) rfl ?_
      refine st (y_shr rfl rfl (by first | omega | assumption | (repeat (first | assumption | omega | decide | exact shl_lt64 _ _ | apply and_lt64 | apply or_lt64 | apply xor_lt64 | apply nt_lt | apply shr_lt64 | apply getD_lt64)))) rfl ?_
      refine st (y_and (b := 1) rfl rfl (by first | omega | assumption | (repeat (first | assumption | omega | decide | exact shl_lt64 _ _ | apply and_lt64 | apply or_lt64 | apply xor_lt64 | apply nt_lt | apply shr_lt64 | apply getD_lt64))) (by first | omega | assumption | (repeat (first | assumption | omega | decide | exact shl_lt64 _ _ | apply and_lt64 | apply or_lt64 | apply xor_lt64 | apply nt_lt | apply shr_lt64 | apply getD_lt64)))) rfl ?_
      refine st (y_eq_u (b := 1) rfl rfl) rfl ?_
      rw [hob]
      first | refine st (y_index0 rfl rfl Tryd.underlying28 sz4 (by omega)) rfl ?_ | refine st (y_index rfl rfl Tryd.underlying28 sz4 (by omega)) rfl ?_ | refine st (y_indexA rfl rfl Tryd.underlying28 sz4 (by omega)) rfl ?_
      refine st_storeM vB rfl rfl rfl sz4 (by assumption) (by first | omega | (simp only [List.length_append, List.length_map, List.length_replicate, List.length_set, List.length_take, List.length_drop]; omega)) rfl ?_
      intro w3 hB3 hK3 hS3
      refine l_nil ?_
      refine q_block ?_
      refine q_then ?_
      refine c_region ?_
      first | refine st (y_add_in (b := 1) rfl rfl (by omega)) rfl ?_ | refine st (y_add_i (b := 1) rfl rfl (by omega) (by omega)) rfl ?_
      refine st (y_move rfl) rfl ?_
      refine l_nil ?_
      refine q_round (k + 1) ⟨rfl, rfl, rfl, rfl, trivial⟩ ⟨by omega, ?_, hKk.trans hK3 (fun i h => .inl h)⟩ (by omega)
      have e : (tab N fun i => decide (i < k) && wbit xs i).set k (wbit xs k) = tab N fun i => decide (i < k + 1) && wbit xs i := by
        apply bool_ext (by simp [tab_length])
        intro i hi
        rw [set_getD _ _ _ _ (by omega), tab_getD, tab_getD]
        by_cases h : i = k
        · subst h; simp [hkN]
        · rw [if_neg h]
          have : decide (i < k) = decide (i < k + 1) := decide_eq_decide.2 (by omega)
          rw [this]
      rw [e] at hB3
      exact hB3
    ·
      have hkn : k = N := by omega
      subst hkn
      refine l_nil ?_
      refine q_then ?_
      refine c_seq ?_
      refine c_false rfl rfl ?_
      refine c_exit ?_
      refine q_then_exit ?_
      refine q_then_exit ?_
      refine q_block_hit ?_
      refine q_then ?_
      refine c_seq ?_
      refine c_region ?_
      refine st (y_move rfl) rfl ?_
      refine st (y_assign rfl) rfl ?_
      refine l_nil ?_
      refine q_then ?_
      refine c_ret ?_
      refine q_end1 (.inl rfl) rfl rfl ?_
      have e : (tab k fun i => decide (i < k) && wbit xs i) = ofW xs := by
        apply bool_ext (by rw [tab_length, hol]; omega)
        intro i hi
        rw [tab_length] at hi
        rw [tab_getD, ofW_getD]; simp [hi]
      rw [e] at hBk
      have hkl : k = (ofW xs).length := by rw [hol]; omega
      exact ⟨_, rfl, b1, by rw [← hkl], hBk, by omega, hK2⟩

end Go.Proofs.YtepmbglaalkbdaaDoor

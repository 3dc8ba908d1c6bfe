/- Numbers of the thin package by its three roads; by its contract. -/
import Derived.Test.YtbahhdeblppooaaDoorQ6
import Derived.Test.YtbahhdeblppooaaDoorC3
import Derived.Test.YtbahhdeblppooaaDoorA3
set_option linter.unusedVariables false
set_option linter.unusedSimpArgs false
set_option maxRecDepth 100000
set_option maxHeartbeats 2000000
namespace Go.Proofs.YtbahhdeblppooaaDoor
open Go Go.RowKit

theorem c_implNumbers (op L : Nat) (A : Option Addr) (n c : Nat) (xs : List Nat) (w : World) (hop : op ≤ 2) (hT : Tb w) (hR : Rd w A n xs) (hL : L ≤ 6000) (hx : ∀ x ∈ xs, x ≤ 6000) :
    Cal Tryd.prog 18 [vI (op : Nat), aB L A n c] w fun v w' => ∃ A' c', v = .slice A' (nums (mkS L xs)).length c' ∧ Rd w' A' (nums (mkS L xs)).length (nums (mkS L xs)) ∧ Keep w w' [] := by
  have hlen : (mkS L xs).length ≤ 6001 := mkS_length_le L 6001 xs (by omega) fun x h => by have := hx x h; omega
  have hT0 := hT.1
  refine go_inM Tryd.func18 rfl Tryd.ntmps18 (Nat.le_of_ble_eq_true rfl) ?_
  refine c_seq ?_
  refine c_region ?_
  refine st_box _ rfl rfl rfl ?_
  intro b1 w1 hb1 hB1 hK1 hS1
  refine st (y_assign rfl) rfl ?_
  refine l_nil ?_
  refine q_then ?_
  refine c_seq ?_
  refine c_region ?_
  refine st (y_loadagg rfl agg25 us25 sz25 (by assumption) (by simp) (by rfl)) rfl ?_
  refine sc rfl rfl isfn22 (c_made L A n c xs _ (hR.keep hK1 (by simp)) hL hx) rfl ?_
  rintro _ w3 ⟨p, q, rfl, hp, hq, hS, hK3⟩
  have hK13 := hK1.trans hK3 (by simp)
  obtain ⟨s, hs⟩ : ∃ s, mkS L xs = s := ⟨_, rfl⟩
  rw [hs] at hS hlen ⊢
  have hcl := count_le s
  have hnl := nums_length s
  have hlts := hS.lts
  refine st (y_move rfl) rfl ?_
  refine st (y_extract rfl rfl) rfl ?_
  refine st (y_extract rfl rfl) rfl ?_
  refine st (y_assign rfl) rfl ?_
  refine st (y_assign rfl) rfl ?_
  refine l_nil ?_
  refine q_then ?_
  refine c_seq ?_
  refine c_seq ?_
  refine c_region ?_
  refine st (y_move rfl) rfl ?_
  refine st (y_not rfl) rfl ?_
  refine l_nil ?_
  refine q_then ?_
  refine c_false rfl rfl ?_
  refine c_skip ?_
  refine q_then ?_
  refine c_seq ?_
  refine c_region ?_
  refine st_alloc [.slice none 0 0] zv23 rfl rfl ?_
  intro b7 w7 hb7 hB7 hK7 hS7
  have hS7' := hS.keep hK7 (by simp) (by simp)
  have hK17 := hK13.trans hK7 (by simp)
  have hT7 := hT.keep hK17 (by simp)
  have hsz7 := hK13.size
  refine l_nil ?_
  refine q_then ?_
  refine c_seq ?_
  refine c_seq ?_
  refine c_region ?_
  refine st (y_move rfl) rfl ?_
  refine l_nil ?_
  refine q_then ?_
  refine c_block ?_
  refine c_seq ?_
  refine c_region ?_
  rcases (by omega : op = 0 ∨ op = 1 ∨ op = 2) with rfl | rfl | rfl
  · refine st_t (y_eq_i (b := 0) rfl rfl) (by omega) rfl ?_
    refine st (y_assign rfl) rfl ?_
    refine l_nil ?_
    refine q_then ?_
    refine c_true rfl rfl ?_
    refine c_region ?_
    refine st (y_move rfl) rfl ?_
    refine st (y_move rfl) rfl ?_
    refine sc rfl rfl isfn32 (c_Count p q s _ hS7' (by omega)) rfl ?_
    rintro _ _ ⟨rfl, rfl⟩
    refine mk23 rfl rfl (by omega) (by omega) rfl ?_
    intro b8 w8 hb8 hB8 hK8 hS8
    have hS8' := hS7'.keep hK8 (by simp) (by simp)
    have hRoom : Room w8 b8 (count s) [] := ⟨Nat.zero_le _, by simpa using hB8⟩
    have hB78 := hB7.keep hK8 (by simp)
    have hb7l := hB7.lt
    clear hB7
    refine sc rfl rfl isfn31 (c_AsSlice p q s b8 (count s) _ (hT7.keep hK8 (by simp)) hS8' hlen rfl hRoom ⟨by omega, by omega⟩ (by omega)) rfl ?_
    rintro _ w9 ⟨rfl, hRoom9, hK9⟩
    have hB79 := hB78.keep hK9 (by simp only [List.mem_singleton]; omega)
    clear hB78
    have hK19 := (hK17.trans hK8 (by simp)).trans hK9 (fun i hi => by simp only [List.mem_singleton] at hi; exact .inr (by omega))
    refine st_store rfl rfl rfl sz23 (by assumption) (by first | simp | (simp; omega)) rfl ?_
    intro w10 hB10 hK10 hS10
    have hRoom10 := hRoom9.keep hK10 (by simp only [List.mem_singleton]; omega)
    have hB10' : Blk w10 b7 23 [vS b8 (count s) (count s)] := hB10
    clear hB10 hB79
    refine l_nil ?_
    refine q_block ?_
    refine q_then ?_
    refine c_seq ?_
    refine c_region ?_
    refine st (y_loadb rfl one23 (by assumption) (by rfl)) rfl ?_
    refine st (y_assign rfl) rfl ?_
    refine l_nil ?_
    refine q_then ?_
    refine c_ret ?_
    refine q_endM0 (.inl rfl) rfl rfl ?_
    have hRd := Rd.of_row hRoom10.blk (o := 0) (m := (nums s).length) (by simp) (by omega)
    refine ⟨_, rfl, some ⟨b8, 0, none⟩, count s, by rw [hnl], ?_, hK19.trans hK10 (fun i hi => by simp only [List.mem_singleton] at hi; exact .inr (by omega))⟩
    simpa using hRd
  ·
    refine st_f (y_eq_i (b := 0) rfl rfl) (by omega) rfl ?_
    refine st (y_assign rfl) rfl ?_
    refine l_nil ?_
    refine q_then ?_
    refine c_false rfl rfl ?_
    refine c_seq ?_
    refine c_region ?_
    refine st_t (y_eq_i (b := 1) rfl rfl) (by omega) rfl ?_
    refine st (y_assign rfl) rfl ?_
    refine l_nil ?_
    refine q_then ?_
    refine c_true rfl rfl ?_
    refine c_region ?_
    refine st (y_move rfl) rfl ?_
    refine sc rfl rfl isfn33 (c_AppendTo p q s _ hT7 hS7' hlen) rfl ?_
    rintro v8 w8 ⟨hO8, hK8⟩
    obtain ⟨A8, c8, rfl⟩ := hO8.form
    rw [List.length_map] at hO8 ⊢
    have hB78 := hB7.keep hK8 (by simp)
    have hb7l := hB7.lt
    clear hB7
    refine st_store rfl rfl rfl sz23 (by assumption) (by first | simp | (simp; omega)) rfl ?_
    intro w10 hB10 hK10 hS10
    have hO10 := hO8.keep hK10 (fun i hi => by simp only [List.mem_singleton] at hi; left; omega)
    have hB10' : Blk w10 b7 23 [.slice A8 (nums s).length c8] := hB10
    clear hB10 hB78
    refine l_nil ?_
    refine q_block ?_
    refine q_then ?_
    refine c_seq ?_
    refine c_region ?_
    refine st (y_loadb rfl one23 (by assumption) (by rfl)) rfl ?_
    refine st (y_assign rfl) rfl ?_
    refine l_nil ?_
    refine q_then ?_
    refine c_ret ?_
    refine q_endM0 (.inl rfl) rfl rfl ?_
    exact ⟨_, rfl, A8, c8, rfl, hO10.rd', (hK17.trans hK8 (by simp)).trans hK10 (fun i hi => by simp only [List.mem_singleton] at hi; exact .inr (by omega))⟩
  ·
    refine st_f (y_eq_i (b := 0) rfl rfl) (by omega) rfl ?_
    refine st (y_assign rfl) rfl ?_
    refine l_nil ?_
    refine q_then ?_
    refine c_false rfl rfl ?_
    refine c_seq ?_
    refine c_region ?_
    refine st_f (y_eq_i (b := 1) rfl rfl) (by omega) rfl ?_
    refine st (y_assign rfl) rfl ?_
    refine l_nil ?_
    refine q_then ?_
    refine c_false rfl rfl ?_
    refine c_seq ?_
    refine c_region ?_
    refine st_t (y_eq_i (b := 2) rfl rfl) (by omega) rfl ?_
    refine st (y_assign rfl) rfl ?_
    refine l_nil ?_
    refine q_then ?_
    refine c_true rfl rfl ?_
    refine c_seq ?_
    refine c_region ?_
    refine st (y_move rfl) rfl ?_
    refine sc rfl rfl isfn34 (c_EachSet p _) rfl ?_
    rintro _ w8 ⟨bx, rfl, hbx, hBx, hK8⟩
    have hB78 := hB7.keep hK8 (by simp)
    have hS8' := hS7'.keep hK8 (by simp) (by simp)
    have hT8 := hT7.keep hK8 (by simp)
    have hK18 := hK17.trans hK8 (by simp)
    have hb7l := hB7.lt
    have hlts7 := hS7'.lts
    have hbxl := hBx.lt
    have hTg := hT8.1
    have hsz8 := hK18.size
    clear hB7
    refine l_nil ?_
    refine q_then ?_
    refine c_block ?_
    refine c_rangeFunc (gf := 44) (lb := [vP bx]) (xs := nums s) (N := 6001) rfl isfn44 rfl rfl rfl (fun x => [(7, vP b7), (8, vU x)])
      (fun pre W => Tb W ∧ BSet W p q s ∧ Blk W bx 49 [vP p] ∧ Keep w W [] ∧ ∃ v, Blk W b7 23 [v] ∧ Ow W (w8.heap.size + 2) 22 v (pre.map vU)) ?_ ?_ ?_ ?_ ?_ ?_
    · rintro pre W W' L ⟨h1, h2, h3, h4, v, h5, h6⟩ hK hLL
      have h1l := h1.1
      have hn : ∀ j, j < w8.heap.size → j ∉ L := fun j hj hm => by have := hLL j hm; omega
      exact ⟨h1.keep hK (hn _ (by omega)), h2.keep hK (hn _ (by omega)) (hn _ (by omega)), h3.keep hK (hn _ (by omega)), h4.trans hK (fun i hi => by have := hLL i hi; exact .inr (by omega)), v, h5.keep hK (hn _ (by omega)), h6.keep hK (fun i hi => by have := hLL i hi; left; omega)⟩
    · exact ⟨hT8, hS8', hBx, hK18, _, hB78, Ow.nil _ _ _⟩
    · intro x W K hK
      refine st (y_assign (v := vU x) rfl) rfl ?_
      refine l_nil ?_
      exact fun a ha => hK a (ha.sub ⟨rfl, rfl, trivial⟩)
    · rintro pre x W ⟨h1, h2, h3, h4, v, h5, h6⟩ hlt hpre
      clear hB78 hBx
      refine st (y_loadb rfl one23 (by assumption) (by rfl)) rfl ?_
      refine st (y_move rfl) rfl ?_
      refine st_buildSlice [vU x] Tryd.underlying23 sz22 zv22 rfl (by decide) (by decide) (by kernel_rfl) rfl ?_
      intro b9 w9 hb9 hB9 hK9 hS9
      have h69 := h6.keep hK9 (by simp)
      have h59 := h5.keep hK9 (by simp)
      clear h6 h5
      obtain ⟨i22, hi1, hi2, hi3, hi4⟩ := info_parts inf22
      refine st_append1 rfl rfl Tryd.underlying23 hi1 hi2 hi3 (by omega) rfl rfl (by assumption) (by assumption) (by first | omega | (simp only [List.length_map, List.length_nil, List.length_append, List.length_cons, List.length_take, List.length_drop]; omega)) (by omega) rfl ?_
      clear hi1 hi2 hi3 hi4
      intro v10 w10 L10 hO10 hK10 hL10
      obtain ⟨A10, c10, rfl⟩ := hO10.form
      have h510 := h59.keep hK10 (fun hm => by have := hL10 _ hm; omega)
      clear h59
      refine st_store rfl rfl rfl sz23 (by assumption) (by first | simp | (simp; omega)) rfl ?_
      intro w11 hB11 hK11 hS11
      have hO11 := hO10.keep hK11 (fun i hi => by simp only [List.mem_singleton] at hi; left; omega)
      have hK911 : Keep W w11 (b7 :: L10) := ((hK9.mono (fun i hi => by cases hi)).trans hK10 (fun i hi => .inl (List.mem_cons_of_mem _ hi))).trans hK11 (fun i hi => by simp only [List.mem_singleton] at hi; exact .inl (by simp [hi]))
      have hnm : ∀ j, j ≤ w8.heap.size + 1 → j ≠ b7 → j ∉ b7 :: L10 := fun j hj hne hm => by
        rcases List.mem_cons.1 hm with h | h
        · exact hne h
        · have := hL10 _ h; omega
      refine l_nil ?_
      intro a ha
      refine ⟨rfl, ⟨h1.keep hK911 (hnm _ (by omega) (by omega)), h2.keep hK911 (hnm _ (by omega) (by omega)) (hnm _ (by omega) (by omega)), h3.keep hK911 (hnm _ (by omega) (by omega)), h4.trans hK911 (fun i hi => ?_), _, hB11, by rw [List.map_append]; exact hO11⟩, hK911.same _ (by omega) (hnm _ (by omega) (by omega)), hK911.same _ (by omega) (hnm _ (by omega) (by omega))⟩
      rcases List.mem_cons.1 hi with h | h
      · exact .inr (by omega)
      · have := hL10 _ h; exact .inr (by omega)
    · intro l J W hJ hJ0 hY
      exact c_each l p q bx s J W (fun pre W h => by obtain ⟨h1, h2, h3, _⟩ := hJ _ _ h; exact ⟨h1, h2, h3⟩) hlen hJ0 hY
    · rintro W ⟨h1, h2, h3, h4, v, h5, h6⟩ hdef
      clear hB78 hBx
      refine q_block ?_
      refine q_block ?_
      refine q_then ?_
      refine c_seq ?_
      refine c_region ?_
      refine st (y_loadb rfl one23 (by assumption) (by rfl)) rfl ?_
      refine st (y_assign rfl) rfl ?_
      refine l_nil ?_
      refine q_then ?_
      refine c_ret ?_
      refine q_endM1 (.inl rfl) rfl rfl hdef ?_
      have hO := h6.keep (Keep.putObj W w8.heap.size (.deferred none)) (fun i hi => by simp only [List.mem_singleton] at hi; left; omega)
      obtain ⟨A8, c8, rfl⟩ := hO.form
      rw [List.length_map] at hO ⊢
      exact ⟨_, rfl, A8, c8, rfl, hO.rd', h4.trans (Keep.putObj W w8.heap.size (.deferred none)) (fun i hi => by simp only [List.mem_singleton] at hi; exact .inr (by omega))⟩

end Go.Proofs.YtbahhdeblppooaaDoor

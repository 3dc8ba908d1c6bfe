/- What is spread by a mask and packed again: the statement's own walk. -/
import Derived.Test.YthefhfliobjgaaaDoorFExtract
import Derived.Test.YthefhfliobjgaaaDoorC2
import Derived.Test.YthefhfliobjgaaaDoorK11
set_option linter.unusedVariables false
set_option linter.unusedSimpArgs false
set_option maxRecDepth 100000
set_option maxHeartbeats 1000000
namespace Go.Proofs.YthefhfliobjgaaaDoor
open Go Go.RowKit

/-- a list of numbers that the call appends to, in a row of its own -/
structure One (w0 w : World) (b6 pb pc : Nat) (P : List Nat) : Prop where
  keep : Keep w0 w [b6]
  p6 : b6 ≤ pb
  pl : pb = b6 ∨ w0.heap.size ≤ pb
  po : Ow w b6 22 (vS pb P.length pc) (P.map vU)
theorem One.move {w0 w1 w2 : World} {b6 pb pc : Nat} {P : List Nat} (h : One w0 w1 b6 pb pc P) (k1 : Keep w1 w2 []) : One w0 w2 b6 pb pc P :=
  ⟨h.keep.trans k1 (by simp), h.p6, h.pl, h.po.keepA k1 (by simp)⟩
theorem One.app {w0 w2 w3 : World} {b6 pb pc b' c' : Nat} {P P' : List Nat} (h : One w0 w2 b6 pb pc P) (hb : b' = pb ∨ b' = w2.heap.size) (hO : Ow w3 b6 22 (vS b' P'.length c') (P'.map vU)) (k2 : Keep w2 w3 [pb]) : One w0 w3 b6 b' c' P' := by
  have s0 := h.keep.size
  have hp6 := h.p6; have hpl := h.pl
  have hpw := h.po.at.1
  refine ⟨h.keep.trans k2 (fun i hi => ?_), by omega, by omega, hO⟩
  simp only [List.mem_singleton] at hi ⊢
  subst hi
  omega

theorem c_FnExtractBack (L : Nat) (A : Option Addr) (n c : Nat) (xs : List Nat) (M : Nat) (A2 : Option Addr) (n2 c2 : Nat) (ys : List Nat) (w : World) (hT : Tb w) (hR : Rd w A n xs) (hR2 : Rd w A2 n2 ys) :
    Cal Tryd.prog 4 [aB L A n c, aB M A2 n2 c2] w fun v w' => v = vB true ∧ Keep w w' [] := by
  have hT0 := hT.1
  refine go_in' Tryd.func4 rfl Tryd.ntmps4 (Nat.le_of_ble_eq_true rfl) ?_
  refine c_seq ?_
  refine c_region ?_
  refine st_box _ rfl rfl rfl ?_
  intro b1 w1 hb1 hB1 hK1 hS1
  refine st_box _ rfl rfl rfl ?_
  intro b2 w2 hb2 hB2 hK2 hS2
  have hB1 := hB1.keep hK2 (by simp only [List.mem_cons, List.not_mem_nil, or_false, not_or, not_false_eq_true] <;> omega)
  have hK12 := hK1.trans hK2 (by simp)
  refine st (y_assign rfl) rfl ?_
  refine l_nil ?_
  refine q_then ?_
  refine c_seq ?_
  refine c_seq ?_
  refine c_region ?_
  refine st (y_loadagg rfl agg25 us25 sz25 (by assumption) (by simp) (by rfl)) rfl ?_
  refine sc rfl rfl isfn5 (c_zzFits1 L A n c _) rfl ?_
  rintro _ w3 ⟨rfl, hK3⟩
  have hB1 := hB1.keep hK3 (by simp only [List.mem_cons, List.not_mem_nil, or_false, not_or, not_false_eq_true] <;> omega)
  have hB2 := hB2.keep hK3 (by simp only [List.mem_cons, List.not_mem_nil, or_false, not_or, not_false_eq_true] <;> omega)
  have hK13 := hK12.trans hK3 (by simp)
  clear hK1 hK2 hK12 hK3
  refine st (y_not rfl) rfl ?_
  obtain ⟨z, hz⟩ : ∃ z, (!decide (n ≤ 2147483647)) = z := ⟨_, rfl⟩
  rw [hz]
  cases z
  ·
    refine st (y_move rfl) rfl ?_
    refine stg rfl rfl (y_loadagg rfl agg25 us25 sz25 (by assumption) (by simp) (by rfl)) rfl ?_
    refine scg rfl rfl rfl rfl isfn5 (c_zzFits1 M A2 n2 c2 _) rfl ?_
    rintro _ w4 ⟨rfl, hK4⟩
    have hB1 := hB1.keep hK4 (by simp only [List.mem_cons, List.not_mem_nil, or_false, not_or, not_false_eq_true] <;> omega)
    have hB2 := hB2.keep hK4 (by simp only [List.mem_cons, List.not_mem_nil, or_false, not_or, not_false_eq_true] <;> omega)
    have hK14 := hK13.trans hK4 (by simp)
    clear hK4 hK13
    refine stg rfl rfl (y_not rfl) rfl ?_
    refine st (y_pickF rfl rfl) rfl ?_
    refine l_nil ?_
    refine q_then ?_
    refine c_ifb rfl (fun hz2 => ?_) (fun hz2 => ?_)
    · refine c_seq ?_
      refine c_region ?_
      refine st (y_assign rfl) rfl ?_
      refine l_nil ?_
      refine q_then ?_
      refine c_ret ?_
      refine q_then_ret ?_
      refine q_end1 (.inl rfl) rfl rfl ?_
      exact ⟨_, rfl, rfl, hK14⟩
    ·
      refine c_skip ?_
      refine q_then ?_
      refine c_seq ?_
      refine c_region ?_
      refine st (y_loadagg rfl agg25 us25 sz25 (by assumption) (by simp) (by rfl)) rfl ?_
      refine st (y_loadagg rfl agg25 us25 sz25 (by assumption) (by simp) (by rfl)) rfl ?_
      refine sc rfl rfl isfn6 (c_lawsBoth L A n c xs M A2 n2 c2 ys _ (hR.keep hK14 (by simp)) (hR2.keep hK14 (by simp))) rfl ?_
      rintro _ w5 ⟨hK5, ⟨ho, ho2, b, b', rfl, hBl, hBl2, hb, hb'⟩ | ⟨x, y, rfl⟩⟩
      · have hB1 := hB1.keep hK5 (by simp only [List.mem_cons, List.not_mem_nil, or_false, not_or, not_false_eq_true] <;> omega)
        have hB2 := hB2.keep hK5 (by simp only [List.mem_cons, List.not_mem_nil, or_false, not_or, not_false_eq_true] <;> omega)
        have hK15 := hK14.trans hK5 (by simp)
        have hl15 := hB1.lt
        have hl25 := hB2.lt
        have hls := ho.len
        have hlt := ho2.len
        clear hK5 hK14
        obtain ⟨s, hs⟩ : ∃ s, mkS L xs = s := ⟨_, rfl⟩
        obtain ⟨m, hm⟩ : ∃ m, mkS M ys = m := ⟨_, rfl⟩
        rw [hs] at hBl hls ⊢
        rw [hm] at hBl2 hlt ⊢
        have hcm := count_le m
        have hcs := count_le s
        have hnl := nums_length s
        refine st (y_move rfl) rfl ?_
        refine st (y_extract rfl rfl) rfl ?_
        refine st (y_extract rfl rfl) rfl ?_
        refine st (y_extract rfl rfl) rfl ?_
        refine st (y_assign rfl) rfl ?_
        refine st (y_assign rfl) rfl ?_
        refine st (y_assign rfl) rfl ?_
        refine l_nil ?_
        refine q_then ?_
        refine c_seq ?_
        refine c_seq ?_
        refine c_region ?_
        refine st (y_move rfl) rfl ?_
        refine st (y_not rfl) rfl ?_
        refine l_nil ?_
        refine q_then ?_
        refine c_false rfl rfl ?_
        refine c_skip ?_
        refine q_then ?_
        refine c_seq ?_
        refine c_region ?_
        refine st_buildSlice0 Tryd.underlying23 sz22 rfl ?_
        intro b6 w6 hb6 hB6 hK6 hS6
        have hB1 := hB1.keep hK6 (by simp only [List.mem_cons, List.not_mem_nil, or_false, not_or, not_false_eq_true] <;> omega)
        have hB2 := hB2.keep hK6 (by simp only [List.mem_cons, List.not_mem_nil, or_false, not_or, not_false_eq_true] <;> omega)
        have hK17 := hK15.trans hK6 (by simp)
        have hBl7 := hBl.keep hK6 (by simp)
        have hBm7 := hBl2.keep hK6 (by simp)
        refine st (y_assign rfl) rfl ?_
        refine l_nil ?_
        refine q_then ?_
        refine c_seq ?_
        refine c_seq ?_
        refine c_region ?_
        refine st (y_move rfl) rfl ?_
        refine sc rfl rfl isfn7 (c_Numbers b s _ hBl7 (by omega)) rfl ?_
        rintro v8 w8 ⟨hO8, hK8⟩
        have hB1 := hB1.keep hK8 (by simp only [List.mem_cons, List.not_mem_nil, or_false, not_or, not_false_eq_true] <;> omega)
        have hB2 := hB2.keep hK8 (by simp only [List.mem_cons, List.not_mem_nil, or_false, not_or, not_false_eq_true] <;> omega)
        have hB6 := hB6.keep hK8 (by simp only [List.mem_cons, List.not_mem_nil, or_false, not_or, not_false_eq_true] <;> omega)
        have hK18 := hK17.trans hK8 (by simp)
        have hBm8 := hBm7.keep hK8 (by simp)
        have hsz15 := hK15.size
        have hbl := hBl2.lt
        have hsz8 := hK8.size
        obtain ⟨NA, Nc, rfl, hRN⟩ := hO8.rd
        have hNb : ∀ ad, NA = some ad → b6 < ad.block := by
          intro ad e
          subst e
          have := hO8.blk
          omega
        have hO6 : Ow w8 b6 22 (vS b6 0 0) ([] : List Value) := Ow.empty hB6 (Nat.le_refl _)
        have hlt1 := hB1.lt
        have hlt2 := hB2.lt
        have hbs1 : b1 < b6 ∧ b2 < b6 ∧ b' < b6 := by omega
        rw [hnl] at hRN ⊢
        obtain ⟨Pk, hPk⟩ : ∃ f : Nat → List Nat, f = fun k => ((nums s).take k).filter fun x => decide (x < count m) := ⟨_, rfl⟩
        have hP0 : Pk 0 = [] := by rw [hPk]; rfl
        refine st (y_len rfl Tryd.underlying23) rfl ?_
        refine st (y_move (v := vI ((0 : Nat) : Int)) rfl) rfl ?_
        refine l_nil ?_
        refine q_then ?_
        refine c_block ?_
        refine c_loop (fun x : Nat × Nat × Nat => [(2, vP b1), (3, vP b2), (6, vS b' m.length m.length), (8, vS x.2.1 (Pk x.1).length x.2.2), (30, .slice NA (count s) Nc), (31, vI (count s : Nat)), (32, vI (x.1 : Nat))]) (fun x w' => x.1 ≤ count s ∧ One w8 w' b6 x.2.1 x.2.2 (Pk x.1)) (fun x => count s - x.1) (0, b6, 0) ?_ ?_ ?_
        · exact ⟨rfl, rfl, rfl, by rw [hP0]; rfl, rfl, rfl, rfl, trivial⟩
        · refine ⟨Nat.zero_le _, ?_⟩
          simp only
          rw [hP0]
          exact ⟨Keep.refl _ _, Nat.le_refl _, .inl rfl, hO6⟩
        · rintro ⟨k, pb, pc⟩ w9 ⟨hk, h2⟩
          simp only at hk h2 ⊢
          have hK9 := h2.keep
          have hRN9 : Rd w9 NA (count s) (nums s) := by
            refine ⟨hRN.1, hRN.2.1, fun h0 => ?_⟩
            obtain ⟨ad, e, hadl, hc⟩ := hRN.2.2 h0
            refine ⟨ad, e, Nat.lt_of_lt_of_le hadl hK9.size, fun j hj => ?_⟩
            rw [← hc j hj]
            have := hNb ad e
            have e2 : (ad.add j).block = ad.block := by unfold Addr.add; split <;> rfl
            refine World.cell?_of_block (hK9.same _ (by omega) ?_)
            simp only [List.mem_singleton]; omega
          refine c_seq ?_
          refine c_region ?_
          refine st_if (y_lt_i rfl rfl) rfl (fun hlt9 => ?_) (fun hlt9 => ?_)
          · obtain ⟨ad, rfl, hadl, hcell⟩ := hRN9.2.2 (by omega)
            have hc := hcell k (by omega)
            have hx := nums_lt s ((nums s).getD k 0) (by rw [List.getD_eq_getElem?_getD, List.getElem?_eq_getElem (by omega)]; exact List.getElem_mem _)
            have hBm9 := hBm8.keep hK9 (by simp; omega)
            have htk := take_succ_getD (nums s) k (by omega)
            have hPl : (Pk k).length ≤ 3001 := by
              have h3 := List.length_filter_le (fun x => decide (x < count m)) ((nums s).take k)
              rw [List.length_take] at h3
              rw [hPk]; simp only; omega
            obtain ⟨xk, hxk⟩ : ∃ x, (nums s).getD k 0 = x := ⟨_, rfl⟩
            rw [hxk] at hc hx htk
            have hP1 : Pk (k + 1) = Pk k ++ if xk < count m then [xk] else [] := by
              rw [hPk]; simp only
              rw [htk, List.filter_append]
              congr 1
              by_cases h : xk < count m <;> simp [h]
            refine l_nil ?_
            refine q_then ?_
            refine c_seq ?_
            refine c_true rfl rfl ?_
            refine c_skip ?_
            refine q_then ?_
            refine c_seq ?_
            refine c_block ?_
            refine c_seq ?_
            refine c_region ?_
            first | refine st (y_index0 rfl rfl Tryd.underlying23 sz22 (by omega)) rfl ?_ | refine st (y_index rfl rfl Tryd.underlying23 sz22 (by omega)) rfl ?_ | refine st (y_indexA rfl rfl Tryd.underlying23 sz22 (by omega)) rfl ?_
            refine st (y_load rfl one22 (by assumption)) rfl ?_
            refine st (y_assign rfl) rfl ?_
            refine l_nil ?_
            refine q_then ?_
            refine c_seq ?_
            refine c_region ?_
            refine st (y_move rfl) rfl ?_
            refine st (y_move rfl) rfl ?_
            refine sc rfl rfl isfn13 (c_specCount b' m _ hBm9 (by omega)) rfl ?_
            rintro _ w10 ⟨rfl, hK10⟩
            have h2' := h2.move hK10
            refine st_if (y_lt_u rfl rfl) rfl (fun h1 => ?_) (fun h1 => ?_)
            · rw [if_pos h1] at hP1
              refine l_nil ?_
              refine q_then ?_
              refine c_true rfl rfl ?_
              refine c_region ?_
              refine st (y_move rfl) rfl ?_
              refine st (y_move rfl) rfl ?_
              refine st_buildSlice [vU xk] Tryd.underlying23 sz22 zv22 rfl (by decide) (by decide) (by kernel_rfl) rfl ?_
              intro b11 w11 hb11 hB11 hK11 hS11
              have h3 := h2'.move hK11
              have hO11 := h3.po
              have hsz11 := h3.keep.size
              obtain ⟨i22, hi1, hi2, hi3, hi4⟩ := info_parts inf22
              refine st_appendA (news := [vU xk]) rfl rfl Tryd.underlying23 hi1 hi2 hi3 (by omega) rfl rfl (news_one (by assumption)) (by intro u hu; simp only [List.mem_singleton] at hu; subst hu; rfl) (by assumption) (by first | omega | (simp only [List.length_map, List.length_nil, List.length_append, List.length_cons, List.length_take, List.length_drop]; omega) | simp) (by omega) (by omega) rfl ?_
              clear hi1 hi2 hi3 hi4
              intro b12 c12 w12 hb12 hO12 hK12
              rw [snoc_len (x := xk), ← hP1, snoc_map, ← hP1] at hO12
              rw [snoc_len (x := xk), ← hP1]
              refine st (y_assign rfl) rfl ?_
              refine l_nil ?_
              refine q_block ?_
              refine q_then ?_
              refine c_region ?_
              first | refine st (y_add_in (b := 1) rfl rfl (by omega)) rfl ?_ | refine st (y_add_i (b := 1) rfl rfl (by omega) (by omega)) rfl ?_
              refine st (y_move rfl) rfl ?_
              refine l_nil ?_
              exact q_round (k + 1, b12, c12) ⟨rfl, rfl, rfl, rfl, rfl, rfl, rfl, trivial⟩ ⟨by simp only; omega, h3.app hb12 hO12 hK12⟩ (by simp only; omega)
            ·
              rw [if_neg h1, List.append_nil] at hP1
              refine l_nil ?_
              refine q_then ?_
              refine c_false rfl rfl ?_
              refine c_skip ?_
              refine q_block ?_
              refine q_then ?_
              refine c_region ?_
              first | refine st (y_add_in (b := 1) rfl rfl (by omega)) rfl ?_ | refine st (y_add_i (b := 1) rfl rfl (by omega) (by omega)) rfl ?_
              refine st (y_move rfl) rfl ?_
              refine l_nil ?_
              exact q_round (k + 1, pb, pc) ⟨rfl, rfl, rfl, by rw [hP1]; rfl, rfl, rfl, rfl, trivial⟩ ⟨by simp only; omega, by simp only; rw [hP1]; exact h2'⟩ (by simp only; omega)
          ·
            have hke : k = count s := by omega
            have htake : (nums s).take k = nums s := List.take_of_length_le (by omega)
            have hPe : Pk k = nums (exS (depS s m) m) := by rw [hPk, ex_dep, nums_below]; simp only; rw [htake]
            have hK19 := (hK18.trans hK9 (fun i hi => by simp only [List.mem_singleton] at hi; exact .inr (by omega))).trans (Keep.drew w9 []) (by simp)
            have hB19 := (hB1.keep hK9 (by simp; omega)).drew
            have hB29 := (hB2.keep hK9 (by simp; omega)).drew
            have hRp := h2.po.rd'.keep (Keep.drew w9 []) (by simp)
            clear hB1 hB2
            refine l_nil ?_
            refine q_then ?_
            refine c_seq ?_
            refine c_false rfl rfl ?_
            refine c_exit ?_
            refine q_then_exit ?_
            refine q_then_exit ?_
            refine q_block_hit ?_
            refine q_then ?_
            refine c_seq ?_
            refine c_moves ((fun w' => Blk w' b1 25 [vU L, .slice A n c] ∧ Blk w' b2 25 [vU M, .slice A2 n2 c2])) (.take 0 (.take 1 (.take 3 (.take 6 (.one 2 (.one 4 (.take 5 (.one 7 (.take 8 (.one 9 (.take 10 (.take 11 .nil)))))))))))) mixed (by kernel_rfl) rfl (by kernel_rfl) (⟨hB19, hB29⟩) ?_
            show wpM _ _ _ _ _ _ _ _ _
            refine mt rfl (fun w' hS => y_loadagg rfl agg25 us25 sz25 (by first | assumption | exact hS.1 | exact hS.2 | exact hS.2.1 | exact hS.2.2) (by simp) (by rfl)) rfl rfl ?_
            refine mt rfl (fun w' hS => y_loadagg rfl agg25 us25 sz25 (by first | assumption | exact hS.1 | exact hS.2 | exact hS.2.1 | exact hS.2.2) (by simp) (by rfl)) rfl rfl ?_
            refine mt rfl (fun w' hS => y_loadagg rfl agg25 us25 sz25 (by first | assumption | exact hS.1 | exact hS.2 | exact hS.2.1 | exact hS.2.2) (by simp) (by rfl)) rfl rfl ?_
            refine mt rfl (fun w' hS => y_move rfl) rfl rfl ?_
            refine mh rfl ?_
            refine sc rfl rfl isfn11 (c_implDeposit L A n c xs M A2 n2 c2 ys _ (hT.keep hK19 (by simp)) (hR.keep hK19 (by simp)) (hR2.keep hK19 (by simp)) (by have := ho.1; omega) (fun x h => by have := ho.2.2 x h; omega) (by have := ho2.1; omega) (fun x h => by have := ho2.2.2 x h; omega)) rfl ?_
            rintro _ w20 ⟨t20, A20, c20, rfl, ht20, htl20, hO20, hK20⟩
            rw [hs, hm] at ht20
            have hB19 := hB19.keep hK20 (by simp only [List.mem_cons, List.not_mem_nil, or_false, not_or, not_false_eq_true] <;> omega)
            have hB29 := hB29.keep hK20 (by simp only [List.mem_cons, List.not_mem_nil, or_false, not_or, not_false_eq_true] <;> omega)
            have hK21 := hK19.trans hK20 (by simp)
            have hmt := mkS_nums t20
            refine l_nil ?_
            refine mh_end (⟨hB19, hB29⟩) ?_
            refine mh rfl ?_
            refine sc rfl rfl isfn10 (c_implExtract t20.length A20 _ c20 (nums t20) M A2 n2 c2 ys _ (hT.keep hK21 (by simp)) hO20.rd' (hR2.keep hK21 (by simp)) (by have := depS_length s m; rw [← ht20] at this; omega) (nums_le t20 6000 (by have := depS_length s m; rw [← ht20] at this; omega)) (by have := ho2.1; omega) (fun x h => by have := ho2.2.2 x h; omega)) rfl ?_
            rintro _ w24 ⟨t24, A24, c24, rfl, ht24, htl24, hO24, hK24⟩
            rw [hmt, ht20, hm] at ht24
            have hB19 := hB19.keep hK24 (by simp only [List.mem_cons, List.not_mem_nil, or_false, not_or, not_false_eq_true] <;> omega)
            have hB29 := hB29.keep hK24 (by simp only [List.mem_cons, List.not_mem_nil, or_false, not_or, not_false_eq_true] <;> omega)
            have hK25 := hK21.trans hK24 (by simp)
            refine l_nil ?_
            refine mh_end (⟨hB19, hB29⟩) ?_
            refine mt rfl (fun w' hS => fld25_1 rfl (by rfl)) rfl rfl ?_
            refine mh rfl ?_
            refine sc rfl rfl isfn9 (c_list _ _ _ _ _ _ _ _ _ hO24.rd' ((hRp.keep hK20 (by simp)).keep hK24 (by simp)) (by rw [ht24, hPe])) rfl ?_
            rintro _ w26 ⟨rfl, hK26⟩
            have hB19 := hB19.keep hK26 (by simp only [List.mem_cons, List.not_mem_nil, or_false, not_or, not_false_eq_true] <;> omega)
            have hB29 := hB29.keep hK26 (by simp only [List.mem_cons, List.not_mem_nil, or_false, not_or, not_false_eq_true] <;> omega)
            have hK27 := hK25.trans hK26 (by simp)
            refine l_nil ?_
            refine mh_end (⟨hB19, hB29⟩) ?_
            refine mt rfl (fun w' hS => y_move rfl) rfl rfl ?_
            refine mh rfl ?_
            refine scg rfl rfl rfl rfl isfn12 (c_alive _ (hT.keep hK27 (by simp))) rfl ?_
            rintro _ w28 ⟨rfl, hK28⟩
            have hB19 := hB19.keep hK28 (by simp only [List.mem_cons, List.not_mem_nil, or_false, not_or, not_false_eq_true] <;> omega)
            have hB29 := hB29.keep hK28 (by simp only [List.mem_cons, List.not_mem_nil, or_false, not_or, not_false_eq_true] <;> omega)
            refine l_nil ?_
            refine mh_end (⟨hB19, hB29⟩) ?_
            refine mt rfl (fun w' hS => y_pickT rfl rfl) rfl rfl ?_
            refine mt rfl (fun w' hS => y_assign rfl) rfl rfl ?_
            refine m_nil ?_
            refine q_then ?_
            refine c_ret ?_
            refine q_end1 (.inl rfl) rfl rfl ?_
            exact ⟨_, rfl, rfl, hK27.trans hK28 (by simp)⟩
      ·
        refine st (y_move rfl) rfl ?_
        refine st (y_extract rfl rfl) rfl ?_
        refine st (y_extract rfl rfl) rfl ?_
        refine st (y_extract rfl rfl) rfl ?_
        refine st (y_assign rfl) rfl ?_
        refine st (y_assign rfl) rfl ?_
        refine st (y_assign rfl) rfl ?_
        refine l_nil ?_
        refine q_then ?_
        refine c_seq ?_
        refine c_seq ?_
        refine c_region ?_
        refine st (y_move rfl) rfl ?_
        refine st (y_not rfl) rfl ?_
        refine l_nil ?_
        refine q_then ?_
        refine c_true rfl rfl ?_
        refine c_seq ?_
        refine c_region ?_
        refine st (y_assign rfl) rfl ?_
        refine l_nil ?_
        refine q_then ?_
        refine c_ret ?_
        refine q_then_ret ?_
        refine q_end1 (.inl rfl) rfl rfl ?_
        exact ⟨_, rfl, rfl, hK14.trans hK5 (by simp)⟩
  ·
    refine st (y_move rfl) rfl ?_
    refine sno rfl rfl rfl rfl ?_
    refine sno rfl rfl rfl rfl ?_
    refine sno rfl rfl rfl rfl ?_
    refine st (y_pickT rfl rfl) rfl ?_
    refine l_nil ?_
    refine q_then ?_
    refine c_true rfl rfl ?_
    refine c_seq ?_
    refine c_region ?_
    refine st (y_assign rfl) rfl ?_
    refine l_nil ?_
    refine q_then ?_
    refine c_ret ?_
    refine q_then_ret ?_
    refine q_end1 (.inl rfl) rfl rfl ?_
    exact ⟨_, rfl, rfl, hK13⟩

end Go.Proofs.YthefhfliobjgaaaDoor

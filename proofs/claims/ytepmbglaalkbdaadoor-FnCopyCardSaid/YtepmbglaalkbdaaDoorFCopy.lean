/- As many numbers are copied as the shorter set is long; a full copy is the set: the statement's own walk. -/
import Derived.Test.YtepmbglaalkbdaaDoorA7
import Derived.Test.YtepmbglaalkbdaaDoorD2
set_option linter.unusedVariables false
set_option linter.unusedSimpArgs false
set_option maxRecDepth 100000
set_option maxHeartbeats 1000000
namespace Go.Proofs.YtepmbglaalkbdaaDoor
open Go Go.RowKit

theorem c_FnCopy (L : Nat) (A : Option Addr) (n c : Nat) (xs : List Nat) (M : Nat) (A2 : Option Addr) (n2 c2 : Nat) (ys : List Nat) (w : World) (hT : Tb w) (hR : Rd w A n xs) (hR2 : Rd w A2 n2 ys) :
    Cal Tryd.prog 6 [aB L A n c, aB M A2 n2 c2] w fun v w' => v = vB true ∧ Keep w w' [] := by
  have hT0 := hT.1
  refine go_in' Tryd.func6 rfl Tryd.ntmps6 (Nat.le_of_ble_eq_true rfl) ?_
  refine c_seq ?_
  refine c_region ?_
  refine st_box _ rfl rfl rfl ?_
  intro b1 w1 hb1 hB1 hK1 hS1
  refine st_box _ rfl rfl rfl ?_
  intro b2 w2 hb2 hB2 hK2 hS2
  have hB1 := hB1.keep hK2 (by simp only [List.mem_cons, List.not_mem_nil, or_false, not_or, not_false_eq_true] <;> omega)
  have hK12 := hK1.trans hK2 (by simp)
  refine st (y_assign rfl) rfl ?_
  refine l_nil ?_
  refine q_then ?_
  refine c_seq ?_
  refine c_seq ?_
  refine c_region ?_
  refine st (y_loadagg rfl agg25 us25 sz25 (by assumption) (by simp) (by rfl)) rfl ?_
  refine sc rfl rfl isfn9 (c_zzFits1 L A n c _) rfl ?_
  rintro _ w3 ⟨rfl, hK3⟩
  have hB1 := hB1.keep hK3 (by simp only [List.mem_cons, List.not_mem_nil, or_false, not_or, not_false_eq_true] <;> omega)
  have hB2 := hB2.keep hK3 (by simp only [List.mem_cons, List.not_mem_nil, or_false, not_or, not_false_eq_true] <;> omega)
  have hK13 := hK12.trans hK3 (by simp)
  clear hK1 hK2 hK12 hK3
  refine st (y_not rfl) rfl ?_
  obtain ⟨z, hz⟩ : ∃ z, (!decide (n ≤ 2147483647)) = z := ⟨_, rfl⟩
  rw [hz]
  cases z
  ·
    refine st (y_move rfl) rfl ?_
    refine stg rfl rfl (y_loadagg rfl agg25 us25 sz25 (by assumption) (by simp) (by rfl)) rfl ?_
    refine scg rfl rfl rfl rfl isfn9 (c_zzFits1 M A2 n2 c2 _) rfl ?_
    rintro _ w4 ⟨rfl, hK4⟩
    have hB1 := hB1.keep hK4 (by simp only [List.mem_cons, List.not_mem_nil, or_false, not_or, not_false_eq_true] <;> omega)
    have hB2 := hB2.keep hK4 (by simp only [List.mem_cons, List.not_mem_nil, or_false, not_or, not_false_eq_true] <;> omega)
    have hK14 := hK13.trans hK4 (by simp)
    clear hK4 hK13
    refine stg rfl rfl (y_not rfl) rfl ?_
    refine st (y_pickF rfl rfl) rfl ?_
    refine l_nil ?_
    refine q_then ?_
    refine c_ifb rfl (fun hz2 => ?_) (fun hz2 => ?_)
    · refine c_seq ?_
      refine c_region ?_
      refine st (y_assign rfl) rfl ?_
      refine l_nil ?_
      refine q_then ?_
      refine c_ret ?_
      refine q_then_ret ?_
      refine q_end1 (.inl rfl) rfl rfl ?_
      exact ⟨_, rfl, rfl, hK14⟩
    ·
      refine c_skip ?_
      refine q_then ?_
      refine c_seq ?_
      refine c_region ?_
      refine st (y_loadagg rfl agg25 us25 sz25 (by assumption) (by simp) (by rfl)) rfl ?_
      refine st (y_loadagg rfl agg25 us25 sz25 (by assumption) (by simp) (by rfl)) rfl ?_
      refine sc rfl rfl isfn18 (c_lawsBoth L A n c xs M A2 n2 c2 ys _ (hR.keep hK14 (by simp)) (hR2.keep hK14 (by simp))) rfl ?_
      rintro _ w5 ⟨hK5, ⟨ho, ho2, b, b', rfl, hBl, hBl2, hb, hb'⟩ | ⟨x, y, rfl⟩⟩
      · have hB1 := hB1.keep hK5 (by simp only [List.mem_cons, List.not_mem_nil, or_false, not_or, not_false_eq_true] <;> omega)
        have hB2 := hB2.keep hK5 (by simp only [List.mem_cons, List.not_mem_nil, or_false, not_or, not_false_eq_true] <;> omega)
        have hK15 := hK14.trans hK5 (by simp)
        have hls := ho.len
        have hlt := ho2.len
        clear hK5 hK14
        obtain ⟨s, hs⟩ : ∃ s, mkS L xs = s := ⟨_, rfl⟩
        obtain ⟨m, hm⟩ : ∃ m, mkS M ys = m := ⟨_, rfl⟩
        rw [hs] at hBl hls ⊢
        rw [hm] at hBl2 hlt ⊢
        have hcl := copyS_length s m
        refine st (y_move rfl) rfl ?_
        refine st (y_extract rfl rfl) rfl ?_
        refine st (y_extract rfl rfl) rfl ?_
        refine st (y_extract rfl rfl) rfl ?_
        refine st (y_assign rfl) rfl ?_
        refine st (y_assign rfl) rfl ?_
        refine st (y_assign rfl) rfl ?_
        refine l_nil ?_
        refine q_then ?_
        refine c_seq ?_
        refine c_seq ?_
        refine c_region ?_
        refine st (y_move rfl) rfl ?_
        refine st (y_not rfl) rfl ?_
        refine l_nil ?_
        refine q_then ?_
        refine c_false rfl rfl ?_
        refine c_skip ?_
        refine q_then ?_
        refine c_seq ?_
        refine c_region ?_
        refine st (y_loadagg rfl agg25 us25 sz25 (by assumption) (by simp) (by rfl)) rfl ?_
        refine st (y_loadagg rfl agg25 us25 sz25 (by assumption) (by simp) (by rfl)) rfl ?_
        refine sc rfl rfl isfn19 (c_implCopy L A n c xs M A2 n2 c2 ys _ (hT.keep hK15 (by simp)) (hR.keep hK15 (by simp)) (hR2.keep hK15 (by simp)) (by have := ho.1; omega) (fun x h => by have := ho.2.2 x h; omega) (by have := ho2.1; omega) (fun x h => by have := ho2.2.2 x h; omega)) rfl ?_
        rintro _ w6 ⟨t6, A6, c6, rfl, ht6, hO6, hK6⟩
        rw [hs, hm] at ht6
        rw [hs, hm]
        have hB1 := hB1.keep hK6 (by simp only [List.mem_cons, List.not_mem_nil, or_false, not_or, not_false_eq_true] <;> omega)
        have hB2 := hB2.keep hK6 (by simp only [List.mem_cons, List.not_mem_nil, or_false, not_or, not_false_eq_true] <;> omega)
        have hK16 := hK15.trans hK6 (by simp)
        have hBl6 := hBl.keep hK6 (by simp)
        have htl : t6.length = m.length := by rw [ht6, hcl]
        have hmt := mkS_nums t6
        have hnl := nums_le t6 3300 (by omega)
        refine st (y_move rfl) rfl ?_
        refine st (y_extract rfl rfl) rfl ?_
        refine st (y_extract rfl rfl) rfl ?_
        have hlb1 := hB1.lt
        have hlb2 := hB2.lt
        refine st_alloc [.int .u64 0, .slice none 0 0] zv25 rfl rfl ?_
        intro b8 w7 hb8 hB8 hK7 hS7
        have hB1 := hB1.keep hK7 (by simp only [List.mem_cons, List.not_mem_nil, or_false, not_or, not_false_eq_true] <;> omega)
        have hB2 := hB2.keep hK7 (by simp only [List.mem_cons, List.not_mem_nil, or_false, not_or, not_false_eq_true] <;> omega)
        refine st_storeagg rfl rfl (by simp [Value.oneCell']) sz25 rfl (by assumption) (by simp) rfl ?_
        intro w8 hB8' hK8 hS8
        have hB1 := hB1.keep hK8 (by simp only [List.mem_cons, List.not_mem_nil, or_false, not_or, not_false_eq_true] <;> omega)
        have hB2 := hB2.keep hK8 (by simp only [List.mem_cons, List.not_mem_nil, or_false, not_or, not_false_eq_true] <;> omega)
        have hB88 : Blk w8 b8 25 [vU t6.length, .slice A6 (nums t6).length c6] := hB8'
        clear hB8 hB8'
        have hsz15 := hK15.size
        have hsz6 := hK6.size
        have hBl8 := (hBl6.keep hK7 (by simp)).keep hK8 (by have := hBl6.lt; simp only [List.mem_singleton]; omega)
        have hK18 := (hK16.trans hK7 (by simp)).trans hK8 (fun i hi => by simp only [List.mem_singleton] at hi; exact .inr (by omega))
        have hRn : Rd w8 A6 (nums t6).length (nums t6) := by
          refine ⟨hO6.rd'.1, hO6.rd'.2.1, fun h0 => ?_⟩
          obtain ⟨ad, e, hadl, hc⟩ := hO6.rd'.2.2 h0
          have e2 : ∀ j, (ad.add j).block = ad.block := fun j => by unfold Addr.add; split <;> rfl
          refine ⟨ad, e, by omega, fun j hj => ?_⟩
          rw [← hc j hj]
          refine World.cell?_of_block ?_
          rw [hK8.same _ (by rw [e2]; omega) (by rw [e2]; simp only [List.mem_singleton]; omega)]
          exact hK7.same _ (by rw [e2]; omega) (by simp)
        refine st (y_assign rfl) rfl ?_
        refine l_nil ?_
        refine q_then ?_
        refine c_seq ?_
        refine c_region ?_
        refine st (y_move rfl) rfl ?_
        refine st (y_len rfl Tryd.underlying28) rfl ?_
        refine st (y_move rfl) rfl ?_
        refine st (y_len rfl Tryd.underlying28) rfl ?_
        refine st (y_min_i rfl rfl Tryd.underlying3) rfl ?_
        refine st (y_assign rfl) rfl ?_
        refine l_nil ?_
        refine q_then ?_
        refine c_seq ?_
        refine c_region ?_
        refine st (y_loadagg rfl agg25 us25 sz25 (by assumption) (by simp) (by rfl)) rfl ?_
        refine st (y_loadagg rfl agg25 us25 sz25 (by assumption) (by simp) (by rfl)) rfl ?_
        rw [show min (s.length : Int) (m.length : Int) = ((min s.length m.length : Nat) : Int) by omega]
        refine sc rfl rfl isfn20 (c_implCopyFull L A n c xs M A2 n2 c2 ys _ (hT.keep hK18 (by simp)) (hR.keep hK18 (by simp)) (hR2.keep hK18 (by simp)) (by have := ho.1; omega) (fun x h => by have := ho.2.2 x h; omega) (by have := ho2.1; omega) (fun x h => by have := ho2.2.2 x h; omega)) rfl ?_
        rintro _ w9 ⟨t9, A9, c9, rfl, ht9, hO9, hK9⟩
        rw [hs] at ht9
        subst ht9
        have hB88 := hB88.keep hK9 (by simp only [List.mem_cons, List.not_mem_nil, or_false, not_or, not_false_eq_true] <;> omega)
        have hK19 := hK18.trans hK9 (by simp)
        have hBl9 := hBl8.keep hK9 (by simp)
        have hsz9 := hK19.size
        have hlt88 := hB88.lt
        refine st (y_move rfl) rfl ?_
        refine st (y_extract rfl rfl) rfl ?_
        refine st (y_extract rfl rfl) rfl ?_
        refine st_alloc [.int .u64 0, .slice none 0 0] zv25 rfl rfl ?_
        intro b11 w10 hb11 hB11 hK10 hS10
        have hB88 := hB88.keep hK10 (by simp only [List.mem_cons, List.not_mem_nil, or_false, not_or, not_false_eq_true] <;> omega)
        refine st_storeagg rfl rfl (by simp [Value.oneCell']) sz25 rfl (by assumption) (by simp) rfl ?_
        intro w11 hB11' hK11 hS11
        have hB88 := hB88.keep hK11 (by simp only [List.mem_cons, List.not_mem_nil, or_false, not_or, not_false_eq_true] <;> omega)
        have hB12 : Blk w11 b11 25 [vU t9.length, .slice A9 (nums t9).length c9] := hB11'
        clear hB11 hB11'
        have hK20 := (hK19.trans hK10 (by simp)).trans hK11 (fun i hi => by simp only [List.mem_singleton] at hi; exact .inr (by omega))
        have hBl11 := (hBl9.keep hK10 (by simp)).keep hK11 (by have := hBl9.lt; simp only [List.mem_singleton]; omega)
        have hR9 : Rd w11 A9 (nums t9).length (nums t9) := by
          refine ⟨hO9.rd'.1, hO9.rd'.2.1, fun h0 => ?_⟩
          obtain ⟨ad, e, hadl, hc⟩ := hO9.rd'.2.2 h0
          have e2 : ∀ j, (ad.add j).block = ad.block := fun j => by unfold Addr.add; split <;> rfl
          refine ⟨ad, e, by omega, fun j hj => ?_⟩
          rw [← hc j hj]
          refine World.cell?_of_block ?_
          rw [hK11.same _ (by rw [e2]; omega) (by rw [e2]; simp only [List.mem_singleton]; omega)]
          exact hK10.same _ (by rw [e2]; omega) (by simp)
        have hszn := hK9.size
        have hRn11 := hRn.keep ((hK9.trans hK10 (by simp)).trans hK11 (fun i hi => by simp only [List.mem_singleton] at hi; exact .inr (by omega))) (by simp)
        refine st (y_assign rfl) rfl ?_
        refine l_nil ?_
        refine q_then ?_
        refine c_seq ?_
        refine c_seq ?_
        refine c_region ?_
        refine st (y_move rfl) rfl ?_
        refine st (y_move rfl) rfl ?_
        refine st (y_conv_iu rfl us3 Tryd.underlying22 rfl (by omega)) rfl ?_
        refine st_f (y_ne_u rfl rfl) (by omega) rfl ?_
        refine st (y_move rfl) rfl ?_
        refine stg rfl rfl (fa25_0 rfl) rfl ?_
        refine stg rfl rfl (y_loadb rfl one22 (by assumption) (by rfl)) rfl ?_
        refine stg rfl rfl (y_move rfl) rfl ?_
        refine stg rfl rfl (y_len rfl Tryd.underlying28) rfl ?_
        refine stg rfl rfl (y_conv_iu rfl us3 Tryd.underlying22 rfl (by omega)) rfl ?_
        refine stg_f rfl rfl (y_ne_u rfl rfl) (by omega) rfl ?_
        refine st (y_pickF rfl rfl) rfl ?_
        refine st (y_move rfl) rfl ?_
        refine stg rfl rfl (y_loadagg rfl agg25 us25 sz25 (by assumption) (by simp) (by rfl)) rfl ?_
        refine stg rfl rfl (y_move rfl) rfl ?_
        refine scg rfl rfl rfl rfl isfn11 (c_exactly _ _ _ _ _ _ _ _ _ _ hR9 (hBl11.rdB (by omega)) (by omega) rfl rfl) rfl ?_
        rintro _ w12 ⟨rfl, hK12⟩
        have hB88 := hB88.keep hK12 (by simp only [List.mem_cons, List.not_mem_nil, or_false, not_or, not_false_eq_true] <;> omega)
        have hK21 := hK20.trans hK12 (by simp)
        have hBl12 := hBl11.keep hK12 (by simp)
        refine stg rfl rfl (y_not rfl) rfl ?_
        refine st (y_pickF rfl rfl) rfl ?_
        refine l_nil ?_
        refine q_then ?_
        refine c_false rfl rfl ?_
        refine c_skip ?_
        refine q_then ?_
        refine c_seq ?_
        refine c_region ?_
        refine st (fa25_0 rfl) rfl ?_
        refine st (y_loadb rfl one22 (by assumption) (by rfl)) rfl ?_
        refine st (fa25_1 rfl) rfl ?_
        refine st (y_loadb rfl one23 (by assumption) (by rfl)) rfl ?_
        refine sc rfl rfl isfn21 (c_Made t6.length A6 _ c6 (nums t6) _ (hRn11.keep hK12 (by simp)) (by omega) (fun x h => by have := hnl x h; omega)) rfl ?_
        rintro _ w13 ⟨b13, rfl, hB13, hb13, hK13⟩
        rw [hmt] at hB13 ⊢
        have hK22 := hK21.trans hK13 (by simp)
        have hBl13 := hBl12.keep hK13 (by simp)
        have hT13 := hT.keep hK22 (by simp)
        refine st (y_assign rfl) rfl ?_
        refine l_nil ?_
        refine q_then ?_
        refine c_seq ?_
        refine c_seq ?_
        refine c_region ?_
        refine st (y_move rfl) rfl ?_
        refine st (y_move (v := vI ((0 : Nat) : Int)) rfl) rfl ?_
        refine l_nil ?_
        refine q_then ?_
        refine c_block ?_
        refine c_loop (fun k : Nat => [(5, vS b t9.length t9.length), (13, vS b13 t6.length t6.length), (72, vI ((min t9.length m.length : Nat) : Int)), (73, vI (k : Nat))]) (fun k w' => k ≤ min t9.length m.length ∧ Keep w13 w' []) (fun k => min t9.length m.length - k) 0 ?_ ?_ ?_
        · exact ⟨rfl, rfl, rfl, rfl, trivial⟩
        · exact ⟨Nat.zero_le _, Keep.refl _ _⟩
        · rintro k w14 ⟨hk, hK14⟩
          refine c_seq ?_
          refine c_region ?_
          refine st_if (y_lt_i rfl rfl) rfl (fun hlt14 => ?_) (fun hlt14 => ?_)
          · have hK14d := hK14.trans (Keep.drew w14 []) (by simp)
            have hB13d := hB13.keep hK14d (by simp)
            have hBld : Blk w14.drew b 4 (t9.map vB) := hBl13.keep hK14d (by simp)
            have hlow := copyS_low (s := t9) (t := m) (i := k) (by omega) (by omega)
            rw [← ht6] at hlow
            refine l_nil ?_
            refine q_then ?_
            refine c_seq ?_
            refine c_true rfl rfl ?_
            refine c_skip ?_
            refine q_then ?_
            refine c_seq ?_
            refine c_block ?_
            refine c_seq ?_
            refine c_region ?_
            refine st (y_move rfl) rfl ?_
            refine st (y_assign rfl) rfl ?_
            refine l_nil ?_
            refine q_then ?_
            refine c_seq ?_
            refine c_still mixed (by kernel_rfl) ?_
            refine ss (y_move rfl) rfl ?_
            refine ss (y_move rfl) rfl ?_
            refine ssc rfl rfl isfn22 (c_Has b13 t6 k _ hB13d (by omega)) rfl ?_
            refine ss (y_move rfl) rfl ?_
            refine ss (y_move rfl) rfl ?_
            first | refine ss (y_index0 rfl rfl Tryd.underlying28 sz4 (by omega)) rfl ?_ | refine ss (y_index rfl rfl Tryd.underlying28 sz4 (by omega)) rfl ?_ | refine ss (y_indexA rfl rfl Tryd.underlying28 sz4 (by omega)) rfl ?_
            first | refine ss (y_loadM (false) rfl one4 (by assumption) (by first | omega | (simp only [List.length_append, List.length_map, List.length_replicate, List.length_set, List.length_take, List.length_drop]; omega) | (simp; done))) rfl ?_ | refine ss (y_load rfl one4 (by assumption)) rfl ?_
            refine ss_f (y_ne_b rfl rfl Tryd.underlying4) ((by rw [hlow]; simp)) rfl ?_
            refine s_nil ?_
            refine q_then ?_
            refine c_false rfl rfl ?_
            refine c_skip ?_
            refine q_block ?_
            refine q_then ?_
            refine c_region ?_
            first | refine st (y_add_in (b := 1) rfl rfl (by omega)) rfl ?_ | refine st (y_add_i (b := 1) rfl rfl (by omega) (by omega)) rfl ?_
            refine st (y_move rfl) rfl ?_
            refine l_nil ?_
            exact q_round (k + 1) ⟨rfl, rfl, rfl, rfl, trivial⟩ ⟨by omega, hK14d⟩ (by omega)
          ·
            refine l_nil ?_
            refine q_then ?_
            refine c_seq ?_
            refine c_false rfl rfl ?_
            refine c_exit ?_
            refine q_then_exit ?_
            refine q_then_exit ?_
            refine q_block_hit ?_
            refine q_then ?_
            refine c_seq ?_
            refine c_region ?_
            refine sc rfl rfl isfn13 (c_alive _ (hT13.keep hK14 (by simp))) rfl ?_
            rintro _ w15 ⟨rfl, hK15'⟩
            refine st (y_assign rfl) rfl ?_
            refine l_nil ?_
            refine q_then ?_
            refine c_ret ?_
            refine q_end1 (.inl rfl) rfl rfl ?_
            exact ⟨_, rfl, rfl, (hK22.trans hK14 (by simp)).trans hK15' (by simp)⟩
      ·
        refine st (y_move rfl) rfl ?_
        refine st (y_extract rfl rfl) rfl ?_
        refine st (y_extract rfl rfl) rfl ?_
        refine st (y_extract rfl rfl) rfl ?_
        refine st (y_assign rfl) rfl ?_
        refine st (y_assign rfl) rfl ?_
        refine st (y_assign rfl) rfl ?_
        refine l_nil ?_
        refine q_then ?_
        refine c_seq ?_
        refine c_seq ?_
        refine c_region ?_
        refine st (y_move rfl) rfl ?_
        refine st (y_not rfl) rfl ?_
        refine l_nil ?_
        refine q_then ?_
        refine c_true rfl rfl ?_
        refine c_seq ?_
        refine c_region ?_
        refine st (y_assign rfl) rfl ?_
        refine l_nil ?_
        refine q_then ?_
        refine c_ret ?_
        refine q_then_ret ?_
        refine q_end1 (.inl rfl) rfl rfl ?_
        exact ⟨_, rfl, rfl, hK14.trans hK5 (by simp)⟩
  ·
    refine st (y_move rfl) rfl ?_
    refine sno rfl rfl rfl rfl ?_
    refine sno rfl rfl rfl rfl ?_
    refine sno rfl rfl rfl rfl ?_
    refine st (y_pickT rfl rfl) rfl ?_
    refine l_nil ?_
    refine q_then ?_
    refine c_true rfl rfl ?_
    refine c_seq ?_
    refine c_region ?_
    refine st (y_assign rfl) rfl ?_
    refine l_nil ?_
    refine q_then ?_
    refine c_ret ?_
    refine q_then_ret ?_
    refine q_end1 (.inl rfl) rfl rfl ?_
    exact ⟨_, rfl, rfl, hK13⟩

end Go.Proofs.YtepmbglaalkbdaaDoor

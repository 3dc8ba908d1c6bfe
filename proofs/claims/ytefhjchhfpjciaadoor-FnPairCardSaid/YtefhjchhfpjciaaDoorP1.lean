/- Two sets joined, beside and in place: the package's functions, each by its contract. -/
import Derived.Test.YtefhjchhfpjciaaDoorG4
import Derived.Test.YtefhjchhfpjciaaDoorK11
import Derived.Test.YtefhjchhfpjciaaDoorL24
set_option linter.unusedVariables false
set_option linter.unusedSimpArgs false
set_option maxRecDepth 100000
set_option maxHeartbeats 2000000
namespace Go.Proofs.YtefhjchhfpjciaaDoor
open Go Go.RowKit

theorem one_mapU (xs : List Nat) : ∀ v ∈ xs.map vU, v.oneCell' = true := by
  intro v hv; obtain ⟨x, _, rfl⟩ := List.mem_map.1 hv; rfl
theorem BW.fin {w : World} {p q : Nat} {u : List Bool} {W tl : List Nat} {L : Nat} (h : BW w p q L W tl) (hL : L = u.length) (hl : W.length = nW u.length) (hw : ∀ j, j < W.length → W.getD j 0 = wordAt u j) : BSet w p q u := by
  have e := pack_words hl hw
  subst e; subst hL
  exact ⟨tl, h⟩
theorem ntE2 (a : Nat) : nt a = nt' a := rfl
theorem nt0 : nt' 0 = 2 ^ 64 - 1 := by decide

theorem c_pNull (p : Nat) (w : World) : Cal Tryd.prog 29 [vP p] w fun v w' => v = vT [] ∧ w = w' := by
  refine go_in' Tryd.func29 rfl Tryd.ntmps29 (Nat.le_of_ble_eq_true rfl) ?_
  refine c_seq ?_
  refine c_region ?_
  refine st (y_move rfl) rfl ?_
  refine st (y_pnil_eq rfl rfl pte42) rfl ?_
  refine l_nil ?_
  refine q_then ?_
  refine c_false rfl rfl ?_
  refine c_skip ?_
  refine q_end0 (.inr rfl) rfl ?_
  exact ⟨_, rfl, rfl, rfl⟩

theorem c_sortL (p q p2 q2 : Nat) (s t : List Bool) (w : World) (hB : BSet w p q s) (hB2 : BSet w p2 q2 t) (hs : s.length ≤ 100001) (ht : t.length ≤ 100001) :
    Cal Tryd.prog 34 [vP p, vP p2] w fun v w' => ∃ a qa sa b qb sb, v = vT [vP a, vP b] ∧ BSet w' a qa sa ∧ BSet w' b qb sb ∧ sa.length ≤ sb.length ∧ ((sa = s ∧ sb = t) ∨ (sa = t ∧ sb = s)) ∧ Keep w w' [] := by
  have hBd := hB.keep (Keep.drew w []) (by simp) (by simp)
  have hB2d := hB2.keep (Keep.drew w []) (by simp) (by simp)
  obtain ⟨tl, hB⟩ := hB
  obtain ⟨tl2, hB2⟩ := hB2
  have hst := hB.st
  have hst2 := hB2.st
  refine go_in' Tryd.func34 rfl Tryd.ntmps34 (Nat.le_of_ble_eq_true rfl) ?_
  refine c_seq ?_
  refine c_region ?_
  refine st (y_assign rfl) rfl ?_
  refine st (y_assign rfl) rfl ?_
  refine l_nil ?_
  refine q_then ?_
  refine c_seq ?_
  refine c_seq ?_
  refine c_still mixed (by kernel_rfl) ?_
  have hst := hst.drew
  have hst2 := hst2.drew
  refine ss (y_move rfl) rfl ?_
  refine ss (y_nil rfl) rfl ?_
  refine ss (fa58_0 rfl) rfl ?_
  refine ss (y_loadb rfl one22 (by assumption) (by rfl)) rfl ?_
  refine ss (y_move rfl) rfl ?_
  refine ss (y_nil rfl) rfl ?_
  refine ss (fa58_0 rfl) rfl ?_
  refine ss (y_loadb rfl one22 (by assumption) (by rfl)) rfl ?_
  refine ss_if (y_le_u rfl rfl) rfl (fun hle => ?_) (fun hle => ?_)
  · refine s_nil ?_
    refine q_then ?_
    refine c_true rfl rfl ?_
    refine c_region ?_
    refine st (y_move rfl) rfl ?_
    refine st (y_move rfl) rfl ?_
    refine st (y_assign rfl) rfl ?_
    refine st (y_assign rfl) rfl ?_
    refine l_nil ?_
    refine q_then ?_
    refine c_ret ?_
    refine q_end2 (.inl rfl) rfl rfl rfl ?_
    exact ⟨_, rfl, p, q, s, p2, q2, t, rfl, hBd, hB2d, hle, .inl ⟨rfl, rfl⟩, Keep.drew _ _⟩
  ·
    refine s_nil ?_
    refine q_then ?_
    refine c_false rfl rfl ?_
    refine c_region ?_
    refine st (y_move rfl) rfl ?_
    refine st (y_move rfl) rfl ?_
    refine st (y_assign rfl) rfl ?_
    refine st (y_assign rfl) rfl ?_
    refine l_nil ?_
    refine q_then ?_
    refine c_ret ?_
    refine q_end2 (.inl rfl) rfl rfl rfl ?_
    exact ⟨_, rfl, p2, q2, t, p, q, s, rfl, hB2d, hBd, by omega, .inr ⟨rfl, rfl⟩, Keep.drew _ _⟩

theorem c_Clone (p q : Nat) (s : List Bool) (w : World) (hB : BSet w p q s) (hs : s.length ≤ 10000) :
    Cal Tryd.prog 35 [vP p] w fun v w' => ∃ p2 q2, v = vP p2 ∧ w.heap.size ≤ p2 ∧ w.heap.size ≤ q2 ∧ BSet w' p2 q2 s ∧ Keep w w' [] := by
  obtain ⟨tl, hW⟩ := hB
  have hls := pack_length s
  have hns : nW s.length ≤ 200 := by unfold nW; omega
  have hst := hW.st
  refine go_in' Tryd.func35 rfl Tryd.ntmps35 (Nat.le_of_ble_eq_true rfl) ?_
  refine c_seq ?_
  refine c_region ?_
  refine st (y_assign rfl) rfl ?_
  refine l_nil ?_
  refine q_then ?_
  refine c_seq ?_
  refine c_region ?_
  refine st (y_move rfl) rfl ?_
  refine st (y_nil rfl) rfl ?_
  refine st (fa58_0 rfl) rfl ?_
  refine st (y_loadb rfl one22 (by assumption) (by rfl)) rfl ?_
  refine sc rfl rfl isfn36 (c_New s.length (by omega) _) rfl ?_
  rintro _ w1 ⟨p2, q2, rfl, hp2, hq2, hN, hK1⟩
  have hW1 := hW.keep hK1 (by simp) (by simp)
  clear hst
  have hst := hW1.st
  refine st (y_assign rfl) rfl ?_
  refine l_nil ?_
  refine q_then ?_
  refine c_seq ?_
  refine c_seq ?_
  refine c_region ?_
  refine st (y_move rfl) rfl ?_
  refine st (y_nil rfl) rfl ?_
  refine st (fa58_1 rfl) rfl ?_
  refine st (y_loadb rfl one56 (by assumption) (by rfl)) rfl ?_
  refine st (y_snil_ne rfl rfl Tryd.underlying56) rfl ?_
  refine l_nil ?_
  refine q_then ?_
  refine c_true rfl rfl ?_
  have hWd := hW1.drew
  have hNd := hN.drew
  have hst1 := hWd.st
  have hst2 := hNd.st
  refine c_tail 8 mixed (by kernel_rfl) ?_
  refine ss (y_move rfl) rfl ?_
  refine ss (y_nil rfl) rfl ?_
  refine ss (fa58_1 rfl) rfl ?_
  refine ss (y_loadb rfl one56 (by assumption) (by rfl)) rfl ?_
  refine ss (y_move rfl) rfl ?_
  refine ss (y_nil rfl) rfl ?_
  refine ss (fa58_1 rfl) rfl ?_
  refine ss (y_loadb rfl one56 (by assumption) (by rfl)) rfl ?_
  refine s_nil ?_
  show wpL _ _ _ _ _ _ _ _
  refine st_copy rfl rfl Tryd.underlying56 sz60 hNd.wd hWd.wd (by simp; omega) (by simp; omega) (one_mapU _) rfl ?_
  intro w3 hwd3 hK3 hS3
  have hmin : min (pack s).length (List.replicate (nW s.length) 0).length = (pack s).length := by simp; omega
  have e3 : over ((List.replicate (nW s.length) 0 ++ []).map vU) 0 ((((pack s ++ tl).map vU).drop 0).take (min (pack s).length (List.replicate (nW s.length) 0).length)) = (pack s ++ []).map vU := by
    rw [hmin, List.drop_zero, ← List.map_take, List.take_left' rfl, List.append_nil, List.append_nil, over_all (by simp; omega)]
  rw [e3] at hwd3
  have hne := hN.ne
  refine l_nil ?_
  refine q_then ?_
  refine c_seq ?_
  refine c_region ?_
  refine st (y_move rfl) rfl ?_
  refine st (y_assign rfl) rfl ?_
  refine l_nil ?_
  refine q_then ?_
  refine c_ret ?_
  refine q_end1 (.inl rfl) rfl rfl ?_
  refine ⟨_, rfl, p2, q2, rfl, hp2, hq2, ⟨[], ?_, hwd3, hne, pack_lt s, by simp; omega⟩, (hK1.trans (Keep.drew w1 []) (by simp)).trans hK3 (fun i hi => by simp only [List.mem_singleton] at hi; subst hi; exact .inr hq2)⟩
  have h := hst2.keep hK3 (by simpa using hne)
  rw [List.length_replicate] at h
  rw [hls]
  exact h

theorem c_UnionB (p q p2 q2 : Nat) (s t : List Bool) (w : World) (hB : BSet w p q s) (hB2 : BSet w p2 q2 t) (hs : s.length ≤ 10000) (ht : t.length ≤ 10000) :
    Cal Tryd.prog 20 [vP p, vP p2] w fun v w' => ∃ p3 q3 u, v = vP p3 ∧ w.heap.size ≤ p3 ∧ w.heap.size ≤ q3 ∧ BSet w' p3 q3 u ∧ nums u = nums (joined gOr s t) ∧ u.length ≤ max s.length t.length ∧ Keep w w' [] := by
  refine go_in' Tryd.func20 rfl Tryd.ntmps20 (Nat.le_of_ble_eq_true rfl) ?_
  refine c_seq ?_
  refine c_region ?_
  refine st (y_assign rfl) rfl ?_
  refine l_nil ?_
  refine q_then ?_
  refine c_seq ?_
  refine c_region ?_
  refine st (y_move rfl) rfl ?_
  refine sc rfl rfl isfn29 (c_pNull p _) rfl ?_
  rintro _ _ ⟨rfl, rfl⟩
  refine l_nil ?_
  refine q_then ?_
  refine c_seq ?_
  refine c_region ?_
  refine st (y_move rfl) rfl ?_
  refine sc rfl rfl isfn29 (c_pNull p2 _) rfl ?_
  rintro _ _ ⟨rfl, rfl⟩
  refine l_nil ?_
  refine q_then ?_
  refine c_seq ?_
  refine c_region ?_
  refine st (y_move rfl) rfl ?_
  refine st (y_move rfl) rfl ?_
  refine sc rfl rfl isfn34 (c_sortL p q p2 q2 s t _ hB hB2 (by omega) (by omega)) rfl ?_
  rintro _ w1 ⟨a, qa, sa, b, qb, sb, rfl, hBa, hBb, hle, hor, hK1⟩
  have hjn : joined gOr s t = joined gOr sa sb := by
    rcases hor with ⟨rfl, rfl⟩ | ⟨rfl, rfl⟩
    · rfl
    · exact joined_comm (g := gOr) (fun a b => by cases a <;> cases b <;> rfl) _ _
  have hmx : sa.length ≤ max s.length t.length ∧ sb.length ≤ max s.length t.length := by rcases hor with ⟨rfl, rfl⟩ | ⟨rfl, rfl⟩ <;> omega
  rw [hjn]
  clear hB hB2 hor hjn
  have hsz1 := hK1.size
  have hna := pack_length sa
  have hnb := pack_length sb
  have hnab : nW sa.length ≤ nW sb.length := nW_mono hle
  have hnb2 : nW sb.length ≤ 200 := by unfold nW; omega
  refine st (y_move rfl) rfl ?_
  refine st (y_extract rfl rfl) rfl ?_
  refine st (y_extract rfl rfl) rfl ?_
  refine st (y_assign rfl) rfl ?_
  refine st (y_assign rfl) rfl ?_
  refine l_nil ?_
  refine q_then ?_
  refine c_seq ?_
  refine c_region ?_
  refine st (y_move rfl) rfl ?_
  refine sc rfl rfl isfn35 (c_Clone b qb sb _ hBb (by omega)) rfl ?_
  rintro _ w2 ⟨p3, q3, rfl, hp3, hq3, hR, hK2⟩
  have hBa2 := hBa.keep hK2 (by simp) (by simp)
  have hBb2 := hBb.keep hK2 (by simp) (by simp)
  have hlts := hBa.lts
  have hlts2 := hBb.lts
  obtain ⟨tla, hWa⟩ := hBa2
  obtain ⟨tlb, hWb⟩ := hBb2
  obtain ⟨tlr, hWr⟩ := hR
  have hsta := hWa.st
  obtain ⟨hul, hub⟩ := joined_in (g := gOr) rfl sa sb
  have huw := fun k => joined_word bw_or hub k
  refine st (y_assign rfl) rfl ?_
  refine l_nil ?_
  refine q_then ?_
  refine c_seq ?_
  refine c_seq ?_
  refine c_region ?_
  refine st (y_move rfl) rfl ?_
  refine st (y_nil rfl) rfl ?_
  refine st (fa58_1 rfl) rfl ?_
  refine st (y_loadb rfl one56 (by assumption) (by rfl)) rfl ?_
  refine st (y_len rfl Tryd.underlying56) rfl ?_
  refine st (y_move (v := vI ((0 : Nat) : Int)) rfl) rfl ?_
  refine l_nil ?_
  refine q_then ?_
  refine c_block ?_
  refine c_loop (fun x : Nat × List Nat => [(1, vP b), (4, vP p3), (22, vS qa (pack sa).length ((pack sa).length + tla.length)), (23, vI ((pack sa).length : Nat)), (24, vI (x.1 : Nat))]) (fun x w' => x.1 ≤ (pack sa).length ∧ BW w' p3 q3 sb.length x.2 tlr ∧ x.2.length = nW sb.length ∧ (∀ j, x.2.getD j 0 = if j < x.1 then wordAt (joined gOr sa sb) j else wordAt sb j) ∧ Keep w2 w' [q3]) (fun x => (pack sa).length - x.1) (0, pack sb) ?_ ?_ ?_
  · exact ⟨rfl, rfl, rfl, rfl, rfl, trivial⟩
  · exact ⟨Nat.zero_le _, hWr, hnb, fun j => by simp only; rw [pack_getD, if_neg (by omega)], Keep.refl _ _⟩
  · rintro ⟨k, W⟩ w3 ⟨hk, hW3, hWl, hWj, hK3⟩
    simp only at hk hW3 hWl hWj hK3 ⊢
    have hWa3 := hWa.keep hK3 (by simp only [List.mem_singleton]; omega) (by simp only [List.mem_singleton]; omega)
    have hWb3 := hWb.keep hK3 (by simp only [List.mem_singleton]; omega) (by simp only [List.mem_singleton]; omega)
    have hwda := hWa3.wd
    refine c_seq ?_
    refine c_region ?_
    refine st_if (y_lt_i rfl rfl) rfl (fun hlt => ?_) (fun hlt => ?_)
    · have hga : (pack sa ++ tla).getD k 0 = wordAt sa k := by rw [getD_app (by omega), pack_getD]
      have hgb : (pack sb ++ tlb).getD k 0 = wordAt sb k := by rw [getD_app (by omega), pack_getD]
      have hla := wordAt_lt sa k
      have hlb := wordAt_lt sb k
      have hW3d := hW3.drew
      have hWb3d := hWb3.drew
      refine l_nil ?_
      refine q_then ?_
      refine c_seq ?_
      refine c_true rfl rfl ?_
      refine c_skip ?_
      refine q_then ?_
      refine c_seq ?_
      refine c_block ?_
      refine c_seq ?_
      refine c_region ?_
      refine st (y_move rfl) rfl ?_
      first | refine st (y_index0 rfl rfl Tryd.underlying56 sz60 (by omega)) rfl ?_ | refine st (y_index rfl rfl Tryd.underlying56 sz60 (by omega)) rfl ?_ | refine st (y_indexA rfl rfl Tryd.underlying56 sz60 (by omega)) rfl ?_
      first | refine st (y_loadM (0) rfl one60 (by assumption) (by first | omega | (simp only [List.length_append, List.length_map, List.length_replicate, List.length_set, List.length_take, List.length_drop]; omega) | (simp; done))) rfl ?_ | refine st (y_load rfl one60 (by assumption)) rfl ?_
      refine st (y_assign rfl) rfl ?_
      refine st (y_assign rfl) rfl ?_
      refine l_nil ?_
      refine q_then ?_
      rw [hga]
      have hst3 := hW3d.st
      have hstb3 := hWb3d.st
      have hwdb3 := hWb3d.wd
      have hwd3 := hW3d.wd
      refine c_tail 15 mixed (by kernel_rfl) ?_
      refine ss (y_move rfl) rfl ?_
      refine ss (y_nil rfl) rfl ?_
      refine ss (fa58_1 rfl) rfl ?_
      refine ss (y_loadb rfl one56 (by assumption) (by rfl)) rfl ?_
      refine ss (y_move rfl) rfl ?_
      refine ss (y_move rfl) rfl ?_
      refine ss (y_move rfl) rfl ?_
      refine ss (y_nil rfl) rfl ?_
      refine ss (fa58_1 rfl) rfl ?_
      refine ss (y_loadb rfl one56 (by assumption) (by rfl)) rfl ?_
      refine ss (y_move rfl) rfl ?_
      first | refine ss (y_index0 rfl rfl Tryd.underlying56 sz60 (by omega)) rfl ?_ | refine ss (y_index rfl rfl Tryd.underlying56 sz60 (by omega)) rfl ?_ | refine ss (y_indexA rfl rfl Tryd.underlying56 sz60 (by omega)) rfl ?_
      first | refine ss (y_loadM (0) rfl one60 (by assumption) (by first | omega | (simp only [List.length_append, List.length_map, List.length_replicate, List.length_set, List.length_take, List.length_drop]; omega) | (simp; done))) rfl ?_ | refine ss (y_load rfl one60 (by assumption)) rfl ?_
      rw [hgb]
      refine ss (y_or rfl rfl (by first | omega | assumption | (repeat (first | assumption | omega | decide | exact shl_lt64 _ _ | apply and_lt64 | apply or_lt64 | apply xor_lt64 | apply nt_lt | apply shr_lt64 | apply getD_lt64))) (by first | omega | assumption | (repeat (first | assumption | omega | decide | exact shl_lt64 _ _ | apply and_lt64 | apply or_lt64 | apply xor_lt64 | apply nt_lt | apply shr_lt64 | apply getD_lt64)))) rfl ?_
      first | refine ss (y_index0 rfl rfl Tryd.underlying56 sz60 (by omega)) rfl ?_ | refine ss (y_index rfl rfl Tryd.underlying56 sz60 (by omega)) rfl ?_ | refine ss (y_indexA rfl rfl Tryd.underlying56 sz60 (by omega)) rfl ?_
      refine s_nil ?_
      show wpL _ _ _ _ _ _ _ _
      refine st_storeM vU rfl rfl rfl sz60 (by assumption) (by first | omega | (simp only [List.length_append, List.length_map, List.length_replicate, List.length_set, List.length_take, List.length_drop]; omega)) rfl ?_
      intro w4 hw4 hK4 hS4
      refine l_nil ?_
      refine q_block ?_
      refine q_then ?_
      refine c_region ?_
      first | refine st (y_add_in (b := 1) rfl rfl (by omega)) rfl ?_ | refine st (y_add_i (b := 1) rfl rfl (by omega) (by omega)) rfl ?_
      refine st (y_move rfl) rfl ?_
      refine l_nil ?_
      have hW4 := hW3d.store hw4 hK4 (bw_or.2 _ _ hla hlb) (by omega)
      refine q_round (k + 1, _) ⟨rfl, rfl, rfl, rfl, rfl, trivial⟩ ⟨by simp only; omega, hW4, by simpa using hWl, fun j => ?_, (hK3.trans (Keep.drew w3 []) (by simp)).trans hK4 (fun i hi => .inl hi)⟩ (by simp only; omega)
      simp only
      rw [set_getD_nat _ _ _ _ (by omega), hWj]
      by_cases h1 : j = k
      · rw [if_pos h1, if_pos (by omega), h1, huw]
      · rw [if_neg h1]
        by_cases h2 : j < k
        · rw [if_pos h2, if_pos (by omega)]
        · rw [if_neg h2, if_neg (by omega)]
    ·
      have hke : k = (pack sa).length := by omega
      refine l_nil ?_
      refine q_then ?_
      refine c_seq ?_
      refine c_false rfl rfl ?_
      refine c_exit ?_
      refine q_then_exit ?_
      refine q_then_exit ?_
      refine q_block_hit ?_
      refine q_then ?_
      refine c_ret ?_
      refine q_end1 (.inl rfl) rfl rfl ?_
      refine ⟨_, rfl, p3, q3, joined gOr sa sb, rfl, by omega, by omega, hW3.fin (by rw [hul]; omega) (by rw [hWl, hul, Nat.max_eq_right hle]) (fun j hj => ?_), rfl, by omega, (hK1.trans hK2 (by simp)).trans hK3 (fun i hi => by simp only [List.mem_singleton] at hi; subst hi; exact .inr (by omega))⟩
      rw [hWj]
      by_cases h1 : j < k
      · rw [if_pos h1]
      · rw [if_neg h1, huw, past_word sa j (by omega)]
        exact (Nat.zero_or _).symm

theorem c_IntersectionB (p q p2 q2 : Nat) (s t : List Bool) (w : World) (hB : BSet w p q s) (hB2 : BSet w p2 q2 t) (hs : s.length ≤ 10000) (ht : t.length ≤ 10000) :
    Cal Tryd.prog 21 [vP p, vP p2] w fun v w' => ∃ p3 q3 u, v = vP p3 ∧ w.heap.size ≤ p3 ∧ w.heap.size ≤ q3 ∧ BSet w' p3 q3 u ∧ nums u = nums (joined gAnd s t) ∧ u.length ≤ max s.length t.length ∧ Keep w w' [] := by
  refine go_in' Tryd.func21 rfl Tryd.ntmps21 (Nat.le_of_ble_eq_true rfl) ?_
  refine c_seq ?_
  refine c_region ?_
  refine st (y_assign rfl) rfl ?_
  refine l_nil ?_
  refine q_then ?_
  refine c_seq ?_
  refine c_region ?_
  refine st (y_move rfl) rfl ?_
  refine sc rfl rfl isfn29 (c_pNull p _) rfl ?_
  rintro _ _ ⟨rfl, rfl⟩
  refine l_nil ?_
  refine q_then ?_
  refine c_seq ?_
  refine c_region ?_
  refine st (y_move rfl) rfl ?_
  refine sc rfl rfl isfn29 (c_pNull p2 _) rfl ?_
  rintro _ _ ⟨rfl, rfl⟩
  refine l_nil ?_
  refine q_then ?_
  refine c_seq ?_
  refine c_region ?_
  refine st (y_move rfl) rfl ?_
  refine st (y_move rfl) rfl ?_
  refine sc rfl rfl isfn34 (c_sortL p q p2 q2 s t _ hB hB2 (by omega) (by omega)) rfl ?_
  rintro _ w1 ⟨a, qa, sa, b, qb, sb, rfl, hBa, hBb, hle, hor, hK1⟩
  have hjn : joined gAnd s t = joined gAnd sa sb := by
    rcases hor with ⟨rfl, rfl⟩ | ⟨rfl, rfl⟩
    · rfl
    · exact joined_comm (g := gAnd) (fun a b => by cases a <;> cases b <;> rfl) _ _
  have hmx : sa.length ≤ max s.length t.length ∧ sb.length ≤ max s.length t.length := by rcases hor with ⟨rfl, rfl⟩ | ⟨rfl, rfl⟩ <;> omega
  rw [hjn]
  clear hB hB2 hor hjn
  have hsz1 := hK1.size
  have hna := pack_length sa
  have hnb := pack_length sb
  have hnab : nW sa.length ≤ nW sb.length := nW_mono hle
  have hnb2 : nW sb.length ≤ 200 := by unfold nW; omega
  have hlts := hBa.lts
  have hlts2 := hBb.lts
  obtain ⟨tla, hWa0⟩ := hBa
  obtain ⟨tlb, hWb0⟩ := hBb
  have hsta0 := hWa0.st
  refine st (y_move rfl) rfl ?_
  refine st (y_extract rfl rfl) rfl ?_
  refine st (y_extract rfl rfl) rfl ?_
  refine st (y_assign rfl) rfl ?_
  refine st (y_assign rfl) rfl ?_
  refine l_nil ?_
  refine q_then ?_
  refine c_seq ?_
  refine c_region ?_
  refine st (y_move rfl) rfl ?_
  refine st (y_nil rfl) rfl ?_
  refine st (fa58_0 rfl) rfl ?_
  refine st (y_loadb rfl one22 (by assumption) (by rfl)) rfl ?_
  refine sc rfl rfl isfn36 (c_New sa.length (by omega) _) rfl ?_
  rintro _ w2 ⟨p3, q3, rfl, hp3, hq3, hWr, hK2⟩
  have hWa := hWa0.keep hK2 (by simp) (by simp)
  have hWb := hWb0.keep hK2 (by simp) (by simp)
  have hsta := hWa.st
  have hul := firstS_length gAnd sa sb
  have hub := firstS_getD gAnd_f sa sb
  have huw := fun k => joined_word bw_and hub k
  refine st (y_assign rfl) rfl ?_
  refine l_nil ?_
  refine q_then ?_
  refine c_seq ?_
  refine c_seq ?_
  refine c_region ?_
  refine st (y_move rfl) rfl ?_
  refine st (y_nil rfl) rfl ?_
  refine st (fa58_1 rfl) rfl ?_
  refine st (y_loadb rfl one56 (by assumption) (by rfl)) rfl ?_
  refine st (y_len rfl Tryd.underlying56) rfl ?_
  refine st (y_move (v := vI ((0 : Nat) : Int)) rfl) rfl ?_
  refine l_nil ?_
  refine q_then ?_
  refine c_block ?_
  refine c_loop (fun x : Nat × List Nat => [(1, vP b), (4, vP p3), (25, vS qa (pack sa).length ((pack sa).length + tla.length)), (26, vI ((pack sa).length : Nat)), (27, vI (x.1 : Nat))]) (fun x w' => x.1 ≤ (pack sa).length ∧ BW w' p3 q3 sa.length x.2 [] ∧ x.2.length = nW sa.length ∧ (∀ j, j < x.1 → x.2.getD j 0 = wordAt (firstS gAnd sa sb) j) ∧ Keep w2 w' [q3]) (fun x => (pack sa).length - x.1) (0, List.replicate (nW sa.length) 0) ?_ ?_ ?_
  · exact ⟨rfl, rfl, rfl, rfl, rfl, trivial⟩
  · exact ⟨Nat.zero_le _, hWr, by simp, fun j h => by simp only at h; omega, Keep.refl _ _⟩
  · rintro ⟨k, W⟩ w3 ⟨hk, hW3, hWl, hWj, hK3⟩
    simp only at hk hW3 hWl hWj hK3 ⊢
    have hWa3 := hWa.keep hK3 (by simp only [List.mem_singleton]; omega) (by simp only [List.mem_singleton]; omega)
    have hWb3 := hWb.keep hK3 (by simp only [List.mem_singleton]; omega) (by simp only [List.mem_singleton]; omega)
    have hwda := hWa3.wd
    refine c_seq ?_
    refine c_region ?_
    refine st_if (y_lt_i rfl rfl) rfl (fun hlt => ?_) (fun hlt => ?_)
    · have hga : (pack sa ++ tla).getD k 0 = wordAt sa k := by rw [getD_app (by omega), pack_getD]
      have hgb : (pack sb ++ tlb).getD k 0 = wordAt sb k := by rw [getD_app (by omega), pack_getD]
      have hla := wordAt_lt sa k
      have hlb := wordAt_lt sb k
      have hW3d := hW3.drew
      have hWb3d := hWb3.drew
      refine l_nil ?_
      refine q_then ?_
      refine c_seq ?_
      refine c_true rfl rfl ?_
      refine c_skip ?_
      refine q_then ?_
      refine c_seq ?_
      refine c_block ?_
      refine c_seq ?_
      refine c_region ?_
      refine st (y_move rfl) rfl ?_
      first | refine st (y_index0 rfl rfl Tryd.underlying56 sz60 (by omega)) rfl ?_ | refine st (y_index rfl rfl Tryd.underlying56 sz60 (by omega)) rfl ?_ | refine st (y_indexA rfl rfl Tryd.underlying56 sz60 (by omega)) rfl ?_
      first | refine st (y_loadM (0) rfl one60 (by assumption) (by first | omega | (simp only [List.length_append, List.length_map, List.length_replicate, List.length_set, List.length_take, List.length_drop]; omega) | (simp; done))) rfl ?_ | refine st (y_load rfl one60 (by assumption)) rfl ?_
      refine st (y_assign rfl) rfl ?_
      refine st (y_assign rfl) rfl ?_
      refine l_nil ?_
      refine q_then ?_
      rw [hga]
      have hst3 := hW3d.st
      have hstb3 := hWb3d.st
      have hwdb3 := hWb3d.wd
      have hwd3 := hW3d.wd
      refine c_tail 15 mixed (by kernel_rfl) ?_
      refine ss (y_move rfl) rfl ?_
      refine ss (y_nil rfl) rfl ?_
      refine ss (fa58_1 rfl) rfl ?_
      refine ss (y_loadb rfl one56 (by assumption) (by rfl)) rfl ?_
      refine ss (y_move rfl) rfl ?_
      refine ss (y_move rfl) rfl ?_
      refine ss (y_move rfl) rfl ?_
      refine ss (y_nil rfl) rfl ?_
      refine ss (fa58_1 rfl) rfl ?_
      refine ss (y_loadb rfl one56 (by assumption) (by rfl)) rfl ?_
      refine ss (y_move rfl) rfl ?_
      first | refine ss (y_index0 rfl rfl Tryd.underlying56 sz60 (by omega)) rfl ?_ | refine ss (y_index rfl rfl Tryd.underlying56 sz60 (by omega)) rfl ?_ | refine ss (y_indexA rfl rfl Tryd.underlying56 sz60 (by omega)) rfl ?_
      first | refine ss (y_loadM (0) rfl one60 (by assumption) (by first | omega | (simp only [List.length_append, List.length_map, List.length_replicate, List.length_set, List.length_take, List.length_drop]; omega) | (simp; done))) rfl ?_ | refine ss (y_load rfl one60 (by assumption)) rfl ?_
      rw [hgb]
      refine ss (y_and rfl rfl (by first | omega | assumption | (repeat (first | assumption | omega | decide | exact shl_lt64 _ _ | apply and_lt64 | apply or_lt64 | apply xor_lt64 | apply nt_lt | apply shr_lt64 | apply getD_lt64))) (by first | omega | assumption | (repeat (first | assumption | omega | decide | exact shl_lt64 _ _ | apply and_lt64 | apply or_lt64 | apply xor_lt64 | apply nt_lt | apply shr_lt64 | apply getD_lt64)))) rfl ?_
      first | refine ss (y_index0 rfl rfl Tryd.underlying56 sz60 (by omega)) rfl ?_ | refine ss (y_index rfl rfl Tryd.underlying56 sz60 (by omega)) rfl ?_ | refine ss (y_indexA rfl rfl Tryd.underlying56 sz60 (by omega)) rfl ?_
      refine s_nil ?_
      show wpL _ _ _ _ _ _ _ _
      refine st_storeM vU rfl rfl rfl sz60 (by assumption) (by first | omega | (simp only [List.length_append, List.length_map, List.length_replicate, List.length_set, List.length_take, List.length_drop]; omega)) rfl ?_
      intro w4 hw4 hK4 hS4
      refine l_nil ?_
      refine q_block ?_
      refine q_then ?_
      refine c_region ?_
      first | refine st (y_add_in (b := 1) rfl rfl (by omega)) rfl ?_ | refine st (y_add_i (b := 1) rfl rfl (by omega) (by omega)) rfl ?_
      refine st (y_move rfl) rfl ?_
      refine l_nil ?_
      have hW4 := hW3d.store hw4 hK4 (bw_and.2 _ _ hla hlb) (by omega)
      refine q_round (k + 1, _) ⟨rfl, rfl, rfl, rfl, rfl, trivial⟩ ⟨by simp only; omega, hW4, by simpa using hWl, fun j hj => ?_, (hK3.trans (Keep.drew w3 []) (by simp)).trans hK4 (fun i hi => .inl hi)⟩ (by simp only; omega)
      simp only at hj ⊢
      rw [set_getD_nat _ _ _ _ (by omega)]
      by_cases h1 : j = k
      · rw [if_pos h1, h1, huw]
      · rw [if_neg h1, hWj j (by omega)]
    ·
      have hke : k = (pack sa).length := by omega
      refine l_nil ?_
      refine q_then ?_
      refine c_seq ?_
      refine c_false rfl rfl ?_
      refine c_exit ?_
      refine q_then_exit ?_
      refine q_then_exit ?_
      refine q_block_hit ?_
      refine q_then ?_
      refine c_ret ?_
      refine q_end1 (.inl rfl) rfl rfl ?_
      exact ⟨_, rfl, p3, q3, firstS gAnd sa sb, rfl, by omega, by omega, hW3.fin hul.symm (by rw [hWl, hul]) (fun j hj => hWj j (by omega)), firstS_nums gAnd_f sa sb, by omega, (hK1.trans hK2 (by simp)).trans hK3 (fun i hi => by simp only [List.mem_singleton] at hi; subst hi; exact .inr (by omega))⟩

end Go.Proofs.YtefhjchhfpjciaaDoor

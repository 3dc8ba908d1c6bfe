/- DumpAsBits and the thin package's Dump; each by its contract. -/
import Derived.Test.YtoheaoihiecgdaaDoorQ3
import Derived.Test.YtoheaoihiecgdaaDoorT2
import Derived.Test.YtoheaoihiecgdaaDoorB1
import Derived.Test.YtoheaoihiecgdaaDoorK16
import Derived.Test.YtoheaoihiecgdaaDoorL26
set_option linter.unusedVariables false
set_option linter.unusedSimpArgs false
set_option maxRecDepth 100000
set_option maxHeartbeats 1000000
namespace Go.Proofs.YtoheaoihiecgdaaDoor
open Go Go.RowKit

theorem c_DumpAsBits (p q : Nat) (s : List Bool) (w : World) (hB : BSet w p q s) (hs : s.length ≤ 6001) :
    Cal Tryd.prog 16 [vP p] w fun v w' => v = .string (str (digT (pack s) (pack s).length 0)) ∧ Keep w w' [] := by
  obtain ⟨tl, hB⟩ := hB
  have hlen := pack_length s
  have hnl : (pack s).length ≤ 200 := by rw [pack_length]; unfold nW; omega
  obtain ⟨N, hN⟩ : ∃ N, (pack s).length = N := ⟨_, rfl⟩
  have hst := hB.st
  refine go_in' Tryd.func16 rfl Tryd.ntmps16 (Nat.le_of_ble_eq_true rfl) ?_
  refine c_seq ?_
  refine c_region ?_
  refine st (y_assign rfl) rfl ?_
  refine l_nil ?_
  refine q_then ?_
  refine c_seq ?_
  refine c_seq ?_
  refine c_region ?_
  refine st (y_move rfl) rfl ?_
  refine st (y_nil rfl) rfl ?_
  refine st (fa59_1 rfl) rfl ?_
  refine st (y_loadb rfl one57 (by assumption) (by rfl)) rfl ?_
  refine st (y_snil_eq rfl rfl Tryd.underlying57) rfl ?_
  refine l_nil ?_
  refine q_then ?_
  refine c_false rfl rfl ?_
  refine c_skip ?_
  refine q_then ?_
  refine c_seq ?_
  refine c_region ?_
  refine sc rfl rfl isfn26 (c_NewBS _) rfl ?_
  rintro _ w1 ⟨b, r0, rfl, hBf, hb, hr0, hne0, hK1⟩
  have hst := hst.keep hK1 (by simp)
  refine st (y_assign rfl) rfl ?_
  refine l_nil ?_
  refine q_then ?_
  refine c_seq ?_
  refine c_region ?_
  refine st (y_move rfl) rfl ?_
  refine st (y_nil rfl) rfl ?_
  refine st (fa59_1 rfl) rfl ?_
  refine st (y_loadb rfl one57 (by assumption) (by rfl)) rfl ?_
  refine st (y_len rfl Tryd.underlying57) rfl ?_
  rw [hN]
  refine st (y_sub_i (b := 1) rfl rfl (by omega) (by omega)) rfl ?_
  refine st (y_assign rfl) rfl ?_
  refine l_nil ?_
  refine q_then ?_
  refine c_seq ?_
  refine c_block ?_
  refine c_loop (fun m : Nat => [(0, vP p), (3, vP b), (4, vI ((m : Int) - 1))]) (fun m w' => m ≤ N ∧ Keep w w' [] ∧ ∃ r, Buf w' b r (digT (pack s) N m) ∧ w.heap.size ≤ r ∧ (0 < (digT (pack s) N m).length ∨ r ≠ b)) (fun m => m) N ?_ ?_ ?_
  · exact ⟨rfl, rfl, rfl, trivial⟩
  · exact ⟨Nat.le_refl _, hK1, r0, by rw [digT_full]; exact hBf, hr0, .inr hne0⟩
  · clear hst hBf hne0 hK1 hr0
    clear w1 r0
    rintro m w1 ⟨hm, hK1, r, hBf, hr, hne⟩
    have hdl := digT_len (pack s) N m
    refine c_seq ?_
    refine c_seq ?_
    refine c_region ?_
    refine st (y_move rfl) rfl ?_
    refine st_if (y_ge_i (b := 0) rfl rfl) rfl (fun hge => ?_) (fun hge => ?_)
    · have hm0 : 0 < m := by omega
      rw [subOne hm0]
      obtain ⟨x, hx⟩ : ∃ x, (pack s).getD (m - 1) 0 = x := ⟨_, rfl⟩
      have hst1 := digT_step (ws := pack s) hm0 hm
      rw [hx] at hst1
      have hxg : (pack s ++ tl).getD (m - 1) 0 = x := by rw [List.getD_eq_getElem?_getD, List.getElem?_append_left (by omega), ← List.getD_eq_getElem?_getD]; exact hx
      have hx64 : x < 18446744073709551616 := by rw [← hx]; exact pack_getD_lt s _
      refine l_nil ?_
      refine q_then ?_
      refine c_true rfl rfl ?_
      refine c_skip ?_
      refine q_then ?_
      refine c_seq ?_
      refine c_block ?_
      refine c_seq ?_
      refine c_seq ?_
      refine c_region ?_
      refine st (y_assign (v := vI ((63 : Nat) : Int)) rfl) rfl ?_
      refine l_nil ?_
      refine q_then ?_
      refine c_block ?_
      refine c_loop (fun k : Nat => [(0, vP p), (3, vP b), (4, vI ((m - 1 : Nat) : Int)), (5, vI ((k : Int) - 1))]) (fun k w' => k ≤ 64 ∧ Keep w w' [] ∧ ∃ r, Buf w' b r (digT (pack s) N m ++ digW x k) ∧ w.heap.size ≤ r ∧ (0 < (digT (pack s) N m ++ digW x k).length ∨ r ≠ b)) (fun k => k) 64 ?_ ?_ ?_
      · exact ⟨rfl, rfl, rfl, rfl, trivial⟩
      · exact ⟨Nat.le_refl _, hK1, r, by rw [digW_full, List.append_nil]; exact hBf, hr, by rw [digW_full, List.append_nil]; exact hne⟩
      · clear hBf hr hne hK1
        clear w1 r
        rintro k w1 ⟨hk, hK1, r, hBf, hr, hne⟩
        have hwl := digW_len x k
        refine c_seq ?_
        refine c_seq ?_
        refine c_region ?_
        refine st (y_move rfl) rfl ?_
        refine st_if (y_ge_i (b := 0) rfl rfl) rfl (fun hgk => ?_) (fun hgk => ?_)
        · have hk0 : 0 < k := by omega
          rw [subOne hk0]
          have hd1 : (((pack s ++ tl).getD (m - 1) 0 >>> (k - 1)) &&& 1) % 256 ≤ 1 := by rw [Nat.and_one_is_mod]; omega
          have hstep := digW_step (x := x) hk0 hk
          have hdlt := (dig_lt x (k - 1)).1
          have hBk := hB.keep hK1 (by simp) (by simp)
          have hst := hBk.st
          have hwd := hBk.wd
          refine l_nil ?_
          refine q_then ?_
          refine c_true rfl rfl ?_
          refine c_skip ?_
          refine q_then ?_
          refine c_seq ?_
          refine c_block ?_
          refine c_region ?_
          refine st (y_move rfl) rfl ?_
          refine st (y_move rfl) rfl ?_
          refine st (y_nil rfl) rfl ?_
          refine st (fa59_1 rfl) rfl ?_
          refine st (y_loadb rfl one57 (by assumption) (by rfl)) rfl ?_
          refine st (y_move rfl) rfl ?_
          first | refine st (y_index0 rfl rfl Tryd.underlying57 sz63 (by omega)) rfl ?_ | refine st (y_index rfl rfl Tryd.underlying57 sz63 (by omega)) rfl ?_ | refine st (y_indexA rfl rfl Tryd.underlying57 sz63 (by omega)) rfl ?_
          first | refine st (y_loadM (0) rfl one63 (by assumption) (by first | omega | (simp only [List.length_append, List.length_map, List.length_replicate, List.length_set, List.length_take, List.length_drop]; omega) | (simp; done))) rfl ?_ | refine st (y_load rfl one63 (by assumption)) rfl ?_
          refine st (y_move rfl) rfl ?_
          refine st (y_shr rfl rfl (by first | omega | assumption | (repeat (first | assumption | omega | decide | exact shl_lt64 _ _ | apply and_lt64 | apply or_lt64 | apply xor_lt64 | apply nt_lt | apply shr_lt64 | apply getD_lt64)))) rfl ?_
          refine st (y_and (b := 1) rfl rfl (by first | omega | assumption | (repeat (first | assumption | omega | decide | exact shl_lt64 _ _ | apply and_lt64 | apply or_lt64 | apply xor_lt64 | apply nt_lt | apply shr_lt64 | apply getD_lt64))) (by first | omega | assumption | (repeat (first | assumption | omega | decide | exact shl_lt64 _ _ | apply and_lt64 | apply or_lt64 | apply xor_lt64 | apply nt_lt | apply shr_lt64 | apply getD_lt64)))) rfl ?_
          refine st (y_conv_u8 rfl us63 Tryd.underlying5) rfl ?_
          refine st (y_add_8 (a := 48) rfl rfl (by omega)) rfl ?_
          rw [hxg]
          refine sc rfl rfl isfn27 (c_WriteByte b r (digT (pack s) N m ++ digW x k) _ hBf (by rw [List.length_append]; omega) (dig x (k - 1)) hdlt) rfl ?_
          rintro _ w3 ⟨rfl, r3, hB3, hr3, hK3⟩
          refine l_nil ?_
          refine q_block ?_
          refine q_then ?_
          refine c_region ?_
          refine st (y_move rfl) rfl ?_
          refine st (y_sub_i (b := 1) rfl rfl (by omega) (by omega)) rfl ?_
          refine st (y_assign rfl) rfl ?_
          refine l_nil ?_
          have hK13 : Keep w w3 [] := hK1.trans hK3 (fun i hi => by simp only [List.mem_cons, List.not_mem_nil, or_false] at hi; exact .inr (by omega))
          have hsz1 := hK1.size
          refine q_round (k - 1) ⟨rfl, rfl, rfl, rfl, trivial⟩ ⟨by omega, hK13, r3, ?_, by omega, .inl (by rw [List.length_append, digW_len]; omega)⟩ (by omega)
          rw [hstep, ← List.append_assoc]; exact hB3
        ·
          have hk00 : k = 0 := by omega
          subst hk00
          refine l_nil ?_
          refine q_then ?_
          refine c_false rfl rfl ?_
          refine c_exit ?_
          refine q_then_exit ?_
          refine q_then_exit ?_
          refine q_block_hit ?_
          refine q_then ?_
          refine c_region ?_
          refine st (y_move rfl) rfl ?_
          refine sc rfl rfl isfn27 (c_WriteByte b r (digT (pack s) N m ++ digW x 0) _ hBf (by rw [List.length_append]; omega) 46 (by omega)) rfl ?_
          rintro _ w3 ⟨rfl, r3, hB3, hr3, hK3⟩
          refine l_nil ?_
          refine q_block ?_
          refine q_then ?_
          refine c_region ?_
          refine st (y_move rfl) rfl ?_
          refine st (y_sub_i (b := 1) rfl rfl (by omega) (by omega)) rfl ?_
          refine st (y_assign rfl) rfl ?_
          refine l_nil ?_
          have hK13 : Keep w w3 [] := hK1.trans hK3 (fun i hi => by simp only [List.mem_cons, List.not_mem_nil, or_false] at hi; exact .inr (by omega))
          have hsz1 := hK1.size
          exact q_round (m - 1) ⟨rfl, rfl, rfl, trivial⟩ ⟨by omega, hK13, r3, by rw [hst1]; exact hB3, by omega, .inl (by rw [digT_len]; omega)⟩ (by omega)
    ·
      have hm00 : m = 0 := by omega
      subst hm00
      refine l_nil ?_
      refine q_then ?_
      refine c_false rfl rfl ?_
      refine c_exit ?_
      refine q_then_exit ?_
      refine q_then_exit ?_
      refine q_block_hit ?_
      refine q_then ?_
      refine c_seq ?_
      refine c_region ?_
      refine st (y_move rfl) rfl ?_
      refine sc rfl rfl isfn25 (c_BString b r _ _ hBf hne) rfl ?_
      rintro _ _ ⟨rfl, rfl⟩
      refine st (y_assign rfl) rfl ?_
      refine l_nil ?_
      refine q_then ?_
      refine c_ret ?_
      refine q_end1 (.inl rfl) rfl rfl ?_
      exact ⟨_, rfl, rfl, hK1.trans (Keep.drew w1 []) (by simp)⟩

theorem c_implDump (L : Nat) (A : Option Addr) (n c : Nat) (xs : List Nat) (w : World) (hR : Rd w A n xs) (hL : L ≤ 6000) (hx : ∀ x ∈ xs, x ≤ 6000) :
    Cal Tryd.prog 10 [aB L A n c] w fun v w' => v = .string (str (digT (pack (mkS L xs)) (pack (mkS L xs)).length 0)) ∧ Keep w w' [] := by
  have hlen : (mkS L xs).length ≤ 6001 := mkS_length_le L 6001 xs (by omega) fun x h => by have := hx x h; omega
  refine go_in' Tryd.func10 rfl Tryd.ntmps10 (Nat.le_of_ble_eq_true rfl) ?_
  refine c_seq ?_
  refine c_region ?_
  refine st_box _ rfl rfl rfl ?_
  intro b1 w1 hb1 hB1 hK1 hS1
  refine st (y_assign rfl) rfl ?_
  refine l_nil ?_
  refine q_then ?_
  refine c_seq ?_
  refine c_region ?_
  refine st (y_loadagg rfl agg25 us25 sz25 (by assumption) (by simp) (by rfl)) rfl ?_
  refine sc rfl rfl isfn14 (c_made L A n c xs _ (hR.keep hK1 (by simp)) hL hx) rfl ?_
  rintro _ w3 ⟨p, q, rfl, hp, hq, hS, hK3⟩
  have hK13 := hK1.trans hK3 (by simp)
  refine st (y_move rfl) rfl ?_
  refine st (y_extract rfl rfl) rfl ?_
  refine st (y_extract rfl rfl) rfl ?_
  refine st (y_assign rfl) rfl ?_
  refine st (y_assign rfl) rfl ?_
  refine l_nil ?_
  refine q_then ?_
  refine c_seq ?_
  refine c_seq ?_
  refine c_region ?_
  refine st (y_move rfl) rfl ?_
  refine st (y_not rfl) rfl ?_
  refine l_nil ?_
  refine q_then ?_
  refine c_false rfl rfl ?_
  refine c_skip ?_
  refine q_then ?_
  refine c_seq ?_
  refine c_region ?_
  refine st (y_move rfl) rfl ?_
  refine sc rfl rfl isfn16 (c_DumpAsBits p q _ _ hS hlen) rfl ?_
  rintro _ w4 ⟨rfl, hK4⟩
  refine st (y_assign rfl) rfl ?_
  refine l_nil ?_
  refine q_then ?_
  refine c_ret ?_
  refine q_end1 (.inl rfl) rfl rfl ?_
  exact ⟨_, rfl, rfl, hK13.trans hK4 (by simp)⟩

end Go.Proofs.YtoheaoihiecgdaaDoor

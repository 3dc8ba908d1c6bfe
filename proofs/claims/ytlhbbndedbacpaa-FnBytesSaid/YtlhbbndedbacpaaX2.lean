/- writeUint64Array; by its contract. -/
import Derived.Test.YtlhbbndedbacpaaX1
import Derived.Test.YtlhbbndedbacpaaB1
import Derived.Test.YtlhbbndedbacpaaA5
set_option linter.unusedVariables false
set_option linter.unusedSimpArgs false
set_option maxRecDepth 100000
set_option maxHeartbeats 1000000
namespace Go.Proofs.Ytlhbbndedbacpaa
open Go Go.RowKit

theorem inv_Write (u z : Value) (w : World) : (invoke (.fn (.method "Write") #[]) #[.iface 82 u, z]).run Try.prog w = .ok (.enter 99 #[u, z]) w := by kernel_rfl
theorem nil_Write (a : Addr) (w : World) : (nilAhead (Try.prog.types.size + Made.depth) 82 (.pointer (some a)) "Write").run Try.prog w = .ok (some false) w := by kernel_rfl
theorem ifErr : Try.prog.isIface 72 = true := by kernel_rfl
theorem pv_put {k : Nat} {P : List Nat} (hP : P.length = 8 * k) (x m : Nat) (h : 8 * k + 8 ≤ m) : pv (P ++ List.replicate (m - 8 * k) 0) (8 * k) (be8 x) = (P ++ be8 x) ++ List.replicate (m - 8 * (k + 1)) 0 := by
  unfold pv
  rw [List.take_left' hP, be8_len, List.drop_append, List.drop_of_length_le (by omega), List.nil_append, hP, show 8 * k + 8 - 8 * k = 8 by omega, List.drop_replicate, show m - 8 * k - 8 = m - 8 * (k + 1) by omega]

theorem c_wU64 (b r : Nat) (xs : List Nat) (q c : Nat) (W tl : List Nat) (w : World) (hB : Buf w b r xs) (hx0 : 0 < xs.length) (hx : xs.length ≤ 100000) (hq : Blk w q 34 ((W ++ tl).map vU)) (hW : W.length ≤ 101) (hlt : ∀ x ∈ W, x < 18446744073709551616) (hqb : q ≠ b) (hqr : q ≠ r) (hc : W.length ≤ c) (hc2 : c ≤ 9223372036854775807) :
    Cal Try.prog 68 [.iface 82 (vP b), vS q W.length c] w fun v w' => v = .nilIface ∧ ∃ r', Buf w' b r' (xs ++ byt W) ∧ (r' = r ∨ w.heap.size ≤ r') ∧ Keep w w' [b, r] := by
  obtain ⟨N, hN⟩ : ∃ N, W.length = N := ⟨_, rfl⟩
  rw [hN] at hc hW ⊢
  have hbl := hB.lts
  have hqg : ∀ j, j < N → (W ++ tl).getD j 0 = W.getD j 0 := fun j hj => by
    rw [List.getD_eq_getElem?_getD, List.getElem?_append_left (by omega), ← List.getD_eq_getElem?_getD]
  refine go_in' Try.func68 rfl Try.ntmps68 (Nat.le_of_ble_eq_true rfl) ?_
  refine c_seq ?_
  refine c_region ?_
  refine st (y_assign rfl) rfl ?_
  refine l_nil ?_
  refine q_then ?_
  refine c_seq ?_
  refine c_region ?_
  refine st (y_assign (v := vI ((128 : Nat) : Int)) rfl) rfl ?_
  refine l_nil ?_
  refine q_then ?_
  refine c_seq ?_
  refine c_region ?_
  refine st (y_move rfl) rfl ?_
  first | refine st (y_mul_in (b := 8) rfl rfl (by omega)) rfl ?_ | refine st (y_mul_i (b := 8) rfl rfl (by omega) (by omega)) rfl ?_
  refine mk42 rfl rfl (by omega) (by omega) rfl ?_
  intro b6 w1 hb6 hB6 hK1 hS1
  have hB6' : Blk w1 b6 5 ((List.replicate 1024 0).map v8) := by simpa using hB6
  clear hB6
  have hq1 := hq.keep hK1 (by simp)
  have hb6n : b6 ≠ b ∧ b6 ≠ r := by omega
  have hql := hq.lt
  refine st (y_assign rfl) rfl ?_
  refine l_nil ?_
  refine q_then ?_
  refine c_seq ?_
  refine c_seq ?_
  refine c_region ?_
  refine st (y_assign (v := vI ((0 : Nat) : Int)) rfl) rfl ?_
  refine l_nil ?_
  refine q_then ?_
  refine c_block ?_
  refine c_loop (fun x : Nat × Nat => [(0, .iface 82 (vP b)), (1, vS q N c), (5, vI ((128 : Nat) : Int)), (6, vS b6 x.2 1024), (7, vI (x.1 : Nat))]) (fun x w' => (x.1 = 0 ∧ x.2 = 1024 ∧ w' = w1) ∨ (x.1 = 128 ∧ ∃ r', Buf w' b r' (xs ++ byt W) ∧ (r' = r ∨ w.heap.size ≤ r') ∧ Keep w w' [b, r])) (fun x => 128 - x.1) (0, 1024) ?_ ?_ ?_
  · exact ⟨rfl, rfl, rfl, rfl, rfl, trivial⟩
  · exact .inl ⟨rfl, rfl, rfl⟩
  · rintro ⟨i, bl⟩ w2 h2
    simp only at h2 ⊢
    rcases h2 with ⟨rfl, rfl, rfl⟩ | ⟨rfl, hend⟩
    · refine c_seq ?_
      refine c_seq ?_
      refine c_region ?_
      refine st (y_move rfl) rfl ?_
      refine st (y_move rfl) rfl ?_
      refine st (y_len rfl Try.underlying69) rfl ?_
      refine st_if (y_lt_i rfl rfl) rfl (fun h0 => ?_) (fun h0 => ?_)
      · have hN0 : 0 < N := by omega
        refine l_nil ?_
        refine q_then ?_
        refine c_true rfl rfl ?_
        refine c_skip ?_
        refine q_then ?_
        refine c_seq ?_
        refine c_block ?_
        refine c_seq ?_
        refine c_region ?_
        refine st (y_move rfl) rfl ?_
        refine st (y_move rfl) rfl ?_
        first | refine st (y_add_in rfl rfl (by omega)) rfl ?_ | refine st (y_add_i rfl rfl (by omega) (by omega)) rfl ?_
        refine st (y_assign rfl) rfl ?_
        refine l_nil ?_
        refine q_then ?_
        refine c_seq ?_
        refine c_seq ?_
        refine c_region ?_
        refine st (y_move rfl) rfl ?_
        refine st (y_move rfl) rfl ?_
        refine st (y_len rfl Try.underlying69) rfl ?_
        refine st_t (y_gt_i rfl rfl) (by omega) rfl ?_
        refine l_nil ?_
        refine q_then ?_
        refine c_true rfl rfl ?_
        refine c_seq ?_
        refine c_region ?_
        refine st (y_move rfl) rfl ?_
        refine st (y_len rfl Try.underlying69) rfl ?_
        refine st (y_assign rfl) rfl ?_
        refine l_nil ?_
        refine q_then ?_
        refine c_region ?_
        refine st (y_move rfl) rfl ?_
        refine st (y_move rfl) rfl ?_
        refine st (y_move rfl) rfl ?_
        refine st (y_sub_i (b := ((0 : Nat) : Int)) rfl rfl (by omega) (by omega)) rfl ?_
        rw [show (N : Int) - ((0 : Nat) : Int) = (N : Int) by omega]
        first | refine st (y_mul_in (a := 8) rfl rfl (by omega)) rfl ?_ | refine st (y_mul_i (a := 8) rfl rfl (by omega) (by omega)) rfl ?_
        refine st (y_slice_h rfl rfl Try.underlying42 sz5 (by omega)) rfl ?_
        refine st (y_assign rfl) rfl ?_
        refine l_nil ?_
        refine q_then ?_
        refine c_seq ?_
        refine c_region ?_
        refine st (y_move rfl) rfl ?_
        refine st (y_move rfl) rfl ?_
        refine st (y_move rfl) rfl ?_
        refine st (y_slice_0h rfl rfl rfl Try.underlying69 sz34 hc) rfl ?_
        refine st (y_assign rfl) rfl ?_
        refine l_nil ?_
        refine q_then ?_
        refine c_seq ?_
        refine c_seq ?_
        refine c_region ?_
        refine st (y_move rfl) rfl ?_
        refine st (y_len rfl Try.underlying69) rfl ?_
        refine st (y_move (v := vI ((0 : Nat) : Int)) rfl) rfl ?_
        refine l_nil ?_
        refine q_then ?_
        refine c_block ?_
        refine c_loop (fun k : Nat => [(0, .iface 82 (vP b)), (1, vS q N c), (5, vI ((128 : Nat) : Int)), (6, vS b6 (8 * N) 1024), (7, vI ((0 : Nat) : Int)), (43, vS q N c), (44, vI (N : Nat)), (45, vI (k : Nat))]) (fun k w' => k ≤ N ∧ Blk w' b6 5 ((byt (W.take k) ++ List.replicate (1024 - 8 * k) 0).map v8) ∧ Keep w2 w' [b6]) (fun k => N - k) 0 ?_ ?_ ?_
        · exact ⟨rfl, rfl, rfl, rfl, rfl, rfl, rfl, rfl, trivial⟩
        · exact ⟨Nat.zero_le _, by simpa [byt] using hB6', Keep.refl _ _⟩
        · rintro k w3 ⟨hk, hB3, hK3⟩
          have hq3 := hq1.keep hK3 (by simp only [List.mem_singleton]; omega)
          have hbl3 := byt_len (W.take k)
          rw [List.length_take, Nat.min_eq_left (by omega)] at hbl3
          refine c_seq ?_
          refine c_region ?_
          refine st_if (y_lt_i rfl rfl) rfl (fun hlt3 => ?_) (fun hlt3 => ?_)
          · have hkN : k < N := by omega
            have hgk := hqg k hkN
            obtain ⟨x, hxk⟩ : ∃ x, W.getD k 0 = x := ⟨_, rfl⟩
            have hx64 : x < 18446744073709551616 := by rw [← hxk]; exact getD_lt64 hlt k
            have hbt := byt_take (ws := W) (k := k) (by omega)
            rw [hxk] at hgk hbt
            have hpv := pv_put hbl3 x 1024 (by omega)
            rw [← hbt] at hpv
            have hPl : (byt (W.take k) ++ List.replicate (1024 - 8 * k) 0).length = 1024 := by rw [List.length_append, hbl3, List.length_replicate]; omega
            refine l_nil ?_
            refine q_then ?_
            refine c_seq ?_
            refine c_true rfl rfl ?_
            refine c_skip ?_
            refine q_then ?_
            refine c_seq ?_
            refine c_block ?_
            refine c_seq ?_
            refine c_region ?_
            refine st (y_move rfl) rfl ?_
            first | refine st (y_index0 rfl rfl Try.underlying69 sz34 (by omega)) rfl ?_ | refine st (y_index rfl rfl Try.underlying69 sz34 (by omega)) rfl ?_ | refine st (y_indexA rfl rfl Try.underlying69 sz34 (by omega)) rfl ?_
            first | refine st (y_loadM (0) rfl one34 (by assumption) (by first | omega | (simp only [List.length_append, List.length_map, List.length_replicate, List.length_set, List.length_take, List.length_drop]; omega) | (simp; done))) rfl ?_ | refine st (y_load rfl one34 (by assumption)) rfl ?_
            refine st (y_assign rfl) rfl ?_
            refine st (y_assign rfl) rfl ?_
            refine l_nil ?_
            refine q_then ?_
            rw [hgk]
            have hB3d := hB3.drew
            refine c_moves 8 ((fun _ => True)) (.take 0 (.take 1 (.take 2 (.take 3 (.take 4 (.take 5 (.one 6 .nil))))))) mixed (by kernel_rfl) rfl (by kernel_rfl) (trivial) ?_
            show wpM _ _ _ _ _ _ _ _ _
            refine mt rfl (fun w' hS => y_load0 rfl agg102 us102 sz102) rfl rfl ?_
            refine mt rfl (fun w' hS => y_move rfl) rfl rfl ?_
            refine mt rfl (fun w' hS => y_move rfl) rfl rfl ?_
            first | refine mt rfl (fun w' hS => y_mul_in (a := 8) rfl rfl (by omega)) rfl rfl ?_ | refine mt rfl (fun w' hS => y_mul_i (a := 8) rfl rfl (by omega) (by omega)) rfl rfl ?_
            refine mt rfl (fun w' hS => y_slice_ln rfl rfl Try.underlying42 sz5 (by omega) (by omega)) rfl rfl ?_
            refine mt rfl (fun w' hS => y_move rfl) rfl rfl ?_
            refine mh rfl ?_
            refine sc rfl rfl isfn67 (c_PutU64 b6 (0 + 8 * k) (8 * N - 8 * k) (1024 - 8 * k) x _ _ _ hB3d (by omega) (by omega) hx64) rfl ?_
            rintro _ w4 ⟨rfl, hB4, hK4⟩
            refine l_nil ?_
            refine mh_end (trivial) ?_
            refine m_nil ?_
            refine q_block ?_
            refine q_then ?_
            refine c_region ?_
            first | refine st (y_add_in (b := 1) rfl rfl (by omega)) rfl ?_ | refine st (y_add_i (b := 1) rfl rfl (by omega) (by omega)) rfl ?_
            refine st (y_move rfl) rfl ?_
            refine l_nil ?_
            rw [Nat.zero_add, hpv] at hB4
            exact q_round (k + 1) ⟨rfl, rfl, rfl, rfl, rfl, rfl, rfl, rfl, trivial⟩ ⟨by omega, hB4, (hK3.trans (Keep.drew w3 []) (by simp)).trans hK4 (fun i hi => .inl hi)⟩ (by omega)
          ·
            have hkN : k = N := by omega
            have hWk : W.take k = W := List.take_of_length_le (by omega)
            rw [hWk] at hB3 hbl3
            have hbf : Buf w3 b r xs := (hB.keep hK1 (by simp) (by simp)).keep hK3 (by simp only [List.mem_singleton]; omega) (by simp only [List.mem_singleton]; omega)
            have hsz3 := hK3.size
            have hbyl := byt_len W
            have hsrc : ∀ j v, ((byt W).map v8)[j]? = some v → w3.cell? ((⟨b6, 0, none⟩ : Addr).add j) = some v := by
              intro j v hv
              rw [add_pt, Nat.zero_add]
              refine hB3.cell ?_
              rw [List.map_append, List.getElem?_append_left (by have := (List.getElem?_eq_some_iff.1 hv).1; exact this)]
              exact hv
            have hb6l := hB3.lt
            refine l_nil ?_
            refine q_then ?_
            refine c_seq ?_
            refine c_false rfl rfl ?_
            refine c_exit ?_
            refine q_then_exit ?_
            refine q_then_exit ?_
            refine q_block_hit ?_
            refine q_then ?_
            refine c_seq ?_
            refine c_region ?_
            refine st (y_move rfl) rfl ?_
            refine st (y_move rfl) rfl ?_
            refine scM rfl rfl (inv_Write _ _ _) (c_Write b r xs _ hbf (by omega) ⟨b6, 0, none⟩ (8 * N) 1024 (byt W) (by omega) (by omega) (by rw [hbyl, hN]) (byt_lt W) hsrc hb6l hb6n.1 hb6n.2 (fun h => by rw [h] at hx0; simp at hx0)) rfl ?_
            rintro _ w4 ⟨rfl, r4, hB4, hr4, hK4⟩
            refine st (y_move rfl) rfl ?_
            refine st (y_extract rfl rfl) rfl ?_
            refine st (y_extract rfl rfl) rfl ?_
            refine st (y_assign rfl) rfl ?_
            refine st (y_assign rfl) rfl ?_
            refine l_nil ?_
            refine q_then ?_
            refine c_seq ?_
            refine c_region ?_
            refine st (y_move rfl) rfl ?_
            refine st (y_neqI rfl ifErr) rfl ?_
            refine l_nil ?_
            refine q_then ?_
            refine c_false rfl rfl ?_
            refine c_skip ?_
            refine q_block ?_
            refine q_then ?_
            refine c_region ?_
            refine st (y_move rfl) rfl ?_
            refine st (y_move rfl) rfl ?_
            first | refine st (y_add_in rfl rfl (by omega)) rfl ?_ | refine st (y_add_i rfl rfl (by omega) (by omega)) rfl ?_
            refine st (y_assign rfl) rfl ?_
            refine l_nil ?_
            have hKw : Keep w w4 [b, r] := ((hK1.mono (fun i hi => by cases hi)).trans hK3 (fun i hi => by simp only [List.mem_singleton] at hi; exact .inr (by omega))).trans hK4 (fun i hi => .inl hi)
            exact q_round (128, 8 * N) ⟨rfl, rfl, rfl, rfl, rfl, trivial⟩ (.inr ⟨rfl, r4, hB4, by have := hK1.size; omega, hKw⟩) (by simp only; omega)
      ·
        refine l_nil ?_
        refine q_then ?_
        refine c_false rfl rfl ?_
        refine c_exit ?_
        refine q_then_exit ?_
        refine q_then_exit ?_
        refine q_block_hit ?_
        refine q_then ?_
        refine c_seq ?_
        refine c_region ?_
        refine st (y_assign rfl) rfl ?_
        refine l_nil ?_
        refine q_then ?_
        refine c_ret ?_
        refine q_end1 (.inl rfl) rfl rfl ?_
        have hW0 : W = [] := List.eq_nil_of_length_eq_zero (by omega)
        subst hW0
        refine ⟨_, rfl, rfl, r, ?_, .inl rfl, hK1.mono (fun i hi => by cases hi)⟩
        have := hB.keep hK1 (by simp) (by simp)
        simpa [byt] using this
    ·
      refine c_seq ?_
      refine c_seq ?_
      refine c_region ?_
      refine st (y_move rfl) rfl ?_
      refine st (y_move rfl) rfl ?_
      refine st (y_len rfl Try.underlying69) rfl ?_
      refine st_f (y_lt_i rfl rfl) (by omega) rfl ?_
      refine l_nil ?_
      refine q_then ?_
      refine c_false rfl rfl ?_
      refine c_exit ?_
      refine q_then_exit ?_
      refine q_then_exit ?_
      refine q_block_hit ?_
      refine q_then ?_
      refine c_seq ?_
      refine c_region ?_
      refine st (y_assign rfl) rfl ?_
      refine l_nil ?_
      refine q_then ?_
      refine c_ret ?_
      refine q_end1 (.inl rfl) rfl rfl ?_
      exact ⟨_, rfl, rfl, hend⟩

end Go.Proofs.Ytlhbbndedbacpaa

/- binary.BigEndian.PutUint64, a buffer's Bytes; each by its contract. -/
import Derived.Test.YtlhbbndedbacpaaQ3
import Derived.Test.YtlhbbndedbacpaaK18
import Derived.Test.YtlhbbndedbacpaaL28
set_option linter.unusedVariables false
set_option linter.unusedSimpArgs false
set_option maxRecDepth 100000
set_option maxHeartbeats 1000000
namespace Go.Proofs.Ytlhbbndedbacpaa
open Go Go.RowKit

/-- from o on the bytes ys stand -/
def pv (l : List Nat) (o : Nat) (ys : List Nat) : List Nat := l.take o ++ ys ++ l.drop (o + ys.length)
theorem pv_len {l : List Nat} {o : Nat} {ys : List Nat} (h : o + ys.length ≤ l.length) : (pv l o ys).length = l.length := by unfold pv; simp; omega
theorem pv_nil (l : List Nat) (o : Nat) : pv l o [] = l := by simp [pv]
theorem pv_set {l : List Nat} {o k a : Nat} {ys : List Nat} (hk : ys.length = k) (h : o + k < l.length) : (pv l o ys).set (o + k) a = pv l o (ys ++ [a]) := by
  subst hk
  unfold pv
  rw [List.append_assoc, List.append_assoc, List.append_assoc, List.set_append_right _ _ (by simp; omega), List.set_append_right _ _ (by simp; omega)]
  simp only [List.length_take, Nat.min_eq_left (show o ≤ l.length by omega), Nat.add_sub_cancel_left, Nat.sub_self, List.length_append, List.length_singleton]
  rw [List.drop_eq_getElem_cons h, List.set_cons_zero]
  simp [Nat.add_assoc]
theorem be8_list (x : Nat) : be8 x = [(x >>> 56) % 256, (x >>> 48) % 256, (x >>> 40) % 256, (x >>> 32) % 256, (x >>> 24) % 256, (x >>> 16) % 256, (x >>> 8) % 256, x % 256] := rfl

theorem c_PutU64 (q o n c x : Nat) (T : TypeId) (l : List Nat) (w : World) (hB : Blk w q T (l.map v8)) (hn : 8 ≤ n) (ho : o + 8 ≤ l.length) (hx : x < 18446744073709551616) :
    Cal Try.prog 67 [.agg #[], .slice (some ⟨q, o, none⟩) n c, vU x] w fun v w' => v = vT [] ∧ Blk w' q T ((pv l o (be8 x)).map v8) ∧ Keep w w' [q] := by
  have hql := hB.lt
  refine go_in' Try.func67 rfl Try.ntmps67 (Nat.le_of_ble_eq_true rfl) ?_
  refine c_seq ?_
  refine c_region ?_
  refine st_box _ rfl rfl rfl ?_
  intro b1 w1 hb1 hBb hK1 hS1
  have hB := hB.keep hK1 (by simp only [List.mem_cons, List.not_mem_nil, or_false, not_or, not_false_eq_true] <;> omega)
  have hp0 := pv_nil l o
  have hl0 : (pv l o []).length = l.length := by rw [hp0]
  rw [← hp0] at hB
  refine l_nil ?_
  refine q_then ?_
  refine c_seq ?_
  refine c_region ?_
  refine st (y_move rfl) rfl ?_
  first | refine st (y_index0 (i := 7) rfl rfl Try.underlying42 sz5 (by omega)) rfl ?_ | refine st (y_index (i := 7) rfl rfl Try.underlying42 sz5 (by omega)) rfl ?_ | refine st (y_indexA (i := 7) rfl rfl Try.underlying42 sz5 (by omega)) rfl ?_
  first | refine st (y_loadM (0) rfl one5 (by assumption) (by first | omega | (simp only [List.length_append, List.length_map, List.length_replicate, List.length_set, List.length_take, List.length_drop]; omega) | (simp; done))) rfl ?_ | refine st (y_load rfl one5 (by assumption)) rfl ?_
  refine l_nil ?_
  refine q_then ?_
  refine c_seq ?_
  refine c_region ?_
  refine st (y_move rfl) rfl ?_
  refine st (y_move rfl) rfl ?_
  refine st (y_shr (k := 56) rfl rfl (by first | omega | assumption | (repeat (first | assumption | omega | decide | exact shl_lt64 _ _ | apply and_lt64 | apply or_lt64 | apply xor_lt64 | apply nt_lt | apply shr_lt64 | apply getD_lt64)))) rfl ?_
  refine st (y_conv_u8 rfl us34 Try.underlying5) rfl ?_
  first | refine st (y_index0 (i := 0) rfl rfl Try.underlying42 sz5 (by omega)) rfl ?_ | refine st (y_index (i := 0) rfl rfl Try.underlying42 sz5 (by omega)) rfl ?_ | refine st (y_indexA (i := 0) rfl rfl Try.underlying42 sz5 (by omega)) rfl ?_
  refine st_storeM v8 rfl rfl rfl sz5 (by assumption) (by first | omega | (simp only [List.length_append, List.length_map, List.length_replicate, List.length_set, List.length_take, List.length_drop]; omega)) rfl ?_
  intro w2 hB2 hKs2 hSs2
  have hs0 : (pv l o []).set (o + 0) ((x >>> 56) % 256) = pv l o [(x >>> 56) % 256] := pv_set (ys := []) rfl (by omega)
  rw [hs0] at hB2
  have hl1 : (pv l o [(x >>> 56) % 256]).length = l.length := pv_len (by simp; omega)
  clear hB
  refine l_nil ?_
  refine q_then ?_
  refine c_seq ?_
  refine c_region ?_
  refine st (y_move rfl) rfl ?_
  refine st (y_move rfl) rfl ?_
  refine st (y_shr (k := 48) rfl rfl (by first | omega | assumption | (repeat (first | assumption | omega | decide | exact shl_lt64 _ _ | apply and_lt64 | apply or_lt64 | apply xor_lt64 | apply nt_lt | apply shr_lt64 | apply getD_lt64)))) rfl ?_
  refine st (y_conv_u8 rfl us34 Try.underlying5) rfl ?_
  first | refine st (y_index0 (i := 1) rfl rfl Try.underlying42 sz5 (by omega)) rfl ?_ | refine st (y_index (i := 1) rfl rfl Try.underlying42 sz5 (by omega)) rfl ?_ | refine st (y_indexA (i := 1) rfl rfl Try.underlying42 sz5 (by omega)) rfl ?_
  refine st_storeM v8 rfl rfl rfl sz5 (by assumption) (by first | omega | (simp only [List.length_append, List.length_map, List.length_replicate, List.length_set, List.length_take, List.length_drop]; omega)) rfl ?_
  intro w3 hB3 hKs3 hSs3
  have hs1 : (pv l o [(x >>> 56) % 256]).set (o + 1) ((x >>> 48) % 256) = pv l o [(x >>> 56) % 256, (x >>> 48) % 256] := pv_set (ys := [(x >>> 56) % 256]) rfl (by omega)
  rw [hs1] at hB3
  have hl2 : (pv l o [(x >>> 56) % 256, (x >>> 48) % 256]).length = l.length := pv_len (by simp; omega)
  clear hB2
  refine l_nil ?_
  refine q_then ?_
  refine c_seq ?_
  refine c_region ?_
  refine st (y_move rfl) rfl ?_
  refine st (y_move rfl) rfl ?_
  refine st (y_shr (k := 40) rfl rfl (by first | omega | assumption | (repeat (first | assumption | omega | decide | exact shl_lt64 _ _ | apply and_lt64 | apply or_lt64 | apply xor_lt64 | apply nt_lt | apply shr_lt64 | apply getD_lt64)))) rfl ?_
  refine st (y_conv_u8 rfl us34 Try.underlying5) rfl ?_
  first | refine st (y_index0 (i := 2) rfl rfl Try.underlying42 sz5 (by omega)) rfl ?_ | refine st (y_index (i := 2) rfl rfl Try.underlying42 sz5 (by omega)) rfl ?_ | refine st (y_indexA (i := 2) rfl rfl Try.underlying42 sz5 (by omega)) rfl ?_
  refine st_storeM v8 rfl rfl rfl sz5 (by assumption) (by first | omega | (simp only [List.length_append, List.length_map, List.length_replicate, List.length_set, List.length_take, List.length_drop]; omega)) rfl ?_
  intro w4 hB4 hKs4 hSs4
  have hs2 : (pv l o [(x >>> 56) % 256, (x >>> 48) % 256]).set (o + 2) ((x >>> 40) % 256) = pv l o [(x >>> 56) % 256, (x >>> 48) % 256, (x >>> 40) % 256] := pv_set (ys := [(x >>> 56) % 256, (x >>> 48) % 256]) rfl (by omega)
  rw [hs2] at hB4
  have hl3 : (pv l o [(x >>> 56) % 256, (x >>> 48) % 256, (x >>> 40) % 256]).length = l.length := pv_len (by simp; omega)
  clear hB3
  refine l_nil ?_
  refine q_then ?_
  refine c_seq ?_
  refine c_region ?_
  refine st (y_move rfl) rfl ?_
  refine st (y_move rfl) rfl ?_
  refine st (y_shr (k := 32) rfl rfl (by first | omega | assumption | (repeat (first | assumption | omega | decide | exact shl_lt64 _ _ | apply and_lt64 | apply or_lt64 | apply xor_lt64 | apply nt_lt | apply shr_lt64 | apply getD_lt64)))) rfl ?_
  refine st (y_conv_u8 rfl us34 Try.underlying5) rfl ?_
  first | refine st (y_index0 (i := 3) rfl rfl Try.underlying42 sz5 (by omega)) rfl ?_ | refine st (y_index (i := 3) rfl rfl Try.underlying42 sz5 (by omega)) rfl ?_ | refine st (y_indexA (i := 3) rfl rfl Try.underlying42 sz5 (by omega)) rfl ?_
  refine st_storeM v8 rfl rfl rfl sz5 (by assumption) (by first | omega | (simp only [List.length_append, List.length_map, List.length_replicate, List.length_set, List.length_take, List.length_drop]; omega)) rfl ?_
  intro w5 hB5 hKs5 hSs5
  have hs3 : (pv l o [(x >>> 56) % 256, (x >>> 48) % 256, (x >>> 40) % 256]).set (o + 3) ((x >>> 32) % 256) = pv l o [(x >>> 56) % 256, (x >>> 48) % 256, (x >>> 40) % 256, (x >>> 32) % 256] := pv_set (ys := [(x >>> 56) % 256, (x >>> 48) % 256, (x >>> 40) % 256]) rfl (by omega)
  rw [hs3] at hB5
  have hl4 : (pv l o [(x >>> 56) % 256, (x >>> 48) % 256, (x >>> 40) % 256, (x >>> 32) % 256]).length = l.length := pv_len (by simp; omega)
  clear hB4
  refine l_nil ?_
  refine q_then ?_
  refine c_seq ?_
  refine c_region ?_
  refine st (y_move rfl) rfl ?_
  refine st (y_move rfl) rfl ?_
  refine st (y_shr (k := 24) rfl rfl (by first | omega | assumption | (repeat (first | assumption | omega | decide | exact shl_lt64 _ _ | apply and_lt64 | apply or_lt64 | apply xor_lt64 | apply nt_lt | apply shr_lt64 | apply getD_lt64)))) rfl ?_
  refine st (y_conv_u8 rfl us34 Try.underlying5) rfl ?_
  first | refine st (y_index0 (i := 4) rfl rfl Try.underlying42 sz5 (by omega)) rfl ?_ | refine st (y_index (i := 4) rfl rfl Try.underlying42 sz5 (by omega)) rfl ?_ | refine st (y_indexA (i := 4) rfl rfl Try.underlying42 sz5 (by omega)) rfl ?_
  refine st_storeM v8 rfl rfl rfl sz5 (by assumption) (by first | omega | (simp only [List.length_append, List.length_map, List.length_replicate, List.length_set, List.length_take, List.length_drop]; omega)) rfl ?_
  intro w6 hB6 hKs6 hSs6
  have hs4 : (pv l o [(x >>> 56) % 256, (x >>> 48) % 256, (x >>> 40) % 256, (x >>> 32) % 256]).set (o + 4) ((x >>> 24) % 256) = pv l o [(x >>> 56) % 256, (x >>> 48) % 256, (x >>> 40) % 256, (x >>> 32) % 256, (x >>> 24) % 256] := pv_set (ys := [(x >>> 56) % 256, (x >>> 48) % 256, (x >>> 40) % 256, (x >>> 32) % 256]) rfl (by omega)
  rw [hs4] at hB6
  have hl5 : (pv l o [(x >>> 56) % 256, (x >>> 48) % 256, (x >>> 40) % 256, (x >>> 32) % 256, (x >>> 24) % 256]).length = l.length := pv_len (by simp; omega)
  clear hB5
  refine l_nil ?_
  refine q_then ?_
  refine c_seq ?_
  refine c_region ?_
  refine st (y_move rfl) rfl ?_
  refine st (y_move rfl) rfl ?_
  refine st (y_shr (k := 16) rfl rfl (by first | omega | assumption | (repeat (first | assumption | omega | decide | exact shl_lt64 _ _ | apply and_lt64 | apply or_lt64 | apply xor_lt64 | apply nt_lt | apply shr_lt64 | apply getD_lt64)))) rfl ?_
  refine st (y_conv_u8 rfl us34 Try.underlying5) rfl ?_
  first | refine st (y_index0 (i := 5) rfl rfl Try.underlying42 sz5 (by omega)) rfl ?_ | refine st (y_index (i := 5) rfl rfl Try.underlying42 sz5 (by omega)) rfl ?_ | refine st (y_indexA (i := 5) rfl rfl Try.underlying42 sz5 (by omega)) rfl ?_
  refine st_storeM v8 rfl rfl rfl sz5 (by assumption) (by first | omega | (simp only [List.length_append, List.length_map, List.length_replicate, List.length_set, List.length_take, List.length_drop]; omega)) rfl ?_
  intro w7 hB7 hKs7 hSs7
  have hs5 : (pv l o [(x >>> 56) % 256, (x >>> 48) % 256, (x >>> 40) % 256, (x >>> 32) % 256, (x >>> 24) % 256]).set (o + 5) ((x >>> 16) % 256) = pv l o [(x >>> 56) % 256, (x >>> 48) % 256, (x >>> 40) % 256, (x >>> 32) % 256, (x >>> 24) % 256, (x >>> 16) % 256] := pv_set (ys := [(x >>> 56) % 256, (x >>> 48) % 256, (x >>> 40) % 256, (x >>> 32) % 256, (x >>> 24) % 256]) rfl (by omega)
  rw [hs5] at hB7
  have hl6 : (pv l o [(x >>> 56) % 256, (x >>> 48) % 256, (x >>> 40) % 256, (x >>> 32) % 256, (x >>> 24) % 256, (x >>> 16) % 256]).length = l.length := pv_len (by simp; omega)
  clear hB6
  refine l_nil ?_
  refine q_then ?_
  refine c_seq ?_
  refine c_region ?_
  refine st (y_move rfl) rfl ?_
  refine st (y_move rfl) rfl ?_
  refine st (y_shr (k := 8) rfl rfl (by first | omega | assumption | (repeat (first | assumption | omega | decide | exact shl_lt64 _ _ | apply and_lt64 | apply or_lt64 | apply xor_lt64 | apply nt_lt | apply shr_lt64 | apply getD_lt64)))) rfl ?_
  refine st (y_conv_u8 rfl us34 Try.underlying5) rfl ?_
  first | refine st (y_index0 (i := 6) rfl rfl Try.underlying42 sz5 (by omega)) rfl ?_ | refine st (y_index (i := 6) rfl rfl Try.underlying42 sz5 (by omega)) rfl ?_ | refine st (y_indexA (i := 6) rfl rfl Try.underlying42 sz5 (by omega)) rfl ?_
  refine st_storeM v8 rfl rfl rfl sz5 (by assumption) (by first | omega | (simp only [List.length_append, List.length_map, List.length_replicate, List.length_set, List.length_take, List.length_drop]; omega)) rfl ?_
  intro w8 hB8 hKs8 hSs8
  have hs6 : (pv l o [(x >>> 56) % 256, (x >>> 48) % 256, (x >>> 40) % 256, (x >>> 32) % 256, (x >>> 24) % 256, (x >>> 16) % 256]).set (o + 6) ((x >>> 8) % 256) = pv l o [(x >>> 56) % 256, (x >>> 48) % 256, (x >>> 40) % 256, (x >>> 32) % 256, (x >>> 24) % 256, (x >>> 16) % 256, (x >>> 8) % 256] := pv_set (ys := [(x >>> 56) % 256, (x >>> 48) % 256, (x >>> 40) % 256, (x >>> 32) % 256, (x >>> 24) % 256, (x >>> 16) % 256]) rfl (by omega)
  rw [hs6] at hB8
  have hl7 : (pv l o [(x >>> 56) % 256, (x >>> 48) % 256, (x >>> 40) % 256, (x >>> 32) % 256, (x >>> 24) % 256, (x >>> 16) % 256, (x >>> 8) % 256]).length = l.length := pv_len (by simp; omega)
  clear hB7
  refine l_nil ?_
  refine q_then ?_
  refine c_region ?_
  refine st (y_move rfl) rfl ?_
  refine st (y_move rfl) rfl ?_
  refine st (y_conv_u8 rfl us34 Try.underlying5) rfl ?_
  first | refine st (y_index0 (i := 7) rfl rfl Try.underlying42 sz5 (by omega)) rfl ?_ | refine st (y_index (i := 7) rfl rfl Try.underlying42 sz5 (by omega)) rfl ?_ | refine st (y_indexA (i := 7) rfl rfl Try.underlying42 sz5 (by omega)) rfl ?_
  refine st_storeM v8 rfl rfl rfl sz5 (by assumption) (by first | omega | (simp only [List.length_append, List.length_map, List.length_replicate, List.length_set, List.length_take, List.length_drop]; omega)) rfl ?_
  intro w9 hB9 hKs9 hSs9
  have hs7 : (pv l o [(x >>> 56) % 256, (x >>> 48) % 256, (x >>> 40) % 256, (x >>> 32) % 256, (x >>> 24) % 256, (x >>> 16) % 256, (x >>> 8) % 256]).set (o + 7) (x % 256) = pv l o [(x >>> 56) % 256, (x >>> 48) % 256, (x >>> 40) % 256, (x >>> 32) % 256, (x >>> 24) % 256, (x >>> 16) % 256, (x >>> 8) % 256, x % 256] := pv_set (ys := [(x >>> 56) % 256, (x >>> 48) % 256, (x >>> 40) % 256, (x >>> 32) % 256, (x >>> 24) % 256, (x >>> 16) % 256, (x >>> 8) % 256]) rfl (by omega)
  rw [hs7] at hB9
  have hl8 : (pv l o [(x >>> 56) % 256, (x >>> 48) % 256, (x >>> 40) % 256, (x >>> 32) % 256, (x >>> 24) % 256, (x >>> 16) % 256, (x >>> 8) % 256, x % 256]).length = l.length := pv_len (by simp; omega)
  clear hB8
  refine l_nil ?_
  refine q_end0 (.inr rfl) rfl ?_
  exact ⟨_, rfl, rfl, by rw [be8_list]; exact hB9, (((((((((hK1.mono (fun i hi => by cases hi)).trans hKs2 (fun i hi => .inl hi)).trans hKs3 (fun i hi => .inl hi)).trans hKs4 (fun i hi => .inl hi)).trans hKs5 (fun i hi => .inl hi)).trans hKs6 (fun i hi => .inl hi)).trans hKs7 (fun i hi => .inl hi)).trans hKs8 (fun i hi => .inl hi)).trans hKs9 (fun i hi => .inl hi))⟩

theorem c_BBytes (b r : Nat) (xs : List Nat) (w : World) (hB : Buf w b r xs) (h0 : 0 < xs.length) :
    Cal Try.prog 49 [vP b] w fun v w' => ∃ c, v = vS r xs.length c ∧ w' = w.drew := by
  rcases hB with ⟨hrb, rfl, _⟩ | ⟨l, hBR, ht⟩
  · exact absurd h0 (by simp)
  obtain ⟨lr, hst⟩ := hBR.st
  have hst := hst.drew
  refine go_in' Try.func49 rfl Try.ntmps49 (Nat.le_of_ble_eq_true rfl) ?_
  refine c_seq ?_
  refine c_region ?_
  refine st (y_assign rfl) rfl ?_
  refine l_nil ?_
  refine q_then ?_
  refine c_seq ?_
  refine c_still mixed (by kernel_rfl) ?_
  refine ss (y_move rfl) rfl ?_
  refine ss (y_nil rfl) rfl ?_
  refine ss (fa79_0 rfl) rfl ?_
  refine ss (y_loadb rfl one42 (by assumption) (by rfl)) rfl ?_
  refine ss (y_move rfl) rfl ?_
  refine ss (y_nil rfl) rfl ?_
  refine ss (fa79_1 rfl) rfl ?_
  refine ss (y_loadb rfl one3 (by assumption) (by rfl)) rfl ?_
  refine ss (y_slice_0 rfl rfl Try.underlying42 sz5) rfl ?_
  refine ss (y_assign rfl) rfl ?_
  refine s_nil ?_
  refine q_then ?_
  refine c_ret ?_
  refine q_end1 (.inl rfl) rfl rfl ?_
  exact ⟨_, rfl, _, rfl, rfl⟩
theorem Buf.cells {w : World} {b r : Nat} {xs : List Nat} (hB : Buf w b r xs) (h0 : 0 < xs.length) : r < w.heap.size ∧ ∀ j, j < xs.length → w.cell? ((⟨r, 0, none⟩ : Addr).add j) = some (v8 (xs.getD j 0)) := by
  rcases hB with ⟨hrb, rfl, _⟩ | ⟨l, hBR, ht⟩
  · exact absurd h0 (by simp)
  refine ⟨hBR.row.lt, fun j hj => ?_⟩
  have hle := hBR.le
  rw [add_pt, Nat.zero_add]
  refine hBR.row.cell ?_
  rw [← ht, List.getElem?_map, List.getD_eq_getElem?_getD, List.getElem?_take, if_pos hj, List.getElem?_eq_getElem (by omega)]
  rfl

end Go.Proofs.Ytlhbbndedbacpaa

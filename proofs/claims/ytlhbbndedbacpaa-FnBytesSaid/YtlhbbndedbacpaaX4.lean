/- BinaryStorageSize, WriteTo, MarshalBinary, the thin package's Storage, Marshal and Write; each by its contract. -/
import Derived.Test.YtlhbbndedbacpaaX2
import Derived.Test.YtlhbbndedbacpaaX3
import Derived.Test.YtlhbbndedbacpaaC5
set_option linter.unusedVariables false
set_option linter.unusedSimpArgs false
set_option maxRecDepth 100000
set_option maxHeartbeats 1000000
namespace Go.Proofs.Ytlhbbndedbacpaa
open Go Go.RowKit

theorem setB_split (s : List Bool) : setB s = be8 s.length ++ byt (pack s) := by unfold setB byt; rw [List.flatMap_cons]

theorem c_BSS (p q : Nat) (s : List Bool) (w : World) (hB : BSet w p q s) (hs : s.length ≤ 6001) :
    Cal Try.prog 50 [vP p] w fun v w' => v = vI ((setB s).length : Nat) ∧ w = w' := by
  have hn : nW s.length ≤ 100 := by unfold nW; omega
  have hl := setB_len s
  have hpl := pack_length s
  refine go_in' Try.func50 rfl Try.ntmps50 (Nat.le_of_ble_eq_true rfl) ?_
  refine c_seq ?_
  refine c_region ?_
  refine st (y_assign (v := vI ((0 : Nat) : Int)) rfl) rfl ?_
  refine l_nil ?_
  refine q_then ?_
  refine c_seq ?_
  refine c_region ?_
  refine st (y_move rfl) rfl ?_
  refine sc rfl rfl isfn69 (c_wordCount p q s _ hB (by omega)) rfl ?_
  rintro _ _ ⟨rfl, rfl⟩
  first | refine st (y_mul_in (a := 8) rfl rfl (by omega)) rfl ?_ | refine st (y_mul_i (a := 8) rfl rfl (by omega) (by omega)) rfl ?_
  first | refine st (y_add_in (a := 8) rfl rfl (by omega)) rfl ?_ | refine st (y_add_i (a := 8) rfl rfl (by omega) (by omega)) rfl ?_
  refine st (y_assign rfl) rfl ?_
  refine l_nil ?_
  refine q_then ?_
  refine c_ret ?_
  refine q_end1 (.inl rfl) rfl rfl ?_
  exact ⟨_, rfl, by rw [hl, ← hpl], rfl⟩

theorem c_WriteTo (p q b : Nat) (s : List Bool) (w : World) (hB : BSet w p q s) (hs : s.length ≤ 6001) (hf : Buf w b b []) (hbp : b ≠ p) (hbq : b ≠ q) :
    Cal Try.prog 48 [vP p, .iface 82 (vP b)] w fun v w' => v = vT [vI ((setB s).length : Nat), .nilIface] ∧ ∃ r, Buf w' b r (setB s) ∧ w.heap.size ≤ r ∧ Keep w w' [b] := by
  have hn : nW s.length ≤ 100 := by unfold nW; omega
  have hlts := hB.lts
  have hpl := pack_length s
  have hb0 := hf.lts
  obtain ⟨tl, hW⟩ := id hB
  have hst := hW.st
  refine go_in' Try.func48 rfl Try.ntmps48 (Nat.le_of_ble_eq_true rfl) ?_
  refine c_seq ?_
  refine c_region ?_
  refine st (y_assign (v := vI ((0 : Nat) : Int)) rfl) rfl ?_
  refine st (y_assign rfl) rfl ?_
  refine l_nil ?_
  refine q_then ?_
  refine c_seq ?_
  refine c_region ?_
  refine st (y_move rfl) rfl ?_
  refine st (y_nil rfl) rfl ?_
  refine st (fa93_0 rfl) rfl ?_
  refine st (y_loadb rfl one22 (by assumption) (by rfl)) rfl ?_
  refine st (y_assign rfl) rfl ?_
  refine l_nil ?_
  refine q_then ?_
  refine c_seq ?_
  refine c_region ?_
  refine st_alloc [.int .u8 0, .int .u8 0, .int .u8 0, .int .u8 0, .int .u8 0, .int .u8 0, .int .u8 0, .int .u8 0] zv100 rfl rfl ?_
  intro b7 w1 hb7 hB7 hK1 hS1
  have hB7' : Blk w1.drew b7 100 ((List.replicate 8 0).map v8) := hB7
  have hb7l := hB7.lt
  refine l_nil ?_
  refine q_then ?_
  refine c_seq ?_
  refine c_tail 3 mixed (by kernel_rfl) ?_
  refine ss (y_load0 rfl agg102 us102 sz102) rfl ?_
  refine ss (y_sliceArr rfl Try.underlying100 sz5) rfl ?_
  refine ss (y_move rfl) rfl ?_
  refine s_nil ?_
  show wpL _ _ _ _ _ _ _ _
  refine sc rfl rfl isfn67 (c_PutU64 b7 0 8 8 s.length _ _ _ hB7' (by omega) (by simp) (by omega)) rfl ?_
  rintro _ w2 ⟨rfl, hB2, hK2⟩
  have hpv : pv (List.replicate 8 0) 0 (be8 s.length) = be8 s.length := by
    unfold pv
    rw [List.take_zero, List.nil_append, be8_len]
    simp
  rw [hpv] at hB2
  have hK12 : Keep w w2 [] := (hK1.trans (Keep.drew w1 []) (by simp)).trans hK2 (fun i hi => by simp only [List.mem_singleton] at hi; exact .inr (by omega))
  have hf2 := hf.keep hK12 (by simp) (by simp)
  have hf2d := hf2.keep (Keep.drew w2 []) (by simp) (by simp)
  have hB2d := hB2.drew
  have hb7d := hB2d.lt
  have hsrc : ∀ j v, ((be8 s.length).map v8)[j]? = some v → w2.drew.cell? ((⟨b7, 0, none⟩ : Addr).add j) = some v := by
    intro j v hv
    rw [add_pt, Nat.zero_add]
    exact hB2d.cell hv
  refine l_nil ?_
  refine q_then ?_
  refine c_seq ?_
  refine c_moves 12 ((fun _ => True)) (.take 0 (.take 1 (.take 2 (.take 3 (.take 4 (.one 5 (.take 6 (.take 7 (.take 8 (.take 9 (.take 10 .nil))))))))))) mixed (by kernel_rfl) rfl (by kernel_rfl) (trivial) ?_
  show wpM _ _ _ _ _ _ _ _ _
  refine mt rfl (fun w' hS => y_move rfl) rfl rfl ?_
  refine mt rfl (fun w' hS => y_sliceArr rfl Try.underlying100 sz5) rfl rfl ?_
  refine mt rfl (fun w' hS => y_makeFunc rfl rfl) rfl rfl ?_
  refine mt rfl (fun w' hS => y_nilM rfl (nil_Write _ _)) rfl rfl ?_
  refine mt rfl (fun w' hS => y_move rfl) rfl rfl ?_
  refine mh rfl ?_
  refine scM rfl rfl (inv_Write _ _ _) (c_Write b b [] _ hf2d (by simp) ⟨b7, 0, none⟩ 8 8 (be8 s.length) (by omega) (by omega) (be8_len _) (be8_lt _) hsrc hb7d (by simp only; omega) (by simp only; omega) (fun _ => by omega)) rfl ?_
  rintro _ w4 ⟨rfl, r4, hf4, hr4, hK4⟩
  refine l_nil ?_
  refine mh_end (trivial) ?_
  refine mt rfl (fun w' hS => y_move rfl) rfl rfl ?_
  refine mt rfl (fun w' hS => y_extract rfl rfl) rfl rfl ?_
  refine mt rfl (fun w' hS => y_extract rfl rfl) rfl rfl ?_
  refine mt rfl (fun w' hS => y_assign rfl) rfl rfl ?_
  refine mt rfl (fun w' hS => y_assign rfl) rfl rfl ?_
  refine m_nil ?_
  refine q_then ?_
  refine c_seq ?_
  refine c_seq ?_
  refine c_region ?_
  refine st (y_move rfl) rfl ?_
  refine st (y_neqI rfl ifErr) rfl ?_
  have hwr : w.heap.size ≤ r4 ∨ r4 = b := by
    rcases hr4 with h | h
    · exact .inr h
    · left; have := hK12.size; simp at h; omega
  rw [List.nil_append] at hf4
  have hK14 : Keep w w4 [b] := ((hK12.trans (Keep.drew w2 []) (by simp)).mono (fun i hi => by cases hi)).trans hK4 (fun i hi => by simp only [List.mem_cons, List.not_mem_nil, or_false, or_self] at hi; subst hi; exact .inl (by simp))
  have hr4b : r4 ≠ b := by
    rcases hf4 with ⟨_, h, _⟩ | ⟨l, h, _⟩
    · exact absurd h (by rw [be8_list]; simp)
    · exact h.ne
  have hr4w : w.heap.size ≤ r4 := hwr.resolve_right hr4b
  have hB4 := hB.keep hK14 (by simp only [List.mem_singleton]; exact hbp.symm) (by simp only [List.mem_singleton]; exact hbq.symm)
  have hB4d := hB4.keep (Keep.drew w4 []) (by simp) (by simp)
  have hf4d := hf4.keep (Keep.drew w4 []) (by simp) (by simp)
  clear hst
  obtain ⟨tl4, hW4⟩ := hB4d
  have hst := hW4.st
  have hq4 := hW4.wd
  have hc4 := hW4.cap
  have h8 := be8_len s.length
  refine l_nil ?_
  refine q_then ?_
  refine c_false rfl rfl ?_
  refine c_skip ?_
  refine q_then ?_
  refine c_seq ?_
  refine c_moves 11 ((fun w' => Blk w' p 93 [vU s.length, vS q (pack s).length ((pack s).length + tl4.length)])) (.take 0 (.take 1 (.take 2 (.take 3 (.take 4 (.take 5 (.one 6 (.take 7 (.one 8 (.take 9 .nil)))))))))) mixed (by kernel_rfl) rfl (by kernel_rfl) (hst) ?_
  show wpM _ _ _ _ _ _ _ _ _
  refine mt rfl (fun w' hS => y_move rfl) rfl rfl ?_
  refine mt rfl (fun w' hS => y_move rfl) rfl rfl ?_
  refine mt rfl (fun w' hS => y_nil rfl) rfl rfl ?_
  refine mt rfl (fun w' hS => fa93_1 rfl) rfl rfl ?_
  refine mt rfl (fun w' hS => y_loadb rfl one69 (by first | assumption | exact hS | exact hS.1 | exact hS.2.1 | exact hS.2.2.1 | exact hS.2.2.2.1 | exact hS.2 | exact hS.2.2 | exact hS.2.2.2) (by rfl)) rfl rfl ?_
  refine mt rfl (fun w' hS => y_move rfl) rfl rfl ?_
  refine mh rfl ?_
  refine sc rfl rfl isfn69 (c_wordCount p q s _ ⟨tl4, hW4⟩ (by omega)) rfl ?_
  rintro _ _ ⟨rfl, rfl⟩
  refine l_nil ?_
  refine mh_end (hst) ?_
  refine mt rfl (fun w' hS => y_slice_h rfl rfl Try.underlying69 sz34 (by omega)) rfl rfl ?_
  refine mh rfl ?_
  refine sc rfl rfl isfn68 (c_wU64 b r4 (be8 s.length) q _ (pack s) tl4 _ hf4d (by omega) (by omega) hq4 (by omega) (pack_lt s) (by omega) (by omega) (by omega) hc4) rfl ?_
  rintro _ w5 ⟨rfl, r5, hf5, hr5, hK5⟩
  have hst5 := hst.keep hK5 (by simp only [List.mem_cons, List.not_mem_nil, or_false]; omega)
  refine l_nil ?_
  refine mh_end (hst5) ?_
  refine mt rfl (fun w' hS => y_assign rfl) rfl rfl ?_
  refine m_nil ?_
  refine q_then ?_
  refine c_seq ?_
  refine c_seq ?_
  refine c_region ?_
  refine st (y_move rfl) rfl ?_
  refine st (y_neqI rfl ifErr) rfl ?_
  have hK15 : Keep w w5 [b] := (hK14.trans (Keep.drew w4 []) (by simp)).trans hK5 (fun i hi => by simp only [List.mem_cons, List.not_mem_nil, or_false] at hi; simp only [List.mem_singleton]; omega)
  refine l_nil ?_
  refine q_then ?_
  refine c_false rfl rfl ?_
  refine c_skip ?_
  refine q_then ?_
  refine c_seq ?_
  refine c_region ?_
  refine st (y_move rfl) rfl ?_
  refine sc rfl rfl isfn50 (c_BSS p q s _ (hB.keep hK15 (by simp only [List.mem_singleton]; exact hbp.symm) (by simp only [List.mem_singleton]; exact hbq.symm)) hs) rfl ?_
  rintro _ _ ⟨rfl, rfl⟩
  refine st (y_assign rfl) rfl ?_
  refine st (y_assign rfl) rfl ?_
  refine l_nil ?_
  refine q_then ?_
  refine c_ret ?_
  refine q_end2 (.inl rfl) rfl rfl rfl ?_
  have hsz4 := hK14.size
  exact ⟨_, rfl, rfl, r5, by rw [setB_split]; exact hf5, by simp at hr5; omega, hK15⟩

theorem Buf.rd8 {w : World} {b r : Nat} {xs : List Nat} (hB : Buf w b r xs) (h0 : 0 < xs.length) (hl : xs.length ≤ 1000000) : Rd8 w (some ⟨r, 0, none⟩) xs.length xs :=
  ⟨rfl, by omega, fun _ => ⟨_, rfl, (hB.cells h0).1, (hB.cells h0).2⟩⟩
theorem Blk.rd8 {w : World} {b m : Nat} {t : TypeId} {xs ys : List Nat} (hB : Blk w b t ((xs ++ ys).map v8)) (hm : xs.length = m) (hl : m ≤ 1000000) : Rd8 w (some ⟨b, 0, none⟩) m xs := by
  refine ⟨hm, by omega, fun _ => ⟨_, rfl, hB.lt, fun j hj => ?_⟩⟩
  rw [add_pt, Nat.zero_add]
  refine hB.cell ?_
  rw [List.map_append, List.getElem?_append_left (by simpa using (by omega : j < xs.length)), List.getElem?_map, List.getD_eq_getElem?_getD, List.getElem?_eq_getElem (by omega)]
  rfl

theorem c_MarshalB (p q : Nat) (s : List Bool) (w : World) (hB : BSet w p q s) (hs : s.length ≤ 6001) :
    Cal Try.prog 46 [vP p] w fun v w' => ∃ r c, v = vT [vS r (setB s).length c, .nilIface] ∧ Rd8 w' (some ⟨r, 0, none⟩) (setB s).length (setB s) ∧ Keep w w' [] := by
  have hn : nW s.length ≤ 100 := by unfold nW; omega
  have hl := setB_len s
  have hlts := hB.lts
  refine go_in' Try.func46 rfl Try.ntmps46 (Nat.le_of_ble_eq_true rfl) ?_
  refine c_seq ?_
  refine c_region ?_
  refine st (y_assign rfl) rfl ?_
  refine st (y_assign rfl) rfl ?_
  refine l_nil ?_
  refine q_then ?_
  refine c_seq ?_
  refine c_region ?_
  refine st_alloc [.slice none 0 0, .int .i64 0, .int .i8 0] zv79 rfl rfl ?_
  intro b w1 hb hB1 hK1 hS1
  have hf1 : Buf w1 b b [] := .inl ⟨rfl, rfl, 0, hB1⟩
  refine l_nil ?_
  refine q_then ?_
  refine c_seq ?_
  refine c_region ?_
  refine st (y_move rfl) rfl ?_
  refine st (y_mkIface rfl Try.underlying82) rfl ?_
  refine sc rfl rfl isfn48 (c_WriteTo p q b s _ (hB.keep hK1 (by simp) (by simp)) hs hf1 (by omega) (by omega)) rfl ?_
  rintro _ w2 ⟨rfl, r, hf2, hr, hK2⟩
  have hK12 : Keep w w2 [] := hK1.trans hK2 (fun i hi => by simp only [List.mem_singleton] at hi; exact .inr (by omega))
  refine st (y_move rfl) rfl ?_
  refine st (y_extract rfl rfl) rfl ?_
  refine st (y_extract rfl rfl) rfl ?_
  refine st (y_assign rfl) rfl ?_
  refine st (y_assign rfl) rfl ?_
  refine l_nil ?_
  refine q_then ?_
  refine c_seq ?_
  refine c_seq ?_
  refine c_region ?_
  refine st (y_move rfl) rfl ?_
  refine st (y_neqI rfl ifErr) rfl ?_
  refine l_nil ?_
  refine q_then ?_
  refine c_false rfl rfl ?_
  refine c_skip ?_
  refine q_then ?_
  refine c_seq ?_
  refine c_region ?_
  refine sc rfl rfl isfn49 (c_BBytes b r _ _ hf2 (by omega)) rfl ?_
  rintro _ _ ⟨c, rfl, rfl⟩
  refine st (y_move rfl) rfl ?_
  refine st (y_assign rfl) rfl ?_
  refine st (y_assign rfl) rfl ?_
  refine l_nil ?_
  refine q_then ?_
  refine c_ret ?_
  refine q_end2 (.inl rfl) rfl rfl rfl ?_
  exact ⟨_, rfl, r, c, rfl, (hf2.keep (Keep.drew w2 []) (by simp) (by simp)).rd8 (by omega) (by omega), hK12.trans (Keep.drew w2 []) (by simp)⟩

theorem c_implStorage (L : Nat) (A : Option Addr) (n c : Nat) (xs : List Nat) (w : World) (hR : Rd w A n xs) (hL : L ≤ 6000) (hx : ∀ x ∈ xs, x ≤ 6000) :
    Cal Try.prog 28 [aB L A n c] w fun v w' => v = vI ((setB (mkS L xs)).length : Nat) ∧ Keep w w' [] := by
  have hlen : (mkS L xs).length ≤ 6001 := mkS_length_le L 6001 xs (by omega) fun x h => by have := hx x h; omega
  refine go_in' Try.func28 rfl Try.ntmps28 (Nat.le_of_ble_eq_true rfl) ?_
  refine c_seq ?_
  refine c_region ?_
  refine st_box _ rfl rfl rfl ?_
  intro b1 w1 hb1 hB1 hK1 hS1
  refine st (y_assign (v := vI ((0 : Nat) : Int)) rfl) rfl ?_
  refine l_nil ?_
  refine q_then ?_
  refine c_seq ?_
  refine c_region ?_
  refine st (y_loadagg rfl agg25 us25 sz25 (by assumption) (by simp) (by rfl)) rfl ?_
  refine sc rfl rfl isfn36 (c_made L A n c xs _ (hR.keep hK1 (by simp)) hL hx) rfl ?_
  rintro _ w3 ⟨p, q, rfl, hp, hq, hS, hK3⟩
  have hK13 := hK1.trans hK3 (by simp)
  refine st (y_move rfl) rfl ?_
  refine st (y_extract rfl rfl) rfl ?_
  refine st (y_extract rfl rfl) rfl ?_
  refine st (y_assign rfl) rfl ?_
  refine st (y_assign rfl) rfl ?_
  refine l_nil ?_
  refine q_then ?_
  refine c_seq ?_
  refine c_seq ?_
  refine c_region ?_
  refine st (y_move rfl) rfl ?_
  refine st (y_not rfl) rfl ?_
  refine l_nil ?_
  refine q_then ?_
  refine c_false rfl rfl ?_
  refine c_skip ?_
  refine q_then ?_
  refine c_seq ?_
  refine c_region ?_
  refine st (y_move rfl) rfl ?_
  refine sc rfl rfl isfn50 (c_BSS p q _ _ hS hlen) rfl ?_
  rintro _ _ ⟨rfl, rfl⟩
  refine st (y_assign rfl) rfl ?_
  refine l_nil ?_
  refine q_then ?_
  refine c_ret ?_
  refine q_end1 (.inl rfl) rfl rfl ?_
  exact ⟨_, rfl, rfl, hK13⟩

theorem c_implMarshal (L : Nat) (A : Option Addr) (n c : Nat) (xs : List Nat) (w : World) (hR : Rd w A n xs) (hL : L ≤ 6000) (hx : ∀ x ∈ xs, x ≤ 6000) :
    Cal Try.prog 26 [aB L A n c] w fun v w' => ∃ r c, v = vT [vS r (setB (mkS L xs)).length c, vB true] ∧ Rd8 w' (some ⟨r, 0, none⟩) (setB (mkS L xs)).length (setB (mkS L xs)) ∧ Keep w w' [] := by
  have hlen : (mkS L xs).length ≤ 6001 := mkS_length_le L 6001 xs (by omega) fun x h => by have := hx x h; omega
  refine go_in' Try.func26 rfl Try.ntmps26 (Nat.le_of_ble_eq_true rfl) ?_
  refine c_seq ?_
  refine c_region ?_
  refine st_box _ rfl rfl rfl ?_
  intro b1 w1 hb1 hB1 hK1 hS1
  refine st (y_assign rfl) rfl ?_
  refine st (y_assign rfl) rfl ?_
  refine l_nil ?_
  refine q_then ?_
  refine c_seq ?_
  refine c_region ?_
  refine st (y_loadagg rfl agg25 us25 sz25 (by assumption) (by simp) (by rfl)) rfl ?_
  refine sc rfl rfl isfn36 (c_made L A n c xs _ (hR.keep hK1 (by simp)) hL hx) rfl ?_
  rintro _ w3 ⟨p, q, rfl, hp, hq, hS, hK3⟩
  have hK13 := hK1.trans hK3 (by simp)
  obtain ⟨s, hs⟩ : ∃ s, mkS L xs = s := ⟨_, rfl⟩
  rw [hs] at hS hlen ⊢
  have hn : nW s.length ≤ 100 := by unfold nW; omega
  have hl := setB_len s
  refine st (y_move rfl) rfl ?_
  refine st (y_extract rfl rfl) rfl ?_
  refine st (y_extract rfl rfl) rfl ?_
  refine st (y_assign rfl) rfl ?_
  refine st (y_assign rfl) rfl ?_
  refine l_nil ?_
  refine q_then ?_
  refine c_seq ?_
  refine c_seq ?_
  refine c_region ?_
  refine st (y_move rfl) rfl ?_
  refine st (y_not rfl) rfl ?_
  refine l_nil ?_
  refine q_then ?_
  refine c_false rfl rfl ?_
  refine c_skip ?_
  refine q_then ?_
  refine c_seq ?_
  refine c_region ?_
  refine st (y_move rfl) rfl ?_
  refine sc rfl rfl isfn46 (c_MarshalB p q s _ hS hlen) rfl ?_
  rintro _ w4 ⟨r4, c4, rfl, hR4, hK4⟩
  have hK14 := hK13.trans hK4 (by simp)
  have hR4d := hR4.keep (Keep.drew w4 []) (by simp)
  refine st (y_move rfl) rfl ?_
  refine st (y_extract rfl rfl) rfl ?_
  refine st (y_extract rfl rfl) rfl ?_
  refine st (y_assign rfl) rfl ?_
  refine st (y_assign rfl) rfl ?_
  refine l_nil ?_
  refine q_then ?_
  refine c_seq ?_
  refine c_moves 7 ((fun _ => True)) (.take 0 (.take 2 (.take 3 (.one 1 (.take 4 (.take 5 .nil)))))) mixed (by kernel_rfl) rfl (by kernel_rfl) (trivial) ?_
  show wpM _ _ _ _ _ _ _ _ _
  refine mt rfl (fun w' hS => y_move rfl) rfl rfl ?_
  refine mt rfl (fun w' hS => y_move rfl) rfl rfl ?_
  refine mt rfl (fun w' hS => y_eqlI rfl ifErr) rfl rfl ?_
  refine mh rfl ?_
  refine sc rfl rfl isfn47 (c_Clone8 (some ⟨r4, 0, none⟩) _ c4 _ (fun h => by cases h) (by omega) _ hR4d) rfl ?_
  rintro v5 w5 ⟨hK5, hcl⟩
  rcases hcl with ⟨hn0, _⟩ | ⟨hn0, b5, c5, rfl, hc1, hc2, hb5, hB5⟩
  · exact absurd hn0 (by omega)
  ·
    refine l_nil ?_
    refine mh_end (trivial) ?_
    refine mt rfl (fun w' hS => y_assign rfl) rfl rfl ?_
    refine mt rfl (fun w' hS => y_assign rfl) rfl rfl ?_
    refine m_nil ?_
    refine q_then ?_
    refine c_ret ?_
    refine q_end2 (.inl rfl) rfl rfl rfl ?_
    exact ⟨_, rfl, b5, c5, rfl, hB5.rd8 rfl (by omega), (hK14.trans (Keep.drew w4 []) (by simp)).trans hK5 (by simp)⟩

theorem c_implWrite (L : Nat) (A : Option Addr) (n c : Nat) (xs : List Nat) (w : World) (hR : Rd w A n xs) (hL : L ≤ 6000) (hx : ∀ x ∈ xs, x ≤ 6000) :
    Cal Try.prog 27 [aB L A n c] w fun v w' => ∃ r c, v = vT [vS r (setB (mkS L xs)).length c, vI ((setB (mkS L xs)).length : Nat), vB true] ∧ Rd8 w' (some ⟨r, 0, none⟩) (setB (mkS L xs)).length (setB (mkS L xs)) ∧ Keep w w' [] := by
  have hlen : (mkS L xs).length ≤ 6001 := mkS_length_le L 6001 xs (by omega) fun x h => by have := hx x h; omega
  refine go_in' Try.func27 rfl Try.ntmps27 (Nat.le_of_ble_eq_true rfl) ?_
  refine c_seq ?_
  refine c_region ?_
  refine st_box _ rfl rfl rfl ?_
  intro b1 w1 hb1 hB1 hK1 hS1
  refine st (y_assign rfl) rfl ?_
  refine st (y_assign (v := vI ((0 : Nat) : Int)) rfl) rfl ?_
  refine st (y_assign rfl) rfl ?_
  refine l_nil ?_
  refine q_then ?_
  refine c_seq ?_
  refine c_region ?_
  refine st (y_loadagg rfl agg25 us25 sz25 (by assumption) (by simp) (by rfl)) rfl ?_
  refine sc rfl rfl isfn36 (c_made L A n c xs _ (hR.keep hK1 (by simp)) hL hx) rfl ?_
  rintro _ w3 ⟨p, q, rfl, hp, hq, hS, hK3⟩
  have hK13 := hK1.trans hK3 (by simp)
  obtain ⟨s, hs⟩ : ∃ s, mkS L xs = s := ⟨_, rfl⟩
  rw [hs] at hS hlen ⊢
  have hn : nW s.length ≤ 100 := by unfold nW; omega
  have hl := setB_len s
  have hlts := hS.lts
  refine st (y_move rfl) rfl ?_
  refine st (y_extract rfl rfl) rfl ?_
  refine st (y_extract rfl rfl) rfl ?_
  refine st (y_assign rfl) rfl ?_
  refine st (y_assign rfl) rfl ?_
  refine l_nil ?_
  refine q_then ?_
  refine c_seq ?_
  refine c_seq ?_
  refine c_region ?_
  refine st (y_move rfl) rfl ?_
  refine st (y_not rfl) rfl ?_
  refine l_nil ?_
  refine q_then ?_
  refine c_false rfl rfl ?_
  refine c_skip ?_
  refine q_then ?_
  refine c_seq ?_
  refine c_region ?_
  refine st_alloc [.slice none 0 0, .int .i64 0, .int .i8 0] zv79 rfl rfl ?_
  intro b w4 hb hB4 hK4 hS4
  have hf4 : Buf w4 b b [] := .inl ⟨rfl, rfl, 0, hB4⟩
  refine l_nil ?_
  refine q_then ?_
  refine c_seq ?_
  refine c_region ?_
  refine st (y_move rfl) rfl ?_
  refine st (y_mkIface rfl Try.underlying82) rfl ?_
  refine sc rfl rfl isfn48 (c_WriteTo p q b s _ (hS.keep hK4 (by simp) (by simp)) hlen hf4 (by omega) (by omega)) rfl ?_
  rintro _ w5 ⟨rfl, r, hf5, hr, hK5⟩
  have hsz3 := hK13.size
  have hK15 : Keep w w5 [] := (hK13.trans hK4 (by simp)).trans hK5 (fun i hi => by simp only [List.mem_singleton] at hi; exact .inr (by omega))
  have hf5d := hf5.keep (Keep.drew w5 []) (by simp) (by simp)
  refine st (y_move rfl) rfl ?_
  refine st (y_extract rfl rfl) rfl ?_
  refine st (y_extract rfl rfl) rfl ?_
  refine st (y_assign rfl) rfl ?_
  refine st (y_assign rfl) rfl ?_
  refine l_nil ?_
  refine q_then ?_
  refine c_seq ?_
  refine c_moves 9 ((fun _ => True)) (.take 2 (.take 3 (.take 4 (.one 0 (.one 1 (.take 5 (.take 6 (.take 7 .nil)))))))) mixed (by kernel_rfl) rfl (by kernel_rfl) (trivial) ?_
  show wpM _ _ _ _ _ _ _ _ _
  refine mt rfl (fun w' hS => y_move rfl) rfl rfl ?_
  refine mt rfl (fun w' hS => y_move rfl) rfl rfl ?_
  refine mt rfl (fun w' hS => y_eqlI rfl ifErr) rfl rfl ?_
  refine mh rfl ?_
  refine sc rfl rfl isfn49 (c_BBytes b r _ _ hf5d (by omega)) rfl ?_
  rintro _ _ ⟨c6, rfl, rfl⟩
  have hR6 := (hf5d.keep (Keep.drew _ []) (by simp) (by simp)).rd8 (by omega) (by omega)
  refine l_nil ?_
  refine mh_end (trivial) ?_
  refine mh rfl ?_
  refine sc rfl rfl isfn47 (c_Clone8 (some ⟨r, 0, none⟩) _ c6 _ (fun h => by cases h) (by omega) _ hR6) rfl ?_
  rintro v7 w7 ⟨hK7, hcl⟩
  rcases hcl with ⟨hn0, _⟩ | ⟨hn0, b7, c7, rfl, hc1, hc2, hb7, hB7⟩
  · exact absurd hn0 (by omega)
  ·
    refine l_nil ?_
    refine mh_end (trivial) ?_
    refine mt rfl (fun w' hS => y_assign rfl) rfl rfl ?_
    refine mt rfl (fun w' hS => y_assign rfl) rfl rfl ?_
    refine mt rfl (fun w' hS => y_assign rfl) rfl rfl ?_
    refine m_nil ?_
    refine q_then ?_
    refine c_ret ?_
    refine q_end3 (.inl rfl) rfl rfl rfl rfl ?_
    exact ⟨_, rfl, b7, c7, rfl, hB7.rd8 rfl (by omega), ((hK15.trans (Keep.drew w5 []) (by simp)).trans (Keep.drew _ []) (by simp)).trans hK7 (by simp)⟩

end Go.Proofs.Ytlhbbndedbacpaa

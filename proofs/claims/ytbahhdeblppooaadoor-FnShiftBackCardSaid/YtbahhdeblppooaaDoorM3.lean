/- top, ShiftLeft, ShiftRight, each by its contract. -/
import Derived.Test.YtbahhdeblppooaaDoorM1
import Derived.Test.YtbahhdeblppooaaDoorG2
import Derived.Test.YtbahhdeblppooaaDoorL21
set_option linter.unusedVariables false
set_option linter.unusedSimpArgs false
set_option maxRecDepth 100000
set_option maxHeartbeats 2000000
namespace Go.Proofs.YtbahhdeblppooaaDoor
open Go Go.RowKit

/-- the greatest number of a set -/
def Top (s : List Bool) (x : Nat) : Prop := s.getD x false = true ∧ ∀ j, x < j → s.getD j false = false
theorem Top.lt {s : List Bool} {x : Nat} (h : Top s x) : x < s.length := by
  rcases Nat.lt_or_ge x s.length with h1 | h1
  · exact h1
  · have := h.1; rw [getD_ge s false h1] at this; cases this
theorem subk_int {k : Nat} (h : 0 < k) : ((k : Int) - 1) = ((k - 1 : Nat) : Int) := by omega

theorem c_top (p q : Nat) (s : List Bool) (w : World) (hB : BSet w p q s) (hs : s.length ≤ 100001) :
    Cal Tryd.prog 46 [vP p] w fun v w' => w = w' ∧ ((∃ x, v = vT [vU x, vB true] ∧ Top s x) ∨ (v = vT [vU 0, vB false] ∧ ∀ j, s.getD j false = false)) := by
  obtain ⟨tl, hB⟩ := hB
  have hlen := pack_length s
  have hn : (pack s).length ≤ 2000 := by rw [pack_length]; unfold nW; omega
  have hst := hB.st
  have hwd := hB.wd
  refine go_in' Tryd.func46 rfl Tryd.ntmps46 (Nat.le_of_ble_eq_true rfl) ?_
  refine c_seq ?_
  refine c_region ?_
  refine st (y_assign (v := vU 0) rfl) rfl ?_
  refine st (y_assign rfl) rfl ?_
  refine l_nil ?_
  refine q_then ?_
  refine c_seq ?_
  refine c_seq ?_
  refine c_region ?_
  refine st (y_move rfl) rfl ?_
  refine st (y_nil rfl) rfl ?_
  refine st (fa66_1 rfl) rfl ?_
  refine st (y_loadb rfl one64 (by assumption) (by rfl)) rfl ?_
  refine st (y_len rfl Tryd.underlying64) rfl ?_
  refine st (y_sub_i (b := 1) rfl rfl (by omega) (by omega)) rfl ?_
  refine st (y_assign rfl) rfl ?_
  refine l_nil ?_
  refine q_then ?_
  refine c_block ?_
  refine c_loop (fun k : Nat => [(0, vP p), (4, vI ((k : Int) - 1))]) (fun k w' => w = w' ∧ k ≤ (pack s).length ∧ ∀ j, 64 * k ≤ j → s.getD j false = false) (fun k => k) (pack s).length ?_ ?_ ?_
  · exact ⟨rfl, rfl, trivial⟩
  · exact ⟨rfl, Nat.le_refl _, fun j hj => getD_ge s false (by unfold nW at hlen; omega)⟩
  · rintro k w1 ⟨rfl, hk, hz⟩
    refine c_seq ?_
    refine c_seq ?_
    refine c_region ?_
    refine st (y_move rfl) rfl ?_
    refine st_if (y_ge_i (b := 0) rfl rfl) rfl (fun hge => ?_) (fun hge => ?_)
    · have hk0 : 0 < k := by omega
      have hj : k - 1 < (pack s).length := by omega
      have hg2 : (pack s ++ tl).getD (k - 1) 0 = wordAt s (k - 1) := by rw [getD_app hj, pack_getD]
      have hw64 := wordAt_lt s (k - 1)
      have hlw := lg_le (n := 64) hw64
      have hwb : ∀ t, t < 64 → (wordAt s (k - 1)).testBit t = (decide (64 * (k - 1) + t ≤ 64 * k) && s.getD (64 * (k - 1) + t) false) := fun t ht => by
        rw [wordAt_testBit]; simp [ht, show 64 * (k - 1) + t ≤ 64 * k by omega]
      rw [subk_int hk0]
      have hst2 := hB.st
      have hwd2 := hB.wd
      refine l_nil ?_
      refine q_then ?_
      refine c_true rfl rfl ?_
      refine c_skip ?_
      refine q_then ?_
      refine c_seq ?_
      refine c_block ?_
      refine c_seq ?_
      refine c_region ?_
      refine st (y_move rfl) rfl ?_
      refine st (y_nil rfl) rfl ?_
      refine st (fa66_1 rfl) rfl ?_
      refine st (y_loadb rfl one64 (by assumption) (by rfl)) rfl ?_
      refine st (y_move rfl) rfl ?_
      first | refine st (y_index0 rfl rfl Tryd.underlying64 sz67 (by omega)) rfl ?_ | refine st (y_index rfl rfl Tryd.underlying64 sz67 (by omega)) rfl ?_ | refine st (y_indexA rfl rfl Tryd.underlying64 sz67 (by omega)) rfl ?_
      first | refine st (y_loadM (0) rfl one67 (by assumption) (by first | omega | (simp only [List.length_append, List.length_map, List.length_replicate, List.length_set, List.length_take, List.length_drop]; omega) | (simp; done))) rfl ?_ | refine st (y_load rfl one67 (by assumption)) rfl ?_
      rw [hg2]
      refine st (y_assign rfl) rfl ?_
      refine l_nil ?_
      refine q_then ?_
      refine c_seq ?_
      refine c_region ?_
      refine st (y_move rfl) rfl ?_
      refine st_if (y_ne_u (b := 0) rfl rfl) rfl (fun hw0 => ?_) (fun hw0 => ?_)
      · have hp := lg_pos hw0
        have hpw := prv_word (f := fun j => s.getD j false) (i := 64 * k) hw0 hw64 (show k - 1 ≤ 64 * k / 64 by omega) hwb (fun j h1 h2 => hz j (by omega))
        refine l_nil ?_
        refine q_then ?_
        refine c_true rfl rfl ?_
        refine c_seq ?_
        refine c_region ?_
        refine st (y_move rfl) rfl ?_
        refine st (y_shl_i (k := 6) rfl rfl (by omega) (by omega) (by omega)) rfl ?_
        rw [show (((k - 1 : Nat) : Int) * 2 ^ 6) = ((64 * (k - 1) : Nat) : Int) by omega]
        refine st (y_move rfl) rfl ?_
        refine sc rfl rfl isfn42 (c_Len64 _ hw64 _) rfl ?_
        rintro _ _ ⟨rfl, rfl⟩
        first | refine st (y_add_in rfl rfl (by omega)) rfl ?_ | refine st (y_add_i rfl rfl (by omega) (by omega)) rfl ?_
        refine st (y_conv_iu rfl us3 Tryd.underlying22 rfl (by omega)) rfl ?_
        refine st (y_sub_u (b := 1) rfl rfl (by omega) (by omega)) rfl ?_
        refine st (y_assign rfl) rfl ?_
        refine st (y_assign rfl) rfl ?_
        refine l_nil ?_
        refine q_then ?_
        refine c_ret ?_
        refine q_block_ret ?_
        refine q_then_ret ?_
        refine q_then_ret ?_
        refine q_block_ret ?_
        refine q_then_ret ?_
        refine q_end2 (.inl rfl) rfl rfl rfl ?_
        refine ⟨_, rfl, rfl, .inl ⟨_, rfl, hpw.2.1, fun j h1 => ?_⟩⟩
        rcases Nat.lt_or_ge (64 * k) j with h2 | h2
        · exact hz j (by omega)
        · exact hpw.2.2 j h1 h2
      ·
        have hw00 : wordAt s (k - 1) = 0 := by omega
        have hpn2 := prv_none (f := fun j => s.getD j false) (i := 64 * k) hw00 hwb (fun j h1 h2 => hz j (by omega))
        refine l_nil ?_
        refine q_then ?_
        refine c_false rfl rfl ?_
        refine c_skip ?_
        refine q_block ?_
        refine q_then ?_
        refine c_region ?_
        refine st (y_move rfl) rfl ?_
        refine st (y_sub_i (b := 1) rfl rfl (by omega) (by omega)) rfl ?_
        refine st (y_assign rfl) rfl ?_
        refine l_nil ?_
        refine q_round (k - 1) ⟨rfl, rfl, trivial⟩ ⟨rfl, by omega, fun j h1 => ?_⟩ (by omega)
        rcases Nat.lt_or_ge (64 * k) j with h2 | h2
        · exact hz j (by omega)
        · exact hpn2 j h1 h2
    ·
      refine l_nil ?_
      refine q_then ?_
      refine c_false rfl rfl ?_
      refine c_exit ?_
      refine q_then_exit ?_
      refine q_then_exit ?_
      refine q_block_hit ?_
      refine q_then ?_
      refine c_seq ?_
      refine c_region ?_
      refine st (y_assign (v := vU 0) rfl) rfl ?_
      refine st (y_assign rfl) rfl ?_
      refine l_nil ?_
      refine q_then ?_
      refine c_ret ?_
      refine q_end2 (.inl rfl) rfl rfl rfl ?_
      exact ⟨_, rfl, rfl, .inr ⟨rfl, fun j => hz j (by omega)⟩⟩

/-- while words are moved: the set at p, its words at q, the words that are being made at d (which may be q) -/
structure Sh (w : World) (p q d L : Nat) (s : List Bool) (tl W dtl : List Nat) : Prop where
  st : Blk w p 66 [vU L, vS q (pack s).length ((pack s).length + tl.length)]
  wd : Blk w d 67 ((W ++ dtl).map vU)
  src : ∃ Qc : List Nat, Blk w q 67 (Qc.map vU) ∧ (pack s).length ≤ Qc.length ∧ ((q = d ∧ Qc = W ++ dtl) ∨ (q ≠ d ∧ Qc = pack s ++ tl))
  lt : ∀ x ∈ W, x < 18446744073709551616
  np : p ≠ q ∧ p ≠ d
  cap : W.length + dtl.length ≤ 9223372036854775807
theorem Sh.store {w w' : World} {p q d L j x : Nat} {s : List Bool} {tl W dtl : List Nat} (h : Sh w p q d L s tl W dtl) (hd : Blk w' d 67 (((W ++ dtl).set j x).map vU)) (hK : Keep w w' [d]) (hx : x < 18446744073709551616) (hj : j < W.length) : Sh w' p q d L s tl (W.set j x) dtl := by
  rw [List.set_append_left _ _ hj] at hd
  obtain ⟨Qc, h1, h2, h3⟩ := h.src
  refine ⟨h.st.keep hK (by simpa using h.np.2), hd, ?_, set_lt64 h.lt hx, h.np, by simpa using h.cap⟩
  rcases h3 with ⟨e, h3⟩ | ⟨e, h3⟩
  · refine ⟨W.set j x ++ dtl, by rw [e]; exact hd, ?_, .inl ⟨e, rfl⟩⟩
    rw [h3] at h2; simpa using h2
  · exact ⟨Qc, h1.keep hK (by simpa using e), h2, .inr ⟨e, h3⟩⟩
theorem Sh.drew {w : World} {p q d L : Nat} {s : List Bool} {tl W dtl : List Nat} (h : Sh w p q d L s tl W dtl) : Sh w.drew p q d L s tl W dtl := by
  obtain ⟨Qc, h1, h2, h3⟩ := h.src
  exact ⟨h.st.drew, h.wd.drew, ⟨Qc, h1.drew, h2, h3⟩, h.lt, h.np, h.cap⟩
theorem Sh.read {w : World} {p q d L : Nat} {s : List Bool} {tl W dtl : List Nat} (h : Sh w p q d L s tl W dtl) {D : List Nat} (hD : q = d → D = pack s) : ∃ Qc : List Nat, Blk w q 67 (Qc.map vU) ∧ (pack s).length ≤ Qc.length ∧ ∀ i, i < (pack s).length → W.getD i 0 = D.getD i 0 → i < W.length → Qc.getD i 0 = wordAt s i := by
  obtain ⟨Qc, h1, h2, h3⟩ := h.src
  refine ⟨Qc, h1, h2, fun i hi hW hl => ?_⟩
  rcases h3 with ⟨e, h3⟩ | ⟨e, h3⟩
  · rw [h3, getD_app hl, hW, hD e, pack_getD]
  · rw [h3, getD_app hi, pack_getD]
theorem over_part (xs ys : List Nat) (o m : Nat) (h1 : m ≤ xs.length) (h2 : o + m ≤ ys.length) : over (ys.map vU) o (((xs.map vU).drop 0).take m) = (ys.take o ++ xs.take m ++ ys.drop (o + m)).map vU := by
  unfold over
  rw [List.drop_zero, List.length_take, List.length_map, Nat.min_eq_left h1, ← List.map_take, ← List.map_take, ← List.map_drop, ← List.map_append, ← List.map_append]
theorem part_getD (xs ys : List Nat) (o m j : Nat) (h1 : m ≤ xs.length) (h2 : o + m ≤ ys.length) : (ys.take o ++ xs.take m ++ ys.drop (o + m)).getD j 0 = if j < o then ys.getD j 0 else if j < o + m then xs.getD (j - o) 0 else ys.getD j 0 := by
  simp only [List.getD_eq_getElem?_getD]
  by_cases h : j < o
  · rw [if_pos h, List.append_assoc, List.getElem?_append_left (by simp; omega), List.getElem?_take_of_lt h]
  · rw [if_neg h]
    by_cases h3 : j < o + m
    · rw [if_pos h3, List.getElem?_append_left (by simp; omega), List.getElem?_append_right (by simp; omega)]
      simp only [List.length_take]
      rw [Nat.min_eq_left (by omega), List.getElem?_take_of_lt (by omega)]
    · rw [if_neg h3, List.getElem?_append_right (by simp; omega), List.getElem?_drop]
      simp only [List.length_append, List.length_take]
      rw [Nat.min_eq_left (by omega), Nat.min_eq_left h1, show o + m + (j - (o + m)) = j by omega]
theorem shr_zero {x k : Nat} : (0 <<< k) % 18446744073709551616 ||| x = x := by simp

theorem c_ShiftLeft (p q : Nat) (s : List Bool) (n : Nat) (w : World) (hB : BSet w p q s) (hs : s.length ≤ 10000) (hn : n ≤ 6000) :
    Cal Tryd.prog 35 [vP p, vU n] w fun v w' => v = vT [] ∧ ∃ q' t, BSet w' p q' t ∧ nums t = (nums s).map (· + n) ∧ t.length ≤ s.length + n ∧ (q' = q ∨ w.heap.size ≤ q') ∧ Keep w w' [p, q] := by
  have hlts := hB.lts
  have hB0 := hB
  have hlen := pack_length s
  have hnn : nW s.length ≤ 200 := by unfold nW; omega
  refine go_in' Tryd.func35 rfl Tryd.ntmps35 (Nat.le_of_ble_eq_true rfl) ?_
  refine c_seq ?_
  refine c_region ?_
  refine st (y_move rfl) rfl ?_
  refine sc rfl rfl isfn45 (c_panicIfNull p _) rfl ?_
  rintro _ _ ⟨rfl, rfl⟩
  refine l_nil ?_
  refine q_then ?_
  refine c_seq ?_
  refine c_seq ?_
  refine c_region ?_
  refine st (y_move rfl) rfl ?_
  refine st_if (y_eq_u (b := 0) rfl rfl) rfl (fun hn0 => ?_) (fun hn0 => ?_)
  · refine l_nil ?_
    refine q_then ?_
    refine c_true rfl rfl ?_
    refine c_ret ?_
    refine q_then_ret ?_
    refine q_end0 (.inl rfl) rfl ?_
    exact ⟨_, rfl, rfl, q, s, hB, by rw [hn0]; simp, by omega, .inl rfl, Keep.refl _ _⟩
  ·
    refine l_nil ?_
    refine q_then ?_
    refine c_false rfl rfl ?_
    refine c_skip ?_
    refine q_then ?_
    refine c_seq ?_
    refine c_region ?_
    refine st (y_move rfl) rfl ?_
    refine sc rfl rfl isfn46 (c_top p q s _ hB (by omega)) rfl ?_
    rintro v1 w1 ⟨rfl, ⟨x, rfl, hx⟩ | ⟨rfl, hno⟩⟩
    · have hxl := hx.lt
      obtain ⟨tl, hBW⟩ := hB
      have hcap := hBW.cap
      have hwd := hBW.wd
      have hst := hBW.st
      obtain ⟨N1, hN1⟩ : ∃ N1, nW (x + n + 1) = N1 := ⟨_, rfl⟩
      have hN1l : N1 ≤ 300 := by rw [← hN1]; unfold nW; omega
      obtain ⟨L', hL'⟩ : ∃ L', max s.length (x + n + 1) = L' := ⟨_, rfl⟩
      have hxi : x / 64 < (pack s).length := by rw [hlen]; unfold nW; omega
      have hsz : ∀ y, L' ≤ y → s.getD (y - n) false = false := fun y hy => hx.2 _ (by omega)
      obtain ⟨t, ht⟩ : ∃ t, shlS s n L' = t := ⟨_, rfl⟩
      have htl : t.length = L' := by rw [← ht, shlS_length]
      have htb : ∀ y, t.getD y false = (decide (n ≤ y) && s.getD (y - n) false) := fun y => by rw [← ht]; exact shlS_getD hsz y
      have htn : nums t = (nums s).map (· + n) := by rw [← ht]; exact nums_shl hsz
      have hNL : nW L' = max (pack s).length N1 := by rw [hlen, ← hN1, ← hL']; unfold nW; omega
      have hw0 : ∀ j, x / 64 < j → wordAt s j = 0 := fun j hj => word_none fun y hy => hx.2 y (by omega)
      have ht0 : ∀ j, x + n < 64 * j → wordAt t j = 0 := fun j hj => word_none fun y hy => by rw [htb, hx.2 _ (by omega), Bool.and_false]
      refine st (y_move rfl) rfl ?_
      refine st (y_extract rfl rfl) rfl ?_
      refine st (y_extract rfl rfl) rfl ?_
      refine st (y_assign rfl) rfl ?_
      refine st (y_assign rfl) rfl ?_
      refine l_nil ?_
      refine q_then ?_
      refine c_seq ?_
      refine c_seq ?_
      refine c_region ?_
      refine st (y_move rfl) rfl ?_
      refine st (y_not rfl) rfl ?_
      refine l_nil ?_
      refine q_then ?_
      refine c_false rfl rfl ?_
      refine c_skip ?_
      refine q_then ?_
      refine c_seq ?_
      refine c_seq ?_
      refine c_region ?_
      refine st (y_move rfl) rfl ?_
      refine st (y_move rfl) rfl ?_
      refine st (y_add_u rfl rfl (by omega)) rfl ?_
      refine st (y_move rfl) rfl ?_
      refine st_f (y_lt_u rfl rfl) (by omega) rfl ?_
      refine l_nil ?_
      refine q_then ?_
      refine c_false rfl rfl ?_
      refine c_skip ?_
      refine q_then ?_
      refine c_seq ?_
      refine c_region ?_
      refine st (y_move rfl) rfl ?_
      refine st (y_nil rfl) rfl ?_
      refine st (fa66_1 rfl) rfl ?_
      refine st (y_loadb rfl one64 (by assumption) (by rfl)) rfl ?_
      refine st (y_assign rfl) rfl ?_
      refine l_nil ?_
      refine q_then ?_
      refine c_seq ?_
      refine c_region ?_
      refine st (y_move rfl) rfl ?_
      refine st (y_move rfl) rfl ?_
      refine st (y_add_u rfl rfl (by omega)) rfl ?_
      refine st (y_add_u (b := 1) rfl rfl (by omega)) rfl ?_
      refine sc rfl rfl isfn47 (c_wordsNeeded _ (by omega) _) rfl ?_
      rintro _ _ ⟨rfl, rfl⟩
      rw [hN1]
      refine st (y_assign rfl) rfl ?_
      refine l_nil ?_
      refine q_then ?_
      refine c_cut (fun a : Nat × List Nat × List Nat => [(0, vP p), (1, vU n), (4, vU x), (7, vI (N1 : Nat)), (6, vS a.1 a.2.1.length (a.2.1.length + a.2.2.length))]) (fun a w' => Sh w' p q a.1 s.length s tl a.2.1 a.2.2 ∧ (q = a.1 → a.2.1 = pack s) ∧ a.2.1.length = nW L' ∧ (∀ j, x / 64 < j → a.2.1.getD j 0 = 0) ∧ (a.1 = q ∨ w.heap.size ≤ a.1) ∧ Keep w w' []) ?_ ?_
      · refine c_seq ?_
        refine c_region ?_
        refine st (y_move rfl) rfl ?_
        refine st (y_nil rfl) rfl ?_
        refine st (fa66_1 rfl) rfl ?_
        refine st (y_loadb rfl one64 (by assumption) (by rfl)) rfl ?_
        refine st (y_len rfl Tryd.underlying64) rfl ?_
        refine st (y_move rfl) rfl ?_
        refine st_if (y_lt_i rfl rfl) rfl (fun hlt => ?_) (fun hlt => ?_)
        · refine l_nil ?_
          refine q_then ?_
          refine c_true rfl rfl ?_
          refine c_region ?_
          refine st (y_move rfl) rfl ?_
          refine mk64 rfl rfl (by omega) (by omega) rfl ?_
          intro d w2 hd hwd2 hK2 hS2
          have hd' : d = w.heap.size := hd.symm
          have hst := hst.keep hK2 (by simp only [List.mem_cons, List.not_mem_nil, or_false, not_or, not_false_eq_true] <;> omega)
          have hwd := hwd.keep hK2 (by simp only [List.mem_cons, List.not_mem_nil, or_false, not_or, not_false_eq_true] <;> omega)
          refine st (y_assign rfl) rfl ?_
          refine l_nil ?_
          refine q_meet (d, List.replicate N1 0, []) ⟨rfl, rfl, rfl, rfl, ?_, trivial⟩ ⟨⟨hst, ?_, ⟨pack s ++ tl, hwd, by simp, .inr ⟨by omega, rfl⟩⟩, ?_, ⟨hBW.ne, by omega⟩, by simp only [List.length_replicate, List.length_nil]; omega⟩, fun e => by simp only at e; omega, by simp only [List.length_replicate]; omega, fun j hj => ?_, .inr (by simp only; omega), hK2⟩
          · simp only [List.length_replicate, List.length_nil, Nat.add_zero]; rfl
          · simp only [List.append_nil]; exact hwd2
          · intro y hy; have := List.eq_of_mem_replicate hy; omega
          · simp only [List.getD_eq_getElem?_getD, List.getElem?_replicate]; split <;> rfl
        ·
          refine l_nil ?_
          refine q_then ?_
          refine c_false rfl rfl ?_
          refine c_skip ?_
          refine q_meet (q, pack s, tl) ⟨rfl, rfl, rfl, rfl, rfl, trivial⟩ ⟨⟨hst, hwd, ⟨pack s ++ tl, hwd, by simp, .inl ⟨rfl, rfl⟩⟩, pack_lt s, ⟨hBW.ne, hBW.ne⟩, hcap⟩, fun _ => rfl, by simp only; omega, fun j hj => by simp only; rw [pack_getD]; exact hw0 j hj, .inl rfl, Keep.refl _ _⟩
      ·
        rintro ⟨d, D, dtl⟩ w2 ⟨hSh2, hDq, hDl, hDz, hd, hK2⟩
        simp only at hSh2 hDq hDl hDz hd ⊢
        clear hst hwd
        have hst := hSh2.st
        refine c_cut (fun _ : Unit => [(0, vP p), (1, vU n), (4, vU x), (7, vI (N1 : Nat)), (6, vS d D.length (D.length + dtl.length))]) (fun _ w' => Sh w' p q d L' s tl D dtl ∧ Keep w w' [p]) ?_ ?_
        · refine c_seq ?_
          refine c_region ?_
          refine st (y_move rfl) rfl ?_
          refine st (y_move rfl) rfl ?_
          refine st (y_add_u rfl rfl (by omega)) rfl ?_
          refine st (y_move rfl) rfl ?_
          refine st (y_nil rfl) rfl ?_
          refine st (fa66_0 rfl) rfl ?_
          refine st (y_loadb rfl one22 (by assumption) (by rfl)) rfl ?_
          refine st_if (y_ge_u rfl rfl) rfl (fun hge => ?_) (fun hge => ?_)
          · refine l_nil ?_
            refine q_then ?_
            refine c_true rfl rfl ?_
            refine c_region ?_
            refine st (y_move rfl) rfl ?_
            refine st (y_move rfl) rfl ?_
            refine st (y_move rfl) rfl ?_
            refine st (y_add_u rfl rfl (by omega)) rfl ?_
            refine st (y_add_u (b := 1) rfl rfl (by omega)) rfl ?_
            refine st (y_nil rfl) rfl ?_
            refine st (fa66_0 rfl) rfl ?_
            refine st_store rfl rfl rfl sz22 (by assumption) (by first | simp | (simp; omega)) rfl ?_
            intro w3 hst3 hK3 hS3
            refine l_nil ?_
            have hL2 : x + n + 1 = L' := by omega
            obtain ⟨Qc, h1, h2, h3⟩ := hSh2.src
            have hnp := hSh2.np
            refine q_meet () ⟨rfl, rfl, rfl, rfl, rfl, trivial⟩ ⟨⟨?_, hSh2.wd.keep hK3 (by simp only [List.mem_singleton]; omega), ⟨Qc, h1.keep hK3 (by simp only [List.mem_singleton]; omega), h2, h3⟩, hSh2.lt, hnp, hSh2.cap⟩, (hK2.mono (by simp)).trans hK3 (fun i hi => .inl hi)⟩
            rw [← hL2]
            exact hst3
          ·
            refine l_nil ?_
            refine q_then ?_
            refine c_false rfl rfl ?_
            refine c_skip ?_
            have hL2 : s.length = L' := by omega
            exact q_meet () ⟨rfl, rfl, rfl, rfl, rfl, trivial⟩ ⟨by rw [← hL2]; exact hSh2, hK2.mono (by simp)⟩
        ·
          rintro _ w3 ⟨hSh3, hK3⟩
          have hdx := shr6 x
          have hdn := shr6 n
          have hb1 := bit64 x
          have hb2 := bit64 n
          clear hst
          refine c_seq ?_
          refine c_region ?_
          refine st (y_move rfl) rfl ?_
          refine st (y_rem_u (b := 64) rfl rfl (by omega)) rfl ?_
          refine st (y_move rfl) rfl ?_
          refine st (y_shr (k := 6) rfl rfl (by first | omega | assumption | (repeat (first | assumption | omega | decide | exact shl_lt64 _ _ | apply and_lt64 | apply or_lt64 | apply xor_lt64 | apply nt_lt | apply shr_lt64 | apply getD_lt64)))) rfl ?_
          refine st (y_assign rfl) rfl ?_
          refine st (y_assign rfl) rfl ?_
          refine l_nil ?_
          refine q_then ?_
          rw [hdx]
          refine c_seq ?_
          refine c_region ?_
          refine st (y_move rfl) rfl ?_
          refine st (y_rem_u (b := 64) rfl rfl (by omega)) rfl ?_
          refine st (y_move rfl) rfl ?_
          refine st (y_shr (k := 6) rfl rfl (by first | omega | assumption | (repeat (first | assumption | omega | decide | exact shl_lt64 _ _ | apply and_lt64 | apply or_lt64 | apply xor_lt64 | apply nt_lt | apply shr_lt64 | apply getD_lt64)))) rfl ?_
          refine st (y_assign rfl) rfl ?_
          refine st (y_assign rfl) rfl ?_
          refine l_nil ?_
          refine q_then ?_
          rw [hdn]
          refine c_cut (fun _ : Unit => [(0, vP p), (11, vU (n / 64)), (6, vS d D.length (D.length + dtl.length))]) (fun _ w' => ∃ W, Sh w' p q d L' s tl W dtl ∧ W.length = D.length ∧ (∀ j, n / 64 ≤ j → j < D.length → W.getD j 0 = wordAt t j) ∧ Keep w w' [p, d]) ?_ ?_
          · have hst := hSh3.st
            have hwd3 := hSh3.wd
            have hcap3 := hSh3.cap
            refine c_seq ?_
            refine c_region ?_
            refine st (y_move rfl) rfl ?_
            refine st (y_rem_u (b := 64) rfl rfl (by omega)) rfl ?_
            refine st_if (y_eq_u (b := 0) rfl rfl) rfl (fun hm0 => ?_) (fun hm0 => ?_)
            · have hq1 : N1 = x / 64 + n / 64 + 1 := by rw [← hN1]; unfold nW; omega
              have hND : N1 ≤ D.length := by omega
              have hSd := hSh3.drew
              clear hst hwd3
              obtain ⟨Qc, hQ, hQl, hQv⟩ := hSd.read hDq
              have hst := hSd.st
              have hwd4 := hSd.wd
              refine l_nil ?_
              refine q_then ?_
              refine c_true rfl rfl ?_
              refine c_tail 8 mixed (by kernel_rfl) ?_
              refine ss (y_move rfl) rfl ?_
              refine ss (y_move rfl) rfl ?_
              refine ss (y_move rfl) rfl ?_
              refine ss (y_slice_lhn rfl rfl rfl Tryd.underlying64 sz67 (by omega) (by omega) (by omega)) rfl ?_
              refine ss (y_move rfl) rfl ?_
              refine ss (y_nil rfl) rfl ?_
              refine ss (fa66_1 rfl) rfl ?_
              refine ss (y_loadb rfl one64 (by assumption) (by rfl)) rfl ?_
              refine s_nil ?_
              show wpL _ _ _ _ _ _ _ _
              refine st_copy rfl rfl Tryd.underlying64 sz67 hwd4 hQ (by simp; omega) (by simp; omega) (fun v hv => by obtain ⟨y, _, rfl⟩ := List.mem_map.1 hv; rfl) rfl ?_
              intro w5 hwd5 hK5 hS5
              refine l_nil ?_
              have hmin : min (pack s).length (N1 - n / 64) = x / 64 + 1 := by omega
              rw [hmin, Nat.zero_add, over_part Qc (D ++ dtl) (n / 64) (x / 64 + 1) (by omega) (by simp; omega)] at hwd5
              have e5 : (D ++ dtl).take (n / 64) ++ Qc.take (x / 64 + 1) ++ (D ++ dtl).drop (n / 64 + (x / 64 + 1)) = (D.take (n / 64) ++ Qc.take (x / 64 + 1) ++ D.drop (n / 64 + (x / 64 + 1))) ++ dtl := by
                rw [List.take_append_of_le_length (by omega), List.drop_append_of_le_length (by omega), List.append_assoc, List.append_assoc, List.append_assoc]
              rw [e5] at hwd5
              have hWg := fun j => part_getD Qc D (n / 64) (x / 64 + 1) j (by omega) (by omega)
              obtain ⟨W, hW⟩ : ∃ W, D.take (n / 64) ++ Qc.take (x / 64 + 1) ++ D.drop (n / 64 + (x / 64 + 1)) = W := ⟨_, rfl⟩
              rw [hW] at hwd5 hWg
              have hWl : W.length = D.length := by rw [← hW]; simp; omega
              have hWj : ∀ j, n / 64 ≤ j → j < D.length → W.getD j 0 = wordAt t j := by
                intro j h1 h2
                rw [hWg, if_neg (by omega)]
                have hsp := shl_wordp htb (j - n / 64) hm0
                rw [show j - n / 64 + n / 64 = j by omega] at hsp
                rw [hsp]
                by_cases h3 : j < n / 64 + (x / 64 + 1)
                · rw [if_pos h3, hQv _ (by omega) rfl (by omega)]
                · rw [if_neg h3, hDz j (by omega), hw0 _ (by omega)]
              have hWlt : ∀ y ∈ W, y < 18446744073709551616 := by
                intro y hy
                obtain ⟨j, hj, rfl⟩ := List.mem_iff_getElem.1 hy
                have e : W[j] = W.getD j 0 := by simp [List.getD_eq_getElem?_getD, hj]
                rw [e]
                rcases Nat.lt_or_ge j (n / 64) with h | h
                · rw [hWg, if_pos h]; exact getD_lt64 hSh3.lt j
                · rw [hWj j h (by omega)]; exact wordAt_lt _ _
              obtain ⟨Q2, hQ2, hQ2l, hQ2s⟩ := hSd.src
              refine q_meet () ⟨rfl, rfl, rfl, trivial⟩ ⟨W, ⟨hst.keep hK5 (by simpa using hSd.np.2), hwd5, ?_, hWlt, hSd.np, by rw [hWl]; exact hcap3⟩, hWl, hWj, ((hK3.mono (by simp)).trans (Keep.drew w3 []) (by simp)).trans hK5 (fun i hi => by simp only [List.mem_singleton] at hi; subst hi; simp)⟩
              rcases hQ2s with ⟨e, e2⟩ | ⟨e, e2⟩
              · exact ⟨W ++ dtl, by rw [e]; exact hwd5, by have := hQ2l; rw [e2] at this; simpa [hWl] using this, .inl ⟨e, rfl⟩⟩
              · exact ⟨Q2, hQ2.keep hK5 (by simpa using e), hQ2l, .inr ⟨e, e2⟩⟩
            ·
              have hN1e : N1 = (x + n) / 64 + 1 := by rw [← hN1]; unfold nW; omega
              have hND : N1 ≤ D.length := by omega
              refine l_nil ?_
              refine q_then ?_
              refine c_false rfl rfl ?_
              refine c_cut (fun _ : Unit => [(0, vP p), (9, vU (x / 64)), (10, vU (n % 64)), (11, vU (n / 64)), (6, vS d D.length (D.length + dtl.length))]) (fun _ w' => ∃ W, Sh w' p q d L' s tl W dtl ∧ W.length = D.length ∧ (∀ j, j < D.length → W.getD j 0 = if x / 64 + 1 + n / 64 ≤ j then wordAt t j else D.getD j 0) ∧ Keep w w' [p, d]) ?_ ?_
              · have hsw := wordAt_lt s (x / 64)
                have htw := shl_word htb (x / 64) hm0
                rw [hw0 (x / 64 + 1) (by omega), shr_zero] at htw
                refine c_seq ?_
                refine c_region ?_
                refine st (y_move rfl) rfl ?_
                refine st (y_move rfl) rfl ?_
                refine st (y_add_u rfl rfl (by omega)) rfl ?_
                refine st_if (y_ge_u (b := 64) rfl rfl) rfl (fun hps => ?_) (fun hps => ?_)
                · obtain ⟨Qc, hQ, hQl, hQv⟩ := hSh3.read hDq
                  have hQx := hQv (x / 64) hxi rfl (by omega)
                  have hst3 := hSh3.st
                  have hwd5 := hSh3.wd
                  refine l_nil ?_
                  refine q_then ?_
                  refine c_true rfl rfl ?_
                  refine c_region ?_
                  refine st (y_move rfl) rfl ?_
                  refine st (y_move rfl) rfl ?_
                  refine st (y_move rfl) rfl ?_
                  refine st (y_add_u rfl rfl (by omega)) rfl ?_
                  refine st (y_add_u (b := 1) rfl rfl (by omega)) rfl ?_
                  refine st (y_move rfl) rfl ?_
                  refine st (y_nil rfl) rfl ?_
                  refine st (fa66_1 rfl) rfl ?_
                  refine st (y_loadb rfl one64 (by assumption) (by rfl)) rfl ?_
                  refine st (y_move rfl) rfl ?_
                  first | refine st (y_index0 rfl rfl Tryd.underlying64 sz67 (by omega)) rfl ?_ | refine st (y_index rfl rfl Tryd.underlying64 sz67 (by omega)) rfl ?_ | refine st (y_indexA rfl rfl Tryd.underlying64 sz67 (by omega)) rfl ?_
                  first | refine st (y_loadM (0) rfl one67 (by assumption) (by first | omega | (simp only [List.length_append, List.length_map, List.length_replicate, List.length_set, List.length_take, List.length_drop]; omega) | (simp; done))) rfl ?_ | refine st (y_load rfl one67 (by assumption)) rfl ?_
                  rw [hQx]
                  refine st (y_move rfl) rfl ?_
                  refine st (y_sub_u (a := 64) rfl rfl (by omega) (by omega)) rfl ?_
                  refine st (y_shr rfl rfl (by first | omega | assumption | (repeat (first | assumption | omega | decide | exact shl_lt64 _ _ | apply and_lt64 | apply or_lt64 | apply xor_lt64 | apply nt_lt | apply shr_lt64 | apply getD_lt64)))) rfl ?_
                  first | refine st (y_index0 rfl rfl Tryd.underlying64 sz67 (by omega)) rfl ?_ | refine st (y_index rfl rfl Tryd.underlying64 sz67 (by omega)) rfl ?_ | refine st (y_indexA rfl rfl Tryd.underlying64 sz67 (by omega)) rfl ?_
                  refine st_storeM vU rfl rfl rfl sz67 (by assumption) (by first | omega | (simp only [List.length_append, List.length_map, List.length_replicate, List.length_set, List.length_take, List.length_drop]; omega)) rfl ?_
                  intro w6 hw6 hK6 hS6
                  refine l_nil ?_
                  have hSh6 := hSh3.store hw6 hK6 (shr_lt64 _ hsw) (by omega)
                  refine q_meet () ⟨rfl, rfl, rfl, rfl, rfl, trivial⟩ ⟨_, hSh6, by simp, fun j hj => ?_, (hK3.mono (by simp)).trans hK6 (fun i hi => by simp only [List.mem_singleton] at hi; subst hi; simp)⟩
                  rw [set_getD_nat _ _ _ _ (by omega)]
                  by_cases h1 : j = x / 64 + n / 64 + 1
                  · rw [if_pos h1, if_pos (by omega), h1, show x / 64 + n / 64 + 1 = x / 64 + 1 + n / 64 by omega, htw]
                  · rw [if_neg h1]
                    by_cases h2 : x / 64 + 1 + n / 64 ≤ j
                    · rw [if_pos h2, hDz j (by omega), ht0 j (by omega)]
                    · rw [if_neg h2]
                ·
                  refine l_nil ?_
                  refine q_then ?_
                  refine c_false rfl rfl ?_
                  refine c_skip ?_
                  refine q_meet () ⟨rfl, rfl, rfl, rfl, rfl, trivial⟩ ⟨D, hSh3, rfl, fun j hj => ?_, hK3.mono (by simp)⟩
                  by_cases h2 : x / 64 + 1 + n / 64 ≤ j
                  · rw [if_pos h2, hDz j (by omega), ht0 j (by omega)]
                  · rw [if_neg h2]
              ·
                rintro _ w6 ⟨W6, hSh6, hW6l, hW6, hK6⟩
                refine c_seq ?_
                refine c_region ?_
                refine st (y_move rfl) rfl ?_
                refine st (y_conv_ui rfl us22 Tryd.underlying3 (by omega)) rfl ?_
                refine st (y_assign rfl) rfl ?_
                refine l_nil ?_
                refine q_then ?_
                refine c_block ?_
                refine c_loop (fun a : Nat × List Nat => [(0, vP p), (10, vU (n % 64)), (11, vU (n / 64)), (6, vS d D.length (D.length + dtl.length)), (12, vI ((a.1 : Int) - 1))]) (fun a w' => a.1 ≤ x / 64 + 1 ∧ Sh w' p q d L' s tl a.2 dtl ∧ a.2.length = D.length ∧ (∀ j, j < D.length → a.2.getD j 0 = if a.1 + n / 64 ≤ j then wordAt t j else D.getD j 0) ∧ Keep w w' [p, d]) (fun a => a.1) (x / 64 + 1, W6) ?_ ?_ ?_
                · refine ⟨rfl, rfl, rfl, rfl, ?_, trivial⟩
                  simp only
                  rw [show (((x / 64 + 1 : Nat) : Int) - 1) = ((x / 64 : Nat) : Int) by omega]; rfl
                · exact ⟨Nat.le_refl _, hSh6, hW6l, hW6, hK6⟩
                · rintro ⟨k, W⟩ w7 ⟨hk, hSh7, hWl, hWj, hK7⟩
                  simp only at hk hSh7 hWl hWj hK7 ⊢
                  refine c_seq ?_
                  refine c_seq ?_
                  refine c_region ?_
                  refine st (y_move rfl) rfl ?_
                  refine st_if (y_ge_i (b := 0) rfl rfl) rfl (fun hge0 => ?_) (fun hge0 => ?_)
                  · have hk0 : 0 < k := by omega
                    have hi1 : k - 1 + n / 64 < D.length := by omega
                    have hsw := wordAt_lt s (k - 1)
                    have hsw2 := wordAt_lt s (k - 2)
                    have fin : ∀ (x8 : Nat), x8 = wordAt t (k - 1 + n / 64) → ∀ j, j < D.length → (W.set (k - 1 + n / 64) x8).getD j 0 = if k - 1 + n / 64 ≤ j then wordAt t j else D.getD j 0 := by
                      intro x8 e j hj
                      rw [set_getD_nat _ _ _ _ (by omega), hWj j hj]
                      by_cases h1 : j = k - 1 + n / 64
                      · rw [if_pos h1, if_pos (by omega), e, h1]
                      · rw [if_neg h1]
                        by_cases h2 : k + n / 64 ≤ j
                        · rw [if_pos h2, if_pos (by omega)]
                        · rw [if_neg h2, if_neg (by omega)]
                    rw [subk_int hk0]
                    refine l_nil ?_
                    refine q_then ?_
                    refine c_true rfl rfl ?_
                    refine c_skip ?_
                    refine q_then ?_
                    refine c_seq ?_
                    refine c_block ?_
                    refine c_seq ?_
                    refine c_region ?_
                    refine st (y_move rfl) rfl ?_
                    refine st_if (y_gt_i (b := 0) rfl rfl) rfl (fun hpos => ?_) (fun hpos => ?_)
                    · have hSd := hSh7.drew
                      have hst7 := hSd.st
                      obtain ⟨Qc, hQ, hQl, hQv⟩ := hSd.read hDq
                      have hQ1 := hQv (k - 1) (by omega) (by rw [hWj _ (by omega), if_neg (by omega)]) (by omega)
                      have hQ2 := hQv (k - 2) (by omega) (by rw [hWj _ (by omega), if_neg (by omega)]) (by omega)
                      have hwd7 := hSd.wd
                      have htw := shl_word htb (k - 2) hm0
                      rw [show k - 2 + 1 = k - 1 by omega] at htw
                      refine l_nil ?_
                      refine q_then ?_
                      refine c_true rfl rfl ?_
                      refine c_tail 27 mixed (by kernel_rfl) ?_
                      refine ss (y_move rfl) rfl ?_
                      refine ss (y_move rfl) rfl ?_
                      refine ss (y_move rfl) rfl ?_
                      refine ss (y_conv_ui rfl us22 Tryd.underlying3 (by omega)) rfl ?_
                      first | refine ss (y_add_in rfl rfl (by omega)) rfl ?_ | refine ss (y_add_i rfl rfl (by omega) (by omega)) rfl ?_
                      refine ss (y_move rfl) rfl ?_
                      refine ss (y_nil rfl) rfl ?_
                      refine ss (fa66_1 rfl) rfl ?_
                      refine ss (y_loadb rfl one64 (by assumption) (by rfl)) rfl ?_
                      refine ss (y_move rfl) rfl ?_
                      first | refine ss (y_index0 rfl rfl Tryd.underlying64 sz67 (by omega)) rfl ?_ | refine ss (y_index rfl rfl Tryd.underlying64 sz67 (by omega)) rfl ?_ | refine ss (y_indexA rfl rfl Tryd.underlying64 sz67 (by omega)) rfl ?_
                      first | refine ss (y_loadM (0) rfl one67 (by assumption) (by first | omega | (simp only [List.length_append, List.length_map, List.length_replicate, List.length_set, List.length_take, List.length_drop]; omega) | (simp; done))) rfl ?_ | refine ss (y_load rfl one67 (by assumption)) rfl ?_
                      rw [hQ1]
                      refine ss (y_move rfl) rfl ?_
                      refine ss (y_shl rfl rfl) rfl ?_
                      refine ss (y_move rfl) rfl ?_
                      refine ss (y_nil rfl) rfl ?_
                      refine ss (fa66_1 rfl) rfl ?_
                      refine ss (y_loadb rfl one64 (by assumption) (by rfl)) rfl ?_
                      refine ss (y_move rfl) rfl ?_
                      refine ss (y_sub_i (b := 1) rfl rfl (by omega) (by omega)) rfl ?_
                      rw [show (((k - 1 : Nat) : Int) - 1) = ((k - 2 : Nat) : Int) by omega]
                      first | refine ss (y_index0 rfl rfl Tryd.underlying64 sz67 (by omega)) rfl ?_ | refine ss (y_index rfl rfl Tryd.underlying64 sz67 (by omega)) rfl ?_ | refine ss (y_indexA rfl rfl Tryd.underlying64 sz67 (by omega)) rfl ?_
                      first | refine ss (y_loadM (0) rfl one67 (by assumption) (by first | omega | (simp only [List.length_append, List.length_map, List.length_replicate, List.length_set, List.length_take, List.length_drop]; omega) | (simp; done))) rfl ?_ | refine ss (y_load rfl one67 (by assumption)) rfl ?_
                      rw [hQ2]
                      refine ss (y_move rfl) rfl ?_
                      refine ss (y_sub_u (a := 64) rfl rfl (by omega) (by omega)) rfl ?_
                      refine ss (y_shr rfl rfl (by first | omega | assumption | (repeat (first | assumption | omega | decide | exact shl_lt64 _ _ | apply and_lt64 | apply or_lt64 | apply xor_lt64 | apply nt_lt | apply shr_lt64 | apply getD_lt64)))) rfl ?_
                      refine ss (y_or rfl rfl (by first | omega | assumption | (repeat (first | assumption | omega | decide | exact shl_lt64 _ _ | apply and_lt64 | apply or_lt64 | apply xor_lt64 | apply nt_lt | apply shr_lt64 | apply getD_lt64))) (by first | omega | assumption | (repeat (first | assumption | omega | decide | exact shl_lt64 _ _ | apply and_lt64 | apply or_lt64 | apply xor_lt64 | apply nt_lt | apply shr_lt64 | apply getD_lt64)))) rfl ?_
                      first | refine ss (y_index0 rfl rfl Tryd.underlying64 sz67 (by omega)) rfl ?_ | refine ss (y_index rfl rfl Tryd.underlying64 sz67 (by omega)) rfl ?_ | refine ss (y_indexA rfl rfl Tryd.underlying64 sz67 (by omega)) rfl ?_
                      refine s_nil ?_
                      show wpL _ _ _ _ _ _ _ _
                      refine st_storeM vU rfl rfl rfl sz67 (by assumption) (by first | omega | (simp only [List.length_append, List.length_map, List.length_replicate, List.length_set, List.length_take, List.length_drop]; omega)) rfl ?_
                      intro w8 hw8 hK8 hS8
                      have hSh8 := hSd.store hw8 hK8 (or_lt64 (Nat.mod_lt _ (by decide)) (shr_lt64 _ hsw2)) (by omega)
                      refine l_nil ?_
                      refine q_block ?_
                      refine q_then ?_
                      refine c_region ?_
                      refine st (y_move rfl) rfl ?_
                      refine st (y_sub_i (b := 1) rfl rfl (by omega) (by omega)) rfl ?_
                      refine st (y_assign rfl) rfl ?_
                      refine l_nil ?_
                      exact q_round (k - 1, _) ⟨rfl, rfl, rfl, rfl, rfl, trivial⟩ ⟨by simp only; omega, hSh8, by simpa using hWl, fin _ htw.symm, (hK7.trans (Keep.drew w7 []) (by simp)).trans hK8 (fun i hi => by simp only [List.mem_singleton] at hi; subst hi; simp)⟩ (by simp only; omega)
                    ·
                      have hk1 : k = 1 := by omega
                      have hst7 := hSh7.st
                      obtain ⟨Qc, hQ, hQl, hQv⟩ := hSh7.read hDq
                      have hQ1 := hQv (k - 1) (by omega) (by rw [hWj _ (by omega), if_neg (by omega)]) (by omega)
                      have hwd7 := hSh7.wd
                      have htw := shl_word0 htb
                      refine l_nil ?_
                      refine q_then ?_
                      refine c_false rfl rfl ?_
                      refine c_region ?_
                      refine st (y_move rfl) rfl ?_
                      refine st (y_move rfl) rfl ?_
                      refine st (y_move rfl) rfl ?_
                      refine st (y_conv_ui rfl us22 Tryd.underlying3 (by omega)) rfl ?_
                      first | refine st (y_add_in rfl rfl (by omega)) rfl ?_ | refine st (y_add_i rfl rfl (by omega) (by omega)) rfl ?_
                      refine st (y_move rfl) rfl ?_
                      refine st (y_nil rfl) rfl ?_
                      refine st (fa66_1 rfl) rfl ?_
                      refine st (y_loadb rfl one64 (by assumption) (by rfl)) rfl ?_
                      refine st (y_move rfl) rfl ?_
                      first | refine st (y_index0 rfl rfl Tryd.underlying64 sz67 (by omega)) rfl ?_ | refine st (y_index rfl rfl Tryd.underlying64 sz67 (by omega)) rfl ?_ | refine st (y_indexA rfl rfl Tryd.underlying64 sz67 (by omega)) rfl ?_
                      first | refine st (y_loadM (0) rfl one67 (by assumption) (by first | omega | (simp only [List.length_append, List.length_map, List.length_replicate, List.length_set, List.length_take, List.length_drop]; omega) | (simp; done))) rfl ?_ | refine st (y_load rfl one67 (by assumption)) rfl ?_
                      rw [hQ1]
                      refine st (y_move rfl) rfl ?_
                      refine st (y_shl rfl rfl) rfl ?_
                      first | refine st (y_index0 rfl rfl Tryd.underlying64 sz67 (by omega)) rfl ?_ | refine st (y_index rfl rfl Tryd.underlying64 sz67 (by omega)) rfl ?_ | refine st (y_indexA rfl rfl Tryd.underlying64 sz67 (by omega)) rfl ?_
                      refine st_storeM vU rfl rfl rfl sz67 (by assumption) (by first | omega | (simp only [List.length_append, List.length_map, List.length_replicate, List.length_set, List.length_take, List.length_drop]; omega)) rfl ?_
                      intro w8 hw8 hK8 hS8
                      have hSh8 := hSh7.store hw8 hK8 (Nat.mod_lt _ (by decide)) (by omega)
                      refine l_nil ?_
                      refine q_block ?_
                      refine q_then ?_
                      refine c_region ?_
                      refine st (y_move rfl) rfl ?_
                      refine st (y_sub_i (b := 1) rfl rfl (by omega) (by omega)) rfl ?_
                      refine st (y_assign rfl) rfl ?_
                      refine l_nil ?_
                      refine q_round (k - 1, _) ⟨rfl, rfl, rfl, rfl, rfl, trivial⟩ ⟨by simp only; omega, hSh8, by simpa using hWl, fin _ ?_, hK7.trans hK8 (fun i hi => by simp only [List.mem_singleton] at hi; subst hi; simp)⟩ (by simp only; omega)
                      rw [hk1]
                      rw [show 1 - 1 + n / 64 = n / 64 by omega]
                      exact htw.symm
                  ·
                    refine l_nil ?_
                    refine q_then ?_
                    refine c_false rfl rfl ?_
                    refine c_exit ?_
                    refine q_then_exit ?_
                    refine q_then_exit ?_
                    refine q_block_hit ?_
                    exact q_meet () ⟨rfl, rfl, rfl, trivial⟩ ⟨W, hSh7, hWl, fun j h1 h2 => by rw [hWj j h2, if_pos (by omega)], hK7⟩
          ·
            rintro _ w8 ⟨W8, hSh8, hW8l, hW8, hK8⟩
            refine c_seq ?_
            refine c_seq ?_
            refine c_region ?_
            refine st (y_assign (v := vI ((0 : Nat) : Int)) rfl) rfl ?_
            refine l_nil ?_
            refine q_then ?_
            refine c_block ?_
            refine c_loop (fun a : Nat × List Nat => [(0, vP p), (11, vU (n / 64)), (6, vS d D.length (D.length + dtl.length)), (13, vI (a.1 : Nat))]) (fun a w' => a.1 ≤ n / 64 ∧ Sh w' p q d L' s tl a.2 dtl ∧ a.2.length = D.length ∧ (∀ j, n / 64 ≤ j → j < D.length → a.2.getD j 0 = wordAt t j) ∧ (∀ j, j < a.1 → j < D.length → a.2.getD j 0 = 0) ∧ Keep w w' [p, d]) (fun a => n / 64 - a.1) (0, W8) ?_ ?_ ?_
            · exact ⟨rfl, rfl, rfl, rfl, trivial⟩
            · exact ⟨Nat.zero_le _, hSh8, hW8l, hW8, fun j h => by simp only at h; omega, hK8⟩
            · rintro ⟨k, W⟩ w9 ⟨hk, hSh9, hWl, hWj, hWz, hK9⟩
              simp only at hk hSh9 hWl hWj hWz hK9 ⊢
              have hN1e : x / 64 + n / 64 < N1 := by rw [← hN1]; unfold nW; omega
              refine c_seq ?_
              refine c_seq ?_
              refine c_region ?_
              refine st (y_move rfl) rfl ?_
              refine st (y_move rfl) rfl ?_
              refine st (y_conv_ui rfl us22 Tryd.underlying3 (by omega)) rfl ?_
              refine st_if (y_lt_i rfl rfl) rfl (fun hlt9 => ?_) (fun hlt9 => ?_)
              · have hwd9 := hSh9.wd
                refine l_nil ?_
                refine q_then ?_
                refine c_true rfl rfl ?_
                refine c_skip ?_
                refine q_then ?_
                refine c_seq ?_
                refine c_block ?_
                refine c_region ?_
                refine st (y_move rfl) rfl ?_
                refine st (y_move rfl) rfl ?_
                first | refine st (y_index0 rfl rfl Tryd.underlying64 sz67 (by omega)) rfl ?_ | refine st (y_index rfl rfl Tryd.underlying64 sz67 (by omega)) rfl ?_ | refine st (y_indexA rfl rfl Tryd.underlying64 sz67 (by omega)) rfl ?_
                refine st_storeM vU rfl rfl rfl sz67 (by assumption) (by first | omega | (simp only [List.length_append, List.length_map, List.length_replicate, List.length_set, List.length_take, List.length_drop]; omega)) rfl ?_
                intro w10 hw10 hK10 hS10
                have hSh10 := hSh9.store hw10 hK10 (by decide) (by omega)
                refine l_nil ?_
                refine q_block ?_
                refine q_then ?_
                refine c_region ?_
                refine st (y_move rfl) rfl ?_
                first | refine st (y_add_in (b := 1) rfl rfl (by omega)) rfl ?_ | refine st (y_add_i (b := 1) rfl rfl (by omega) (by omega)) rfl ?_
                refine st (y_assign rfl) rfl ?_
                refine l_nil ?_
                refine q_round (k + 1, _) ⟨rfl, rfl, rfl, rfl, trivial⟩ ⟨by simp only; omega, hSh10, by simpa using hWl, fun j h1 h2 => ?_, fun j h1 h2 => ?_, hK9.trans hK10 (fun i hi => by simp only [List.mem_singleton] at hi; subst hi; simp)⟩ (by simp only; omega)
                · rw [set_getD_nat _ _ _ _ (by omega), if_neg (by omega)]; exact hWj j h1 h2
                · rw [set_getD_nat _ _ _ _ (by omega)]
                  by_cases h3 : j = k
                  · rw [if_pos h3]
                  · rw [if_neg h3]; exact hWz j (by simp only at h1; omega) h2
              ·
                have hst9 := hSh9.st
                have hnp := hSh9.np
                refine l_nil ?_
                refine q_then ?_
                refine c_false rfl rfl ?_
                refine c_exit ?_
                refine q_then_exit ?_
                refine q_then_exit ?_
                refine q_block_hit ?_
                refine q_then ?_
                refine c_region ?_
                refine st (y_move rfl) rfl ?_
                refine st (y_move rfl) rfl ?_
                refine st (y_nil rfl) rfl ?_
                refine st (fa66_1 rfl) rfl ?_
                refine st_store rfl rfl rfl sz64 (by assumption) (by first | simp | (simp; omega)) rfl ?_
                intro w10 hst10 hK10 hS10
                refine l_nil ?_
                refine q_end0 (.inr rfl) rfl ?_
                have hwd10 := hSh9.wd.keep hK10 (by simp only [List.mem_singleton]; omega)
                have hWt : W = pack t := pack_words (by rw [htl]; omega) fun j hj => by
                  rcases Nat.lt_or_ge j (n / 64) with h | h
                  · rw [hWz j (by omega) (by omega), shl_low htb j h]
                  · exact hWj j h (by omega)
                refine ⟨_, rfl, rfl, d, t, ⟨dtl, ?_, by rw [← hWt]; exact hwd10, by omega, by rw [← hWt]; exact hSh9.lt, by rw [← hWt]; exact hSh9.cap⟩, htn, by omega, hd, ?_⟩
                · rw [htl, ← hWt, hWl]; exact hst10
                · refine (hK9.trans hK10 (fun i hi => by simp only [List.mem_singleton] at hi; subst hi; simp)).mono fun i hi => ?_
                  simp only [List.mem_cons, List.not_mem_nil, or_false] at hi ⊢
                  omega
    ·
      refine st (y_move rfl) rfl ?_
      refine st (y_extract rfl rfl) rfl ?_
      refine st (y_extract rfl rfl) rfl ?_
      refine st (y_assign rfl) rfl ?_
      refine st (y_assign rfl) rfl ?_
      refine l_nil ?_
      refine q_then ?_
      refine c_seq ?_
      refine c_seq ?_
      refine c_region ?_
      refine st (y_move rfl) rfl ?_
      refine st (y_not rfl) rfl ?_
      refine l_nil ?_
      refine q_then ?_
      refine c_true rfl rfl ?_
      refine c_ret ?_
      refine q_then_ret ?_
      refine q_end0 (.inl rfl) rfl ?_
      have hns : nums s = [] := by
        rw [Non.nums (s := s) (i := 0) (fun j _ => hno j)]; rfl
      exact ⟨_, rfl, rfl, q, s, hB, by rw [hns]; rfl, by omega, .inl rfl, Keep.refl _ _⟩

end Go.Proofs.YtbahhdeblppooaaDoor

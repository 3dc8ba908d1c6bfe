/- The reference's Longer, by its contract. -/
import Derived.Test.YtmlamceblhhhpaaDoorN1
import Derived.Test.YtmlamceblhhhpaaDoorK10
import Derived.Test.YtmlamceblhhhpaaDoorL12
set_option linter.unusedVariables false
set_option linter.unusedSimpArgs false
set_option maxRecDepth 100000
namespace Go.Proofs.YtmlamceblhhhpaaDoor
open Go Go.RowKit

theorem RdB.news {w : World} {ad : Addr} {m : Nat} {s : List Bool} (h : RdB w (some ad) m s) : ∀ j u', (s.map vB)[j]? = some u' → w.cell? (ad.add j) = some u' := by
  intro j u hj
  have hl := h.1
  rw [List.getElem?_map] at hj
  cases hs : s[j]? with
  | none => rw [hs] at hj; cases hj
  | some x =>
    rw [hs] at hj
    obtain ⟨hlt, hx⟩ := List.getElem?_eq_some_iff.1 hs
    obtain ⟨ad', e, _, hc⟩ := h.2.2 (by omega)
    cases e
    rw [hc j (by omega), List.getD_eq_getElem?_getD, hs]
    exact hj
theorem one_vB (s : List Bool) : ∀ u ∈ s.map vB, u.oneCell' = true := by
  intro u hu
  obtain ⟨b, _, rfl⟩ := List.mem_map.1 hu
  rfl

theorem Ow.row {w : World} {base : Nat} {e : TypeId} {v : Value} {xs : List Value} (h : Ow w base e v xs) (h0 : 0 < xs.length) : ∃ b c tail, v = vS b xs.length c ∧ base ≤ b ∧ Blk w b e (xs ++ tail) ∧ c = xs.length + tail.length ∧ c ≤ maxLen := by
  rcases h with ⟨_, h2⟩ | h
  · rw [h2] at h0; exact absurd h0 (by simp)
  · exact h
/-- an element of a slice of truths is stored -/
theorem setRow {w : World} {b : Nat} {e : TypeId} {s : List Bool} {tail : List Value} {k : Nat} {x : Bool} (h : Blk w b e ((s.map vB ++ tail).set k (vB x))) (hk : k < s.length) : Blk w b e ((s.set k x).map vB ++ tail) := by
  rw [List.set_append_left _ _ (by simpa using hk)] at h
  rwa [List.map_set]
theorem mapRow_get {s : List Bool} {tail : List Value} {k : Nat} (hk : k < s.length) : (s.map vB ++ tail)[k]? = some (vB (s.getD k false)) := by
  rw [List.getElem?_append_left (by simpa using hk), List.getElem?_map, List.getElem?_eq_getElem hk, List.getD_eq_getElem?_getD, List.getElem?_eq_getElem hk]; rfl
theorem rowOw {w : World} {base b : Nat} {e : TypeId} {s : List Bool} {tail : List Value} {c : Nat} (h : Blk w b e (s.map vB ++ tail)) (hb : base ≤ b) (hc : c = s.length + tail.length) (hm : c ≤ maxLen) : Ow w base e (vS b s.length c) (s.map vB) :=
  .inr ⟨b, c, tail, by rw [List.length_map], hb, h, by rw [List.length_map]; exact hc, hm⟩

theorem c_Longer (ad : Addr) (m c : Nat) (s : List Bool) (n : Nat) (w : World) (hB : RdB w (some ad) m s) (hs : s.length ≤ 100000) (hn : n ≤ 100000) :
    Cal Tryd.prog 18 [.slice (some ad) m c, vI (n : Nat)] w fun v w' => Ow w' w.heap.size 4 v ((ext s n).map vB) ∧ Keep w w' [] := by
  have hm := hB.1
  refine go_in' Tryd.func18 rfl Tryd.ntmps18 (Nat.le_of_ble_eq_true rfl) ?_
  refine c_seq ?_
  refine c_region ?_
  refine st (y_assign rfl) rfl ?_
  refine l_nil ?_
  refine q_then ?_
  refine c_seq ?_
  refine c_region ?_
  refine st_buildSlice0 Tryd.underlying28 sz4 rfl ?_
  intro b1 w1 hb1 hB1 hK1 hS1
  refine st (y_move rfl) rfl ?_
  have hO1 : Ow w1 w.heap.size 4 (vS b1 0 0) ([] : List Value) := Ow.empty hB1 (by omega)
  have hR1 := hB.keep hK1 (by simp)
  obtain ⟨i4, hi1, hi2, hi3, hi4⟩ := info_parts inf4
  refine st_appendL (news := s.map vB) rfl rfl Tryd.underlying28 hi1 hi2 hi3 (by omega) rfl (by rw [List.length_map]; exact hm) (hR1.news) (one_vB s) (by assumption) (by first | omega | (simp only [List.length_map, List.length_nil, List.length_append, List.length_cons, List.length_take, List.length_drop]; omega) | simp) (by omega) (by omega) rfl ?_
  clear hi1 hi2 hi3 hi4
  intro v2 w2 L2 hO2 hK2 hL2
  have hK12 := hK1.trans hK2 (fun i hi => .inr (hL2 i hi))
  rw [List.nil_append] at hO2
  clear hO1 hR1
  refine st (y_assign rfl) rfl ?_
  refine l_nil ?_
  refine q_then ?_
  refine c_seq ?_
  refine c_block ?_
  refine c_loop (fun x : Nat × Value => [(1, vI (n : Nat)), (5, x.2)]) (fun x w' => x.1 ≤ n - s.length ∧ Ow w' w.heap.size 4 x.2 ((s ++ List.replicate x.1 false).map vB) ∧ Keep w w' []) (fun x => n - s.length - x.1) (0, v2) ?_ ?_ ?_
  · exact ⟨rfl, rfl, trivial⟩
  · exact ⟨Nat.zero_le _, by simpa using hO2, hK12⟩
  · rintro ⟨k, v⟩ w3 ⟨hk, hO3, hK3⟩
    simp only at hk hO3 hK3 ⊢
    have hsz3 := hK3.size
    obtain ⟨Av, cv, rfl⟩ := hO3.form
    have hll : ((s ++ List.replicate k false).map vB).length = s.length + k := by simp
    rw [hll] at ⊢ hO3
    refine c_seq ?_
    refine c_seq ?_
    refine c_region ?_
    refine st (y_move rfl) rfl ?_
    refine st (y_len rfl Tryd.underlying28) rfl ?_
    refine st (y_move rfl) rfl ?_
    refine st_if (y_lt_i rfl rfl) rfl (fun hlt => ?_) (fun hlt => ?_)
    · have hstep : (s ++ List.replicate (k + 1) false).map vB = (s ++ List.replicate k false).map vB ++ [vB false] := by
        rw [show List.replicate (k + 1) false = List.replicate k false ++ [false] from List.replicate_succ', ← List.append_assoc, List.map_append]; rfl
      have hll2 : ((s ++ List.replicate k false).map vB).length ≤ 1000000 := by rw [hll]; omega
      refine l_nil ?_
      refine q_then ?_
      refine c_true rfl rfl ?_
      refine c_skip ?_
      refine q_then ?_
      refine c_block ?_
      refine c_region ?_
      refine st (y_move rfl) rfl ?_
      refine st_buildSlice [vB false] Tryd.underlying28 sz4 zv4 rfl (by decide) (by decide) (by kernel_rfl) rfl ?_
      intro b6 w6 hb6 hB6 hK6 hS6
      have hO6 := hO3.keep hK6 (by simp)
      obtain ⟨i4, hi1, hi2, hi3, hi4⟩ := info_parts inf4
      refine st_append1 rfl rfl Tryd.underlying28 hi1 hi2 hi3 (by omega) rfl rfl (by assumption) (by assumption) (by first | omega | (simp only [List.length_map, List.length_nil, List.length_append, List.length_cons, List.length_take, List.length_drop]; omega)) (by omega) rfl ?_
      clear hi1 hi2 hi3 hi4
      intro v7 w7 L7 hO7 hK7 hL7
      refine st (y_assign rfl) rfl ?_
      refine l_nil ?_
      refine q_block ?_
      refine q_round (k + 1, v7) ⟨rfl, rfl, trivial⟩ ⟨by simp only; omega, ?_, ?_⟩ (by simp only; omega)
      · simp only
        rw [hstep]
        exact hO7
      · exact (hK3.trans hK6 (by simp)).trans hK7 (fun i hi => .inr (hL7 i hi))
    ·
      have hke : k = n - s.length := by omega
      refine l_nil ?_
      refine q_then ?_
      refine c_false rfl rfl ?_
      refine c_exit ?_
      refine q_then_exit ?_
      refine q_then_exit ?_
      refine q_block_hit ?_
      refine q_then ?_
      refine c_seq ?_
      refine c_region ?_
      refine st (y_move rfl) rfl ?_
      refine st (y_assign rfl) rfl ?_
      refine l_nil ?_
      refine q_then ?_
      refine c_ret ?_
      refine q_end1 (.inl rfl) rfl rfl ?_
      refine ⟨_, rfl, ?_, hK3⟩
      unfold ext
      rw [← hke]
      exact hO3

end Go.Proofs.YtmlamceblhhhpaaDoor

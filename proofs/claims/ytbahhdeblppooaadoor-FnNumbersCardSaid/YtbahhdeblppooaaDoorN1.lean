/- The reference's Numbers, by its contract. -/
import Derived.Test.YtbahhdeblppooaaDoorA5
import Derived.Test.YtbahhdeblppooaaDoorL5
import Derived.Test.YtbahhdeblppooaaDoorK7
set_option linter.unusedVariables false
set_option linter.unusedSimpArgs false
set_option maxRecDepth 100000
namespace Go.Proofs.YtbahhdeblppooaaDoor
open Go Go.RowKit

/-- a list of truths that is only read -/
def RdB (w : World) (A : Option Addr) (n : Nat) (s : List Bool) : Prop :=
  s.length = n ∧ n ≤ 9223372036854775807 ∧ (0 < n → ∃ ad, A = some ad ∧ ad.block < w.heap.size ∧ ∀ j, j < n → w.cell? (ad.add j) = some (vB (s.getD j false)))
theorem RdB.keep {w w' : World} {A : Option Addr} {n : Nat} {s : List Bool} {L : List Nat} (h : RdB w A n s) (k : Keep w w' L) (hn : ∀ i, i ∈ L → (∀ ad, A = some ad → i ≠ ad.block) ∨ w.heap.size ≤ i) : RdB w' A n s :=
  ⟨h.1, h.2.1, fun h0 => by
    obtain ⟨ad, h1, h2, h3⟩ := h.2.2 h0
    refine ⟨ad, h1, Nat.lt_of_lt_of_le h2 k.size, fun j hj => ?_⟩
    rw [← h3 j hj]
    have e : (ad.add j).block = ad.block := by unfold Addr.add; split <;> rfl
    refine World.cell?_of_block (k.same _ ?_ ?_)
    · rw [e]; exact h2
    · intro hm
      rcases hn _ hm with h4 | h4
      · exact h4 ad h1 e
      · omega⟩
theorem Bl.rdB {w : World} {b : Nat} {s : List Bool} (h : Bl w b s) (hs : s.length ≤ 9223372036854775807) : RdB w (some ⟨b, 0, none⟩) s.length s :=
  ⟨rfl, hs, fun h0 => ⟨_, rfl, Blk.lt h, fun j hj => by
    rw [add_pt, Nat.zero_add]
    refine Blk.cell h ?_
    rw [List.getElem?_map, List.getElem?_eq_getElem hj, List.getD_eq_getElem?_getD, List.getElem?_eq_getElem hj]; rfl⟩⟩
theorem Ow.rdB {w : World} {base : Nat} {e : TypeId} {A : Option Addr} {n c : Nat} {s : List Bool} (h : Ow w base e (.slice A n c) (s.map vB)) : n = s.length ∧ RdB w A n s := by
  rcases h with ⟨h1, h2⟩ | ⟨b, c', tail, h1, _, hB, hc, hm⟩
  · cases h1
    have : s = [] := by simpa using h2
    subst this
    exact ⟨rfl, rfl, by simp, fun h => absurd h (by simp)⟩
  · cases h1
    rw [List.length_map]
    refine ⟨rfl, rfl, ?_, fun h0 => ⟨_, rfl, hB.lt, fun j hj => ?_⟩⟩
    · simp only [List.length_map] at hc; unfold maxLen at hm; omega
    · rw [add_pt, Nat.zero_add]
      refine hB.cell ?_
      rw [List.getElem?_append_left (by simpa using hj), List.getElem?_map, List.getElem?_eq_getElem hj]
      simp [List.getD_eq_getElem?_getD, hj]

theorem c_NumbersR (A : Option Addr) (n c : Nat) (s : List Bool) (w : World) (hB : RdB w A n s) (hs : s.length ≤ 100000) :
    Cal Tryd.prog 14 [.slice A n c] w fun v w' => Ow w' w.heap.size 22 v ((nums s).map vU) ∧ Keep w w' [] := by
  have hn : n = s.length := hB.1.symm
  subst hn
  refine go_in' Tryd.func14 rfl Tryd.ntmps14 (Nat.le_of_ble_eq_true rfl) ?_
  refine c_seq ?_
  refine c_region ?_
  refine st (y_assign rfl) rfl ?_
  refine l_nil ?_
  refine q_then ?_
  refine c_seq ?_
  refine c_region ?_
  refine st_buildSlice0 Tryd.underlying23 sz22 rfl ?_
  intro b1 w1 hb1 hB1 hK1 hS1
  refine st (y_assign rfl) rfl ?_
  refine l_nil ?_
  refine q_then ?_
  refine c_seq ?_
  refine c_seq ?_
  refine c_region ?_
  refine st (y_move rfl) rfl ?_
  refine st (y_len rfl Tryd.underlying28) rfl ?_
  refine st (y_move (v := vI ((0 : Nat) : Int)) rfl) rfl ?_
  refine l_nil ?_
  refine q_then ?_
  refine c_block ?_
  refine c_loop (fun x : Nat × Value => [(0, .slice A s.length c), (3, x.2), (7, .slice A s.length c), (8, vI (s.length : Nat)), (9, vI (x.1 : Nat))]) (fun x w' => x.1 ≤ s.length ∧ Ow w' w.heap.size 22 x.2 ((nums (s.take x.1)).map vU) ∧ Keep w w' []) (fun x => s.length - x.1) (0, vS b1 0 0) ?_ ?_ ?_
  · exact ⟨rfl, rfl, rfl, rfl, rfl, trivial⟩
  · exact ⟨Nat.zero_le _, Ow.empty hB1 (by omega), hK1⟩
  · rintro ⟨k, v⟩ w2 ⟨hk, hO, hKk⟩
    simp only at hk hO hKk ⊢
    have hB2 := hB.keep hKk (by simp)
    refine c_seq ?_
    refine c_region ?_
    refine st_if (y_lt_i rfl rfl) rfl (fun hlt => ?_) (fun hlt => ?_)
    · have hkn : k < s.length := by omega
      have hstep := nums_take_succ s k hkn
      obtain ⟨ad, rfl, had, hcell⟩ := hB2.2.2 (by omega)
      have hcl0 := hcell k (by omega)
      refine l_nil ?_
      refine q_then ?_
      refine c_seq ?_
      refine c_true rfl rfl ?_
      refine c_skip ?_
      refine q_then ?_
      refine c_seq ?_
      refine c_block ?_
      refine c_seq ?_
      refine c_region ?_
      refine st (y_move rfl) rfl ?_
      first | refine st (y_index0 rfl rfl Tryd.underlying28 sz4 (by omega)) rfl ?_ | refine st (y_index rfl rfl Tryd.underlying28 sz4 (by omega)) rfl ?_ | refine st (y_indexA rfl rfl Tryd.underlying28 sz4 (by omega)) rfl ?_
      refine st (y_load rfl one4 (by assumption)) rfl ?_
      refine st (y_assign rfl) rfl ?_
      refine st (y_assign rfl) rfl ?_
      refine l_nil ?_
      refine q_then ?_
      refine c_seq ?_
      refine c_region ?_
      refine st (y_move rfl) rfl ?_
      refine l_nil ?_
      refine q_then ?_
      refine c_ifb rfl (fun hbit => ?_) (fun hbit => ?_)
      · rw [if_pos hbit] at hstep
        have hlen := nums_length_take s k (by omega)
        have hcl := cnt_le (fun i => s.getD i false) k
        refine c_region ?_
        refine st (y_move rfl) rfl ?_
        refine st (y_move rfl) rfl ?_
        refine st (y_conv_iu rfl us3 Tryd.underlying22 rfl (by omega)) rfl ?_
        refine st_buildSlice [vU k] Tryd.underlying23 sz22 zv22 rfl (by decide) (by decide) (by kernel_rfl) rfl ?_
        intro b3 w3 hb3 hB3 hK3 hS3
        have hO3 := hO.keep hK3 (by simp)
        have hsz := hKk.size
        obtain ⟨i22, hi1, hi2, hi3, hi4⟩ := info_parts inf22
        refine st_append1 rfl rfl Tryd.underlying23 hi1 hi2 hi3 (by omega) rfl rfl (by assumption) (by assumption) (by first | omega | (simp only [List.length_map, List.length_nil, List.length_append, List.length_cons, List.length_take, List.length_drop]; omega)) (by omega) rfl ?_
        clear hi1 hi2 hi3 hi4
        intro v4 w4 L4 hO4 hK4 hL4
        refine st (y_assign rfl) rfl ?_
        refine l_nil ?_
        refine q_block ?_
        refine q_then ?_
        refine c_region ?_
        first | refine st (y_add_in (b := 1) rfl rfl (by omega)) rfl ?_ | refine st (y_add_i (b := 1) rfl rfl (by omega) (by omega)) rfl ?_
        refine st (y_move rfl) rfl ?_
        refine l_nil ?_
        refine q_round (k + 1, v4) ⟨rfl, rfl, rfl, rfl, rfl, trivial⟩ ⟨by simp only; omega, ?_, ?_⟩ (by simp only; omega)
        · simp only
          rw [hstep, List.map_append]
          exact hO4
        · exact (hKk.trans hK3 (by simp)).trans hK4 (fun i hi => .inr (hL4 i hi))
      ·
        have hbit' : ¬ s.getD k false = true := by rw [hbit]; simp
        rw [if_neg hbit', List.append_nil] at hstep
        refine c_skip ?_
        refine q_block ?_
        refine q_then ?_
        refine c_region ?_
        first | refine st (y_add_in (b := 1) rfl rfl (by omega)) rfl ?_ | refine st (y_add_i (b := 1) rfl rfl (by omega) (by omega)) rfl ?_
        refine st (y_move rfl) rfl ?_
        refine l_nil ?_
        refine q_round (k + 1, v) ⟨rfl, rfl, rfl, rfl, rfl, trivial⟩ ⟨by simp only; omega, ?_, hKk⟩ (by simp only; omega)
        simp only
        rw [hstep]
        exact hO
    ·
      have hkn : k = s.length := by omega
      rw [hkn, List.take_length] at hO
      refine l_nil ?_
      refine q_then ?_
      refine c_seq ?_
      refine c_false rfl rfl ?_
      refine c_exit ?_
      refine q_then_exit ?_
      refine q_then_exit ?_
      refine q_block_hit ?_
      refine q_then ?_
      refine c_seq ?_
      refine c_region ?_
      refine st (y_move rfl) rfl ?_
      refine st (y_assign rfl) rfl ?_
      refine l_nil ?_
      refine q_then ?_
      refine c_ret ?_
      refine q_end1 (.inl rfl) rfl rfl ?_
      exact ⟨_, rfl, hO, hKk⟩
theorem c_Numbers (b : Nat) (s : List Bool) (w : World) (hB : Bl w b s) (hs : s.length ≤ 100000) :
    Cal Tryd.prog 14 [vS b s.length s.length] w fun v w' => Ow w' w.heap.size 22 v ((nums s).map vU) ∧ Keep w w' [] :=
  c_NumbersR _ _ _ s w (hB.rdB (by omega)) hs


end Go.Proofs.YtbahhdeblppooaaDoor

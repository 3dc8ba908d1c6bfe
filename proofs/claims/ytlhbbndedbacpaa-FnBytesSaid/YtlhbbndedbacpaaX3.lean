/- slices.Clone of bytes; a slice of bytes that is only read. -/
import Derived.Test.YtlhbbndedbacpaaK15
import Derived.Test.YtlhbbndedbacpaaK17
import Derived.Test.YtlhbbndedbacpaaA2
set_option linter.unusedVariables false
set_option linter.unusedSimpArgs false
set_option maxRecDepth 100000
set_option maxHeartbeats 1000000
namespace Go.Proofs.Ytlhbbndedbacpaa
open Go Go.RowKit

/-- a slice of bytes that is only read -/
def Rd8 (w : World) (A : Option Addr) (n : Nat) (xs : List Nat) : Prop :=
  xs.length = n ∧ n ≤ 9223372036854775807 ∧ (0 < n → ∃ ad, A = some ad ∧ ad.block < w.heap.size ∧ ∀ j, j < n → w.cell? (ad.add j) = some (v8 (xs.getD j 0)))
theorem Rd8.keep {w w' : World} {A : Option Addr} {n : Nat} {xs : List Nat} {L : List Nat} (h : Rd8 w A n xs) (k : Keep w w' L) (hn : ∀ i, i ∈ L → (∀ ad, A = some ad → i ≠ ad.block) ∨ w.heap.size ≤ i) : Rd8 w' A n xs :=
  ⟨h.1, h.2.1, fun h0 => by
    obtain ⟨ad, h1, h2, h3⟩ := h.2.2 h0
    refine ⟨ad, h1, Nat.lt_of_lt_of_le h2 k.size, fun j hj => ?_⟩
    rw [← h3 j hj]
    have e : (ad.add j).block = ad.block := by unfold Addr.add; split <;> rfl
    refine World.cell?_of_block (k.same _ (by rw [e]; exact h2) ?_)
    intro hm
    rw [e] at hm
    rcases hn _ hm with h | h
    · exact h ad h1 rfl
    · omega⟩
theorem Rd8.news8 {w : World} {ad : Addr} {n : Nat} {xs : List Nat} (h : Rd8 w (some ad) n xs) : ∀ j u', (xs.map v8)[j]? = some u' → w.cell? (ad.add j) = some u' := by
  intro j u hj
  have hl := h.1
  rw [List.getElem?_map] at hj
  cases hs : xs[j]? with
  | none => rw [hs] at hj; cases hj
  | some x =>
    rw [hs] at hj
    obtain ⟨hlt, hx⟩ := List.getElem?_eq_some_iff.1 hs
    obtain ⟨ad', e, _, hc⟩ := h.2.2 (by omega)
    cases e
    rw [hc j (by omega), List.getD_eq_getElem?_getD, hs]
    exact hj

theorem c_Clone8 (A : Option Addr) (n c : Nat) (xs : List Nat) (hA : A = none → c = 0) (hn : n ≤ 100000) (w : World) (hR : Rd8 w A n xs) :
    Cal Try.prog 47 [.slice A n c] w fun v w' => Keep w w' [] ∧ ((n = 0 ∧ ∃ A' c', v = .slice A' 0 c') ∨ (0 < n ∧ ∃ b c', v = vS b n c' ∧ n ≤ c' ∧ c' ≤ 9223372036854775807 ∧ w.heap.size ≤ b ∧ Blk w' b 5 ((xs ++ List.replicate (c' - n) 0).map v8))) := by
  have hl := hR.1
  refine go_in' Try.func47 rfl Try.ntmps47 (Nat.le_of_ble_eq_true rfl) ?_
  rcases A with _ | ad
  · have hn0 : n = 0 := by
      rcases Nat.eq_zero_or_pos n with h | h
      · exact h
      · obtain ⟨_, e, _⟩ := hR.2.2 h; cases e
    refine c_seq ?_
    refine c_region ?_
    refine st (y_assign rfl) rfl ?_
    refine l_nil ?_
    refine q_then ?_
    refine c_seq ?_
    refine c_seq ?_
    refine c_region ?_
    refine st (y_move rfl) rfl ?_
    refine st (y_snil_eq rfl rfl Try.underlying42) rfl ?_
    refine l_nil ?_
    refine q_then ?_
    refine c_true rfl rfl ?_
    refine c_seq ?_
    refine c_region ?_
    refine st (y_assign rfl) rfl ?_
    refine l_nil ?_
    refine q_then ?_
    refine c_ret ?_
    refine q_then_ret ?_
    refine q_end1 (.inl rfl) rfl rfl ?_
    exact ⟨_, rfl, Keep.refl _ _, .inl ⟨hn0, none, 0, rfl⟩⟩
  ·
    refine c_seq ?_
    refine c_region ?_
    refine st (y_assign rfl) rfl ?_
    refine l_nil ?_
    refine q_then ?_
    refine c_seq ?_
    refine c_seq ?_
    refine c_region ?_
    refine st (y_move rfl) rfl ?_
    refine st (y_snil_eq rfl rfl Try.underlying42) rfl ?_
    refine l_nil ?_
    refine q_then ?_
    refine c_false rfl rfl ?_
    refine c_skip ?_
    refine q_then ?_
    refine c_seq ?_
    refine c_region ?_
    refine st_buildSlice0 Try.underlying42 sz5 rfl ?_
    intro b1 w1 hb1 hB1 hK1 hS1
    have hR1 := hR.keep hK1 (by simp)
    rcases Nat.eq_zero_or_pos n with h0 | h0
    · subst h0
      have hx0 : xs = [] := List.eq_nil_of_length_eq_zero hl
      subst hx0
      have hO : Ow w1 b1 5 (vS b1 0 0) ([] : List Value) := Ow.empty hB1 (Nat.le_refl _)
      refine st (y_move rfl) rfl ?_
      obtain ⟨i5, hi1, hi2, hi3, hi4⟩ := info_parts inf5
      refine st_appendB (news := []) rfl rfl Try.underlying42 hi1 hi2 hi3 (by omega) rfl (rfl) (fun j u' hj => by simp at hj) (fun u hu => by simp at hu) (by assumption) (by first | omega | (simp only [List.length_map, List.length_nil, List.length_append, List.length_cons, List.length_take, List.length_drop]; omega) | simp) (by omega) (by omega) rfl ?_
      clear hi1 hi2 hi3 hi4
      intro v2 w2 hO2 hK2
      obtain ⟨A2, c2, rfl⟩ := hO2.form
      refine st (y_assign rfl) rfl ?_
      refine l_nil ?_
      refine q_then ?_
      refine c_ret ?_
      refine q_end1 (.inl rfl) rfl rfl ?_
      exact ⟨_, rfl, hK1.trans hK2 (fun j hj => by simp only [List.mem_singleton] at hj; exact .inr (by omega)), .inl ⟨rfl, A2, c2, rfl⟩⟩
    ·
      refine st (y_move rfl) rfl ?_
      obtain ⟨i2, hi1, hi2, hi3, hi4⟩ := info_parts inf5
      refine st_appendE (news := xs.map v8) rfl rfl Try.underlying42 hi1 hi2 hi3 (by omega) rfl (by simpa using hl) hR1.news8 h0 (by omega) rfl ?_
      clear hi1 hi2 hi3 hi4
      intro c' w2 hc1 hc2 hB2 hK2 hS2
      refine st (y_assign rfl) rfl ?_
      refine l_nil ?_
      refine q_then ?_
      refine c_ret ?_
      refine q_end1 (.inl rfl) rfl rfl ?_
      refine ⟨_, rfl, hK1.trans hK2 (by simp), .inr ⟨h0, _, c', rfl, hc1, by unfold maxLen at hc2; omega, by omega, ?_⟩⟩
      rw [List.map_append, List.map_replicate]
      exact hB2

end Go.Proofs.Ytlhbbndedbacpaa

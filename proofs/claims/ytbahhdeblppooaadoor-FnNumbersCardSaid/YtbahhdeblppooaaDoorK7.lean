/- A slice of numbers that the call itself makes by appending; no statement of the program is proved here. -/
import Derived.Test.YtbahhdeblppooaaDoorK5
import Derived.Laws.AppendOwn
set_option linter.unusedVariables false
set_option linter.unusedSimpArgs false
namespace Go.Proofs.YtbahhdeblppooaaDoor
open Go Go.RowKit

/-- v is a slice whose elements are xs, its row among the blocks from base on -/
def Ow (w : World) (base : Nat) (e : TypeId) (v : Value) (xs : List Value) : Prop :=
  (v = .slice none 0 0 ∧ xs = []) ∨ ∃ b c tail, v = vS b xs.length c ∧ base ≤ b ∧ Blk w b e (xs ++ tail) ∧ c = xs.length + tail.length ∧ c ≤ maxLen

theorem Ow.nil (w : World) (base : Nat) (e : TypeId) : Ow w base e (.slice none 0 0) [] := .inl ⟨rfl, rfl⟩
theorem Ow.empty {w : World} {base b : Nat} {e : TypeId} (hB : Blk w b e []) (hb : base ≤ b) : Ow w base e (vS b 0 0) [] :=
  .inr ⟨b, 0, [], rfl, hb, hB, rfl, by simp [maxLen]⟩
theorem Ow.keep {w w' : World} {base : Nat} {e : TypeId} {v : Value} {xs : List Value} {L : List Nat} (h : Ow w base e v xs) (k : Keep w w' L) (hL : ∀ i, i ∈ L → i < base ∨ w.heap.size ≤ i) : Ow w' base e v xs := by
  rcases h with h | ⟨b, c, tail, h1, h2, h3, h4, h5⟩
  · exact .inl h
  · refine .inr ⟨b, c, tail, h1, h2, h3.keep k ?_, h4, h5⟩
    intro hm
    have := hL b hm
    have := h3.lt
    omega
theorem Ow.form {w : World} {base : Nat} {e : TypeId} {v : Value} {xs : List Value} (h : Ow w base e v xs) : ∃ A c, v = .slice A xs.length c := by
  rcases h with ⟨rfl, rfl⟩ | ⟨b, c, tail, rfl, _⟩
  · exact ⟨none, 0, rfl⟩
  · exact ⟨_, c, rfl⟩
theorem Ow.rd {w : World} {base : Nat} {e : TypeId} {v : Value} {xs : List Nat} (h : Ow w base e v (xs.map vU)) : ∃ A c, v = .slice A xs.length c ∧ Rd w A xs.length xs := by
  rcases h with ⟨rfl, h2⟩ | ⟨b, c, tail, rfl, _, hB, hc, hm⟩
  · have : xs = [] := by simpa using h2
    subst this
    exact ⟨none, 0, rfl, rfl, by simp, fun h => absurd h (by simp)⟩
  · refine ⟨some ⟨b, 0, none⟩, c, by simp, rfl, ?_, fun h0 => ⟨_, rfl, hB.lt, fun j hj => ?_⟩⟩
    · simp only [List.length_map] at hc; unfold maxLen at hm; omega
    · rw [add_pt, Nat.zero_add]
      refine hB.cell ?_
      rw [List.getElem?_append_left (by simpa using hj), List.getElem?_map, List.getElem?_eq_getElem hj]
      simp [List.getD_eq_getElem?_getD, hj]
theorem Ow.owns {w : World} {base : Nat} {e : TypeId} {v : Value} {xs : List Value} (h : Ow w base e v xs) : w.ownsRow base e 1 v xs.length xs := by
  rcases h with ⟨rfl, rfl⟩ | ⟨b, c, tail, rfl, h2, h3, h4, h5⟩
  · exact World.ownsRow_nil w base e 1
  · exact ⟨by simp, .inr ⟨b, c, (xs ++ tail).toArray, rfl, h2, h3, by omega, h5, by simp; omega, by simp⟩⟩
theorem Ow.of {w : World} {base n : Nat} {e : TypeId} {v : Value} {xs : List Value} (h : w.ownsRow base e 1 v n xs) : Ow w base e v xs := by
  obtain ⟨h1, h⟩ := h
  rw [Nat.mul_one] at h1
  subst h1
  rcases h with ⟨rfl, h2⟩ | ⟨g, cap, cur, rfl, h2, h3, h4, h5, h6, h7⟩
  · exact .inl ⟨rfl, List.eq_nil_of_length_eq_zero h2⟩
  · rw [Nat.mul_one] at h6 h7
    refine .inr ⟨g, cap, cur.toList.drop xs.length, rfl, h2, ?_, ?_, h5⟩
    · have e1 : xs ++ cur.toList.drop xs.length = cur.toList := by
        have h8 := List.take_append_drop xs.length cur.toList
        rw [h7] at h8
        exact h8
      rw [e1]
      exact h3
    · simp; omega

section
variable {P : Program} {ops : Array Oper} {Q : Exit → Act → World → Prop} {n : Nat} {D : List Deferred} {F : Fr} {rest : List Oper} {w : World} {T : TypeId} {pos : String} {af : Array Edge}
/-- append(xs, y): y has been laid in a row of its own -/
theorem st_append1 {d : Nat} {x y : Operand} {t e : TypeId} {i : TypeInfo} {z u v : Value} {base b1 c1 : Nat} {xs : List Value} {T1 : TypeId} (hx : ev F x = some v) (hy : ev F y = some (vS b1 1 c1)) (ht : P.underlying t = some (.slice e)) (hi : P.info? e = some i) (hz : i.zero = some z) (hs : i.size = 1) (hb : i.bytes ≤ 64) (hz1 : z.oneCell' = true) (hu : u.oneCell' = true)
    (hO : Ow w base e v xs) (hB : Blk w b1 T1 [u]) (hlen : xs.length ≤ 1000000) (hbase : base ≤ w.heap.size) (hd : Nat.blt d n = true)
    (k : ∀ v' w1 L, Ow w1 base e v' (xs ++ [u]) → Keep w w1 L → (∀ i, i ∈ L → base ≤ i) → wpL P ops Q n D ((d, v') :: F) rest w1) : wpL P ops Q n D F (⟨some d, .call ⟨.builtin .append, #[x, y], #[t, t]⟩, T, pos, af, none⟩ :: rest) w := by
  have hnews : ∀ j u', [u][j]? = some u' → w.cell? ((⟨b1, 0, none⟩ : Addr).add j) = some u' := by
    intro j u' hj
    rw [add_pt, Nat.zero_add]
    exact hB.cell hj
  obtain ⟨v', w1, hr, hO', hg, _⟩ := run_append_own (P := P) w base t T e i z 1 i.bytes ht hi hz hs rfl (by rw [cells_one hz1]; rfl) (by omega) v xs.length xs hO.owns ⟨b1, 0, none⟩ 1 c1 [u] rfl hnews (by simpa using hu) (by unfold maxLen; omega)
    (by have : (xs.length + 1) * i.bytes ≤ 1000001 * 64 := Nat.mul_le_mul (by omega) hb; omega) hbase
  have hlt : ∀ i, i ∈ v.ownBlock.toList → base ≤ i := fun i hi => (hO.owns.lt i (by simpa using hi)).1
  refine st (v := v') (w' := w1) ?_ hd (k v' w1 v.ownBlock.toList (Ow.of hO') ⟨hg.os, hg.tape, hg.output, hg.size, fun i hi hn => hg.block i hi (fun e => hn (by simp [← e]))⟩ hlt)
  exact fun dst pos af gd ρ hρ => .inl (by
    rw [exec_builtin hρ (vals := [v, vS b1 1 c1]) (by simp [evs, hx, hy])]
    simp [builtin, hr])
end
end Go.Proofs.YtbahhdeblppooaaDoor

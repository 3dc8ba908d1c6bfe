/- append to a slice whose block is known: where the longer one lies; no statement of the program is proved here. -/
import Derived.Test.YtbahhdeblppooaaDoorK12
set_option linter.unusedVariables false
set_option linter.unusedSimpArgs false
namespace Go.Proofs.YtbahhdeblppooaaDoor
open Go Go.RowKit
theorem news_one {w : World} {b : Nat} {t : TypeId} {u : Value} (h : Blk w b t [u]) : ∀ j u', [u][j]? = some u' → w.cell? ((⟨b, 0, none⟩ : Addr).add j) = some u' := by
  intro j u' hj
  rw [add_pt, Nat.zero_add]
  exact h.cell hj
section
variable {P : Program} {ops : Array Oper} {Q : Exit → Act → World → Prop} {n : Nat} {D : List Deferred} {F : Fr} {rest : List Oper} {w : World} {T : TypeId} {pos : String} {af : Array Edge}
theorem st_appendA {d : Nat} {x y : Operand} {t e : TypeId} {i : TypeInfo} {z : Value} {base m c1 b0 n0 c0 : Nat} {ad : Addr} {xs news : List Value} (hx : ev F x = some (vS b0 n0 c0)) (hy : ev F y = some (.slice (some ad) m c1)) (ht : P.underlying t = some (.slice e)) (hi : P.info? e = some i) (hz : i.zero = some z) (hs : i.size = 1) (hb : i.bytes ≤ 64) (hz1 : z.oneCell' = true)
    (hl : news.length = m) (hnews : ∀ j u', news[j]? = some u' → w.cell? (ad.add j) = some u') (hu : ∀ u ∈ news, u.oneCell' = true)
    (hO : Ow w base e (vS b0 n0 c0) xs) (hlen : xs.length ≤ 1000000) (hm : m ≤ 1000000) (hbase : base ≤ w.heap.size) (hd : Nat.blt d n = true)
    (k : ∀ b' c' w1, (b' = b0 ∨ b' = w.heap.size) → Ow w1 base e (vS b' (xs.length + m) c') (xs ++ news) → Keep w w1 [b0] → wpL P ops Q n D ((d, vS b' (xs.length + m) c') :: F) rest w1) : wpL P ops Q n D F (⟨some d, .call ⟨.builtin .append, #[x, y], #[t, t]⟩, T, pos, af, none⟩ :: rest) w := by
  have hbytes : (xs.length + m) * i.bytes ≤ 140737488355328 := by have : (xs.length + m) * i.bytes ≤ 2000000 * 64 := Nat.mul_le_mul (by omega) hb; omega
  obtain ⟨v', w1, hr, hO', hg, _⟩ := run_append_own (P := P) w base t T e i z 1 i.bytes ht hi hz hs rfl (by rw [cells_one hz1]; rfl) (by omega) _ xs.length xs hO.owns ad m c1 news (by omega) hnews hu (by unfold maxLen; omega) hbytes hbase
  have hwhere : ∃ b' c', v' = vS b' (xs.length + m) c' ∧ (b' = b0 ∨ b' = w.heap.size) := by
    rcases hO with ⟨h1, _⟩ | ⟨b, c, tail, h1, h2, hB, hc, hcm⟩
    · cases h1
    · simp only [vS, Value.slice.injEq, Option.some.injEq, Addr.mk.injEq] at h1
      obtain ⟨⟨rfl, _⟩, rfl, rfl⟩ := h1
      by_cases hroom : xs.length + m ≤ c0
      · have h := run_append_room (P := P) w t T e i ht hi b0 xs.length c0 (xs ++ tail).toArray hB ad m c1 news (by rw [hs]; omega) hnews hu hroom (by rw [hs]; simp; omega)
        rw [h] at hr
        simp only [Result.ok.injEq] at hr
        exact ⟨b0, c0, hr.1.symm, .inl rfl⟩
      · have h := run_append_grow (P := P) w t T e i z ht hi hz ⟨b0, 0, none⟩ xs.length c0 xs (by rw [hs]; omega) (fun j v hj => by
            rw [add_pt, Nat.zero_add]
            exact hB.cell (by rw [List.getElem?_append_left (by obtain ⟨h, _⟩ := List.getElem?_eq_some_iff.1 hj; exact h)]; exact hj)) ad m c1 news (by rw [hs]; omega) hnews (by omega) (by omega) (growslice_fits (by omega) hbytes)
        rw [h] at hr
        simp only [Result.ok.injEq] at hr
        exact ⟨_, _, hr.1.symm, .inr rfl⟩
  obtain ⟨b', c', rfl, hw⟩ := hwhere
  refine st (v := vS b' (xs.length + m) c') (w' := w1) ?_ hd (k b' c' w1 hw (Ow.of hO') ⟨hg.os, hg.tape, hg.output, hg.size, fun i hi hn => hg.block i hi (fun e => hn (by
    simp only [Value.ownBlock, vS, Option.map_some, Option.some.injEq] at e
    rw [List.mem_singleton]
    first | exact e | exact e.symm))⟩)
  exact fun dst pos af gd ρ hρ => .inl (by
    rw [exec_builtin hρ (vals := [vS b0 n0 c0, .slice (some ad) m c1]) (by simp [evs, hx, hy])]
    simp [builtin, hr])
end
end Go.Proofs.YtbahhdeblppooaaDoor

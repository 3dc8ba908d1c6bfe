/- append to a slice whose block is known: that block alone may be written; no statement of the program is proved here. -/
import Derived.Test.YtbahhdeblppooaaDoorK10
set_option linter.unusedVariables false
set_option linter.unusedSimpArgs false
namespace Go.Proofs.YtbahhdeblppooaaDoor
open Go Go.RowKit
section
variable {P : Program} {ops : Array Oper} {Q : Exit → Act → World → Prop} {n : Nat} {D : List Deferred} {F : Fr} {rest : List Oper} {w : World} {T : TypeId} {pos : String} {af : Array Edge}
theorem st_appendB {d : Nat} {x y : Operand} {t e : TypeId} {i : TypeInfo} {z : Value} {base m c1 b0 n0 c0 : Nat} {ad : Addr} {xs news : List Value} (hx : ev F x = some (vS b0 n0 c0)) (hy : ev F y = some (.slice (some ad) m c1)) (ht : P.underlying t = some (.slice e)) (hi : P.info? e = some i) (hz : i.zero = some z) (hs : i.size = 1) (hb : i.bytes ≤ 64) (hz1 : z.oneCell' = true)
    (hl : news.length = m) (hnews : ∀ j u', news[j]? = some u' → w.cell? (ad.add j) = some u') (hu : ∀ u ∈ news, u.oneCell' = true)
    (hO : Ow w base e (vS b0 n0 c0) xs) (hlen : xs.length ≤ 1000000) (hm : m ≤ 1000000) (hbase : base ≤ w.heap.size) (hd : Nat.blt d n = true)
    (k : ∀ v' w1, Ow w1 base e v' (xs ++ news) → Keep w w1 [b0] → wpL P ops Q n D ((d, v') :: F) rest w1) : wpL P ops Q n D F (⟨some d, .call ⟨.builtin .append, #[x, y], #[t, t]⟩, T, pos, af, none⟩ :: rest) w := by
  obtain ⟨v', w1, hr, hO', hg, _⟩ := run_append_own (P := P) w base t T e i z 1 i.bytes ht hi hz hs rfl (by rw [cells_one hz1]; rfl) (by omega) _ xs.length xs hO.owns ad m c1 news (by omega) hnews hu (by unfold maxLen; omega)
    (by have : (xs.length + m) * i.bytes ≤ 2000000 * 64 := Nat.mul_le_mul (by omega) hb; omega) hbase
  refine st (v := v') (w' := w1) ?_ hd (k v' w1 (Ow.of hO') ⟨hg.os, hg.tape, hg.output, hg.size, fun i hi hn => hg.block i hi (fun e => hn (by
    simp only [Value.ownBlock, vS, Option.map_some, Option.some.injEq] at e
    rw [List.mem_singleton]
    first | exact e | exact e.symm))⟩)
  exact fun dst pos af gd ρ hρ => .inl (by
    rw [exec_builtin hρ (vals := [vS b0 n0 c0, .slice (some ad) m c1]) (by simp [evs, hx, hy])]
    simp [builtin, hr])
end
end Go.Proofs.YtbahhdeblppooaaDoor

/- append onto an empty row without room: what the new row holds; a result in cells and a second one beside it; no statement of the program is proved here. -/
import Derived.Test.YtbahhdeblppooaaDoorK12
set_option linter.unusedVariables false
set_option linter.unusedSimpArgs false
namespace Go.Proofs.YtbahhdeblppooaaDoor
open Go Go.RowKit
section
variable {P : Program} {ops : Array Oper} {Q : Exit → Act → World → Prop} {n : Nat} {D : List Deferred} {F : Fr} {rest : List Oper} {w : World} {T : TypeId} {pos : String} {af : Array Edge}
theorem zeroCells_one (z : Value) (hz1 : z.oneCell' = true) (m : Nat) : Builtin.zeroCells z.cells m = (List.replicate m z).toArray := by
  rw [cells_one hz1]
  unfold Builtin.zeroCells
  apply Array.ext
  · simp
  · intro i h1 h2
    simp [Nat.mod_one]
theorem st_appendE {d : Nat} {x y : Operand} {t e : TypeId} {i : TypeInfo} {z : Value} {m c1 b0 : Nat} {ad : Addr} {news : List Value} (hx : ev F x = some (vS b0 0 0)) (hy : ev F y = some (.slice (some ad) m c1)) (ht : P.underlying t = some (.slice e)) (hi : P.info? e = some i) (hz : i.zero = some z) (hs : i.size = 1) (hb : i.bytes ≤ 64) (hz1 : z.oneCell' = true)
    (hl : news.length = m) (hnews : ∀ j u', news[j]? = some u' → w.cell? (ad.add j) = some u') (h0 : 0 < m) (hm : m ≤ 1000000) (hd : Nat.blt d n = true)
    (k : ∀ c' w1, m ≤ c' → c' ≤ maxLen → Blk w1 w.heap.size e (news ++ List.replicate (c' - m) z) → Keep w w1 [] → w1.heap.size = w.heap.size + 1 → wpL P ops Q n D ((d, vS w.heap.size m c') :: F) rest w1) : wpL P ops Q n D F (⟨some d, .call ⟨.builtin .append, #[x, y], #[t, t]⟩, T, pos, af, none⟩ :: rest) w := by
  have hbytes : (0 + m) * i.bytes ≤ 140737488355328 := by have : (0 + m) * i.bytes ≤ 2000000 * 64 := Nat.mul_le_mul (by omega) hb; omega
  have hr := run_append_grow (P := P) w t T e i z ht hi hz ⟨b0, 0, none⟩ 0 0 [] (by simp) (fun j v hj => by simp at hj) ad m c1 news (by rw [hs]; omega) hnews (by omega) (by omega) (growslice_fits (by omega) hbytes)
  rw [Nat.zero_add, zeroCells_one z hz1] at hr
  have hge := grownCap_ge w m 0 e
  have hle := grownCap_le_maxLen w m 0 e (by unfold maxLen; omega)
  refine st (v := vS w.heap.size m (grownCap w m 0 e)) (w' := w.drew.alloc (.cells ((#[] : Array Value) ++ news.toArray ++ (List.replicate (grownCap w m 0 e - m) z).toArray) e)) ?_ hd (k _ _ hge hle ?_ ?_ ?_)
  · exact fun dst pos af gd ρ hρ => .inl (by
      rw [exec_builtin hρ (vals := [vS b0 0 0, .slice (some ad) m c1]) (by simp [evs, hx, hy])]
      simp [builtin, hr])
  · have := heap_alloc_new w.drew (.cells ((#[] : Array Value) ++ news.toArray ++ (List.replicate (grownCap w m 0 e - m) z).toArray) e)
    have e1 : (#[] : Array Value) ++ news.toArray ++ (List.replicate (grownCap w m 0 e - m) z).toArray = (news ++ List.replicate (grownCap w m 0 e - m) z).toArray := by apply Array.ext'; simp
    rw [e1] at this ⊢
    exact this
  · exact (Keep.drew w []).trans (Keep.alloc w.drew _ []) (by simp)
  · simp

theorem q_endct {fn : Func} {R : Ending → World → Prop} {e : Exit} {t b m u : Nat} {tt tb : TypeId} {l : List Value} {v : Value} (he : e = .ret ∨ e = .normal) (hr : fn.results = #[.cell t tt, .tmp u]) (ht : fget F t = some (vP b)) (ha : tOne P tt = false) (hu : (P.underlying tt).isSome = true) (hs : tSize P tt = some m) (hB : Blk w b tb l) (hm : l.length = m)
    (hv : fget F u = some v) (hR : R (.returned (.tuple #[.agg l.toArray, v])) w) : qf (bodyPost P fn R) e n [] F w := by
  intro a ha'
  have hx : bodyPost P fn R .ret a w := ⟨ha'.defers, .tuple #[.agg l.toArray, v], by
    have hg := ha'.get t _ ht
    have hg2 := ha'.get u _ hv
    rw [Array.getD_eq_getD_getElem?] at hg hg2
    simp [results, hr, hg, hg2, asAddr, run_loadVar_agg ha hu hs hm hB], hR⟩
  rcases he with rfl | rfl <;> exact hx
end
end Go.Proofs.YtbahhdeblppooaaDoor

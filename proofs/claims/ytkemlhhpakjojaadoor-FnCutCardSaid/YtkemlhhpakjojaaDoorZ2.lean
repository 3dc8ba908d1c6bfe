/- Texts that were built one by one and are laid together here (a claim has at most 60 files): frames, steps, plain laws, and functions by their contracts; no statement of the program is proved here. -/
import Derived.Lib.AppendZeros
import Derived.Lib.ConvBytes
import Derived.Laws.IdiomStrings
import Derived.Test.YtkemlhhpakjojaaDoorProg
import Derived.OwnWalk
import Derived.Stop.IfaceNil
import Derived.LaidEql
import Derived.Test.YtkemlhhpakjojaaDoorZ1
/- append to a slice whose block is known: that block alone may be written; no statement of the program is proved here. -/
set_option linter.unusedVariables false
set_option linter.unusedSimpArgs false
namespace Go.Proofs.YtkemlhhpakjojaaDoor
open Go Go.RowKit
section
variable {P : Program} {ops : Array Oper} {Q : Exit → Act → World → Prop} {n : Nat} {D : List Deferred} {F : Fr} {rest : List Oper} {w : World} {T : TypeId} {pos : String} {af : Array Edge}
theorem st_appendB {d : Nat} {x y : Operand} {t e : TypeId} {i : TypeInfo} {z : Value} {base m c1 b0 n0 c0 : Nat} {ad : Addr} {xs news : List Value} (hx : ev F x = some (vS b0 n0 c0)) (hy : ev F y = some (.slice (some ad) m c1)) (ht : P.underlying t = some (.slice e)) (hi : P.info? e = some i) (hz : i.zero = some z) (hs : i.size = 1) (hb : i.bytes ≤ 64) (hz1 : z.oneCell' = true)
    (hl : news.length = m) (hnews : ∀ j u', news[j]? = some u' → w.cell? (ad.add j) = some u') (hu : ∀ u ∈ news, u.oneCell' = true)
    (hO : Ow w base e (vS b0 n0 c0) xs) (hlen : xs.length ≤ 1000000) (hm : m ≤ 1000000) (hbase : base ≤ w.heap.size) (hd : Nat.blt d n = true)
    (k : ∀ v' w1, Ow w1 base e v' (xs ++ news) → Keep w w1 [b0] → wpL P ops Q n D ((d, v') :: F) rest w1) : wpL P ops Q n D F (⟨some d, .call ⟨.builtin .append, #[x, y], #[t, t]⟩, T, pos, af, none⟩ :: rest) w := by
  obtain ⟨v', w1, hr, hO', hg, _⟩ := run_append_own (P := P) w base t T e i z 1 i.bytes ht hi hz hs rfl (by rw [cells_one hz1]; rfl) (by omega) _ xs.length xs hO.owns ad m c1 news (by omega) hnews hu (by unfold maxLen; omega)
    (by have : (xs.length + m) * i.bytes ≤ 2000000 * 64 := Nat.mul_le_mul (by omega) hb; omega) hbase
  refine st (v := v') (w' := w1) ?_ hd (k v' w1 (Ow.of hO') ⟨hg.os, hg.tape, hg.output, hg.size, fun i hi hn => hg.block i hi (fun e => hn (by
    simp only [Value.ownBlock, vS, Option.map_some, Option.some.injEq] at e
    rw [List.mem_singleton]
    first | exact e | exact e.symm))⟩)
  exact fun dst pos af gd ρ hρ => .inl (by
    rw [exec_builtin hρ (vals := [vS b0 n0 c0, .slice (some ad) m c1]) (by simp [evs, hx, hy])]
    simp [builtin, hr])
end
end Go.Proofs.YtkemlhhpakjojaaDoor

/- append onto an empty row without room: what the new row holds; a result in cells and a second one beside it; no statement of the program is proved here. -/
set_option linter.unusedVariables false
set_option linter.unusedSimpArgs false
namespace Go.Proofs.YtkemlhhpakjojaaDoor
open Go Go.RowKit
section
variable {P : Program} {ops : Array Oper} {Q : Exit → Act → World → Prop} {n : Nat} {D : List Deferred} {F : Fr} {rest : List Oper} {w : World} {T : TypeId} {pos : String} {af : Array Edge}
theorem zeroCells_one (z : Value) (hz1 : z.oneCell' = true) (m : Nat) : Builtin.zeroCells z.cells m = (List.replicate m z).toArray := by
  rw [cells_one hz1]
  unfold Builtin.zeroCells
  apply Array.ext
  · simp
  · intro i h1 h2
    simp [Nat.mod_one]
theorem st_appendE {d : Nat} {x y : Operand} {t e : TypeId} {i : TypeInfo} {z : Value} {m c1 b0 : Nat} {ad : Addr} {news : List Value} (hx : ev F x = some (vS b0 0 0)) (hy : ev F y = some (.slice (some ad) m c1)) (ht : P.underlying t = some (.slice e)) (hi : P.info? e = some i) (hz : i.zero = some z) (hs : i.size = 1) (hb : i.bytes ≤ 64) (hz1 : z.oneCell' = true)
    (hl : news.length = m) (hnews : ∀ j u', news[j]? = some u' → w.cell? (ad.add j) = some u') (h0 : 0 < m) (hm : m ≤ 1000000) (hd : Nat.blt d n = true)
    (k : ∀ c' w1, m ≤ c' → c' ≤ maxLen → Blk w1 w.heap.size e (news ++ List.replicate (c' - m) z) → Keep w w1 [] → w1.heap.size = w.heap.size + 1 → wpL P ops Q n D ((d, vS w.heap.size m c') :: F) rest w1) : wpL P ops Q n D F (⟨some d, .call ⟨.builtin .append, #[x, y], #[t, t]⟩, T, pos, af, none⟩ :: rest) w := by
  have hbytes : (0 + m) * i.bytes ≤ 140737488355328 := by have : (0 + m) * i.bytes ≤ 2000000 * 64 := Nat.mul_le_mul (by omega) hb; omega
  have hr := run_append_grow (P := P) w t T e i z ht hi hz ⟨b0, 0, none⟩ 0 0 [] (by simp) (fun j v hj => by simp at hj) ad m c1 news (by rw [hs]; omega) hnews (by omega) (by omega) (growslice_fits (by omega) hbytes)
  rw [Nat.zero_add, zeroCells_one z hz1] at hr
  have hge := grownCap_ge w m 0 e
  have hle := grownCap_le_maxLen w m 0 e (by unfold maxLen; omega)
  refine st (v := vS w.heap.size m (grownCap w m 0 e)) (w' := w.drew.alloc (.cells ((#[] : Array Value) ++ news.toArray ++ (List.replicate (grownCap w m 0 e - m) z).toArray) e)) ?_ hd (k _ _ hge hle ?_ ?_ ?_)
  · exact fun dst pos af gd ρ hρ => .inl (by
      rw [exec_builtin hρ (vals := [vS b0 0 0, .slice (some ad) m c1]) (by simp [evs, hx, hy])]
      simp [builtin, hr])
  · have := heap_alloc_new w.drew (.cells ((#[] : Array Value) ++ news.toArray ++ (List.replicate (grownCap w m 0 e - m) z).toArray) e)
    have e1 : (#[] : Array Value) ++ news.toArray ++ (List.replicate (grownCap w m 0 e - m) z).toArray = (news ++ List.replicate (grownCap w m 0 e - m) z).toArray := by apply Array.ext'; simp
    rw [e1] at this ⊢
    exact this
  · exact (Keep.drew w []).trans (Keep.alloc w.drew _ []) (by simp)
  · simp

theorem q_endct {fn : Func} {R : Ending → World → Prop} {e : Exit} {t b m u : Nat} {tt tb : TypeId} {l : List Value} {v : Value} (he : e = .ret ∨ e = .normal) (hr : fn.results = #[.cell t tt, .tmp u]) (ht : fget F t = some (vP b)) (ha : tOne P tt = false) (hu : (P.underlying tt).isSome = true) (hs : tSize P tt = some m) (hB : Blk w b tb l) (hm : l.length = m)
    (hv : fget F u = some v) (hR : R (.returned (.tuple #[.agg l.toArray, v])) w) : qf (bodyPost P fn R) e n [] F w := by
  intro a ha'
  have hx : bodyPost P fn R .ret a w := ⟨ha'.defers, .tuple #[.agg l.toArray, v], by
    have hg := ha'.get t _ ht
    have hg2 := ha'.get u _ hv
    rw [Array.getD_eq_getD_getElem?] at hg hg2
    simp [results, hr, hg, hg2, asAddr, run_loadVar_agg ha hu hs hm hB], hR⟩
  rcases he with rfl | rfl <;> exact hx
end
end Go.Proofs.YtkemlhhpakjojaaDoor

/- Arrays and rows of arrays, small numbers: one operation each; no statement of the program is proved here. -/
set_option linter.unusedVariables false
set_option linter.unusedSimpArgs false
namespace Go.Proofs.YtkemlhhpakjojaaDoor
open Go
section
variable {P : Program} {n : Nat} {F : Fr} {w : World} {T : TypeId}

/-- an element of an array, by the array's address -/
theorem y_indexarr {x y : Operand} {t e : TypeId} {k : IntKind} {b o len m : Nat} {i : Nat} (hx : ev F x = some (pt b o)) (hy : ev F y = some (.int k (i : Int))) (ht : P.underlying t = some (.array len e)) (he : tSize P e = some m) (hi : i < len) :
    Zv P w F (.indexAddr t x y) T (pt b (o + i * m)) w :=
  fun dst pos af gd ρ hρ => .inl (by
    have h1 : (0 : Int) ≤ (i : Int) ∧ (i : Int) < (len : Int) := by omega
    simp [execOp, hρ _ _ hx, hρ _ _ hy, Instr.indexAt, Instr.sureAddr, asIntOf, run_underlying ht, run_sizeOf he, hi, add_pt])
/-- an element of a slice of larger things -/
theorem y_indexs {x y : Operand} {t e : TypeId} {k : IntKind} {b o len c m : Nat} {i : Nat} (hx : ev F x = some (.slice (some ⟨b, o, none⟩) len c)) (hy : ev F y = some (.int k (i : Int))) (ht : P.underlying t = some (.slice e)) (he : tSize P e = some m) (hi : i < len) :
    Zv P w F (.indexAddr t x y) T (pt b (o + i * m)) w :=
  fun dst pos af gd ρ hρ => .inl (by
    have h1 : (0 : Int) ≤ (i : Int) ∧ (i : Int) < (len : Int) := by omega
    simp [execOp, hρ _ _ hx, hρ _ _ hy, Instr.indexAt, asIntOf, run_underlying ht, run_sizeOf he, hi, add_pt])
theorem y_rem_8 {x y : Operand} {t t' : TypeId} {a b : Nat} (hx : ev F x = some (v8 a)) (hy : ev F y = some (v8 b)) (hb : 0 < b) : Zv P w F (.binOp .rem t x y t') T (v8 (a % b)) w :=
  fun dst pos af gd ρ hρ => .inl (by
    have hb' : ¬ (b : Int) = 0 := by omega
    have e0 : (a : Int).tmod (b : Int) = ((a % b : Nat) : Int) := (Int.tmod_eq_emod_of_nonneg (by omega)).trans (by simp)
    simp only [execOp, hρ _ _ hx, hρ _ _ hy, eqGuard, binOp, Op.intDiv, v8]
    simp only [if_neg hb', e0]
    simp)
theorem y_max_i {x y : Operand} {t : TypeId} {a b : Int} (hx : ev F x = some (vI a)) (hy : ev F y = some (vI b)) (ht : P.underlying t = some (.int .i64)) : Zv P w F (.call ⟨.builtin .max, #[x, y], #[t, t]⟩) T (vI (max a b)) w :=
  fun dst pos af gd ρ hρ => .inl (by
    rw [exec_builtin hρ (vals := [vI a, vI b]) (by simp [evs, hx, hy])]
    have h : (if b > a then b else a) = max a b := by split <;> omega
    simp only [builtin, Builtin.max_, List.foldlM, Builtin.max2, h, Sem.run_bind, Sem.run_pure, Result.andThen_ok])
end
end Go.Proofs.YtkemlhhpakjojaaDoor

/- Bytes as numbers, and strings that are indexed: one operation each; no statement of the program is proved here. -/
set_option linter.unusedVariables false
set_option linter.unusedSimpArgs false
namespace Go.Proofs.YtkemlhhpakjojaaDoor
open Go
section
variable {P : Program} {F : Fr} {w : World} {T : TypeId}
theorem wrap_u8n (m : Nat) (h : m < 256) : IntKind.u8.wrap (m : Int) = (m : Int) := by rw [IntKind.wrap_u8]; omega
theorem ofInt8 (a : Nat) : BitVec.ofInt 8 (a : Int) = BitVec.ofNat 8 a := by simp
theorem and_lt8 {a : Nat} (b : Nat) (h : a < 256) : a &&& b < 256 := Nat.lt_of_le_of_lt Nat.and_le_left h
theorem or_lt8 {a b : Nat} (h : a < 256) (h2 : b < 256) : a ||| b < 256 := Nat.or_lt_two_pow (n := 8) h h2
theorem y_and_8 {x y : Operand} {t t' : TypeId} {a b : Nat} (hx : ev F x = some (v8 a)) (hy : ev F y = some (v8 b)) (h : a < 256) (h2 : b < 256) : Zv P w F (.binOp .and t x y t') T (v8 (a &&& b)) w :=
  fun dst pos af gd ρ hρ => .inl (by
    have e : (BitVec.ofInt IntKind.u8.bits (a : Int) &&& BitVec.ofInt IntKind.u8.bits (b : Int)).toNat = a &&& b := by
      show (BitVec.ofInt 8 (a : Int) &&& BitVec.ofInt 8 (b : Int)).toNat = _
      rw [ofInt8, ofInt8, BitVec.toNat_and, BitVec.toNat_ofNat, BitVec.toNat_ofNat, Nat.mod_eq_of_lt h, Nat.mod_eq_of_lt h2]
    have e2 := wrap_u8n (a &&& b) (and_lt8 b h)
    simp only [execOp, hρ _ _ hx, hρ _ _ hy, eqGuard, binOp, Op.intBits, v8]
    simp only [e, e2]
    simp)
theorem y_or_8 {x y : Operand} {t t' : TypeId} {a b : Nat} (hx : ev F x = some (v8 a)) (hy : ev F y = some (v8 b)) (h : a < 256) (h2 : b < 256) : Zv P w F (.binOp .or t x y t') T (v8 (a ||| b)) w :=
  fun dst pos af gd ρ hρ => .inl (by
    have e : (BitVec.ofInt IntKind.u8.bits (a : Int) ||| BitVec.ofInt IntKind.u8.bits (b : Int)).toNat = a ||| b := by
      show (BitVec.ofInt 8 (a : Int) ||| BitVec.ofInt 8 (b : Int)).toNat = _
      rw [ofInt8, ofInt8, BitVec.toNat_or, BitVec.toNat_ofNat, BitVec.toNat_ofNat, Nat.mod_eq_of_lt h, Nat.mod_eq_of_lt h2]
    have e2 := wrap_u8n (a ||| b) (or_lt8 h h2)
    simp only [execOp, hρ _ _ hx, hρ _ _ hy, eqGuard, binOp, Op.intBits, v8]
    simp only [e, e2]
    simp)
theorem y_add_8 {x y : Operand} {t t' : TypeId} {a b : Nat} (hx : ev F x = some (v8 a)) (hy : ev F y = some (v8 b)) (h : a + b < 256) : Zv P w F (.binOp .add t x y t') T (v8 (a + b)) w :=
  fun dst pos af gd ρ hρ => .inl (by
    have e := wrap_u8n (a + b) h
    simp only [Int.natCast_add] at e
    simp [execOp, hρ _ _ hx, hρ _ _ hy, eqGuard, binOp, Op.intArith, e])
theorem shl_val8 (a k : Nat) : IntKind.u8.wrap ((a : Int) * 2 ^ min k 8) = (((a <<< k) % 256 : Nat) : Int) := by
  rw [IntKind.wrap_u8]
  have e0 : ((a : Int) * 2 ^ min k 8) = ((a * 2 ^ min k 8 : Nat) : Int) := by simp
  rw [e0]
  have e1 : (a * 2 ^ min k 8) % 256 = (a <<< k) % 256 := by
    rw [Nat.shiftLeft_eq]
    rcases Nat.le_total k 8 with h | h
    · rw [Nat.min_eq_left h]
    · rw [Nat.min_eq_right h]
      obtain ⟨j, rfl⟩ : ∃ j, k = 8 + j := ⟨k - 8, by omega⟩
      rw [Nat.pow_add]
      have : (2 : Nat) ^ 8 = 256 := by decide
      rw [this, Nat.mul_comm 256 (2 ^ j), ← Nat.mul_assoc, Nat.mul_mod_left, Nat.mul_mod_left]
  rw [← e1]
  omega
theorem y_shl_8 {x y : Operand} {t t' : TypeId} {k' : IntKind} {a k : Nat} (hx : ev F x = some (v8 a)) (hy : ev F y = some (.int k' (k : Int))) : Zv P w F (.binOp .shl t x y t') T (v8 ((a <<< k) % 256)) w :=
  fun dst pos af gd ρ hρ => .inl (by
    have h0 : ¬ ((k : Int) < 0) := by omega
    have e := shl_val8 a k
    simp only [execOp, hρ _ _ hx, hρ _ _ hy, eqGuard, binOp, Op.shift, if_neg h0, Int.toNat_natCast, v8]
    have hb : IntKind.u8.bits = 8 := rfl
    rw [hb, e]
    simp)
theorem y_lt_8 {x y : Operand} {t t' : TypeId} {a b : Nat} (hx : ev F x = some (v8 a)) (hy : ev F y = some (v8 b)) : Zv P w F (.binOp .lss t x y t') T (.bool (decide (a < b))) w :=
  fun dst pos af gd ρ hρ => .inl (by simp [execOp, hρ _ _ hx, hρ _ _ hy, eqGuard, binOp, Op.intCmp])
theorem y_eq_8 {x y : Operand} {t t' : TypeId} {a b : Nat} (hx : ev F x = some (v8 a)) (hy : ev F y = some (v8 b)) : Zv P w F (.binOp .eql t x y t') T (.bool (decide (a = b))) w :=
  fun dst pos af gd ρ hρ => .inl (by
    have e : ((a : Int) == (b : Int)) = decide (a = b) := by rw [beqInt]; exact decide_eq_decide.2 Int.ofNat_inj
    simp [execOp, hρ _ _ hx, hρ _ _ hy, eqGuard, binOp, Op.intCmp, e])
theorem y_ne_8 {x y : Operand} {t t' : TypeId} {a b : Nat} (hx : ev F x = some (v8 a)) (hy : ev F y = some (v8 b)) : Zv P w F (.binOp .neq t x y t') T (.bool (decide (a ≠ b))) w :=
  fun dst pos af gd ρ hρ => .inl (by
    have e : ((a : Int) != (b : Int)) = decide (a ≠ b) := by rw [bneInt]; exact decide_eq_decide.2 (not_congr Int.ofNat_inj)
    simp [execOp, hρ _ _ hx, hρ _ _ hy, eqGuard, binOp, Op.intCmp, e])
theorem y_conv_i8 {x : Operand} {s t : TypeId} {m : Nat} (hx : ev F x = some (vI (m : Nat))) (hs : (P.underlying s).isSome = true) (ht : P.underlying t = some (.int .u8)) (h : m < 256) : Zv P w F (.convert s t x) T (v8 m) w := by
  have := y_conv (T := T) (w := w) hx hs ht
  rwa [wrap_u8n m h] at this
/-- a byte of a string -/
theorem y_indexStr {x y : Operand} {t : TypeId} {k : IntKind} {s : ByteArray} {i : Nat} {b : UInt8} (hx : ev F x = some (.string s)) (hy : ev F y = some (.int k (i : Int))) (ht : P.underlying t = some .string) (hb : s[i]? = some b) : Zv P w F (.index t x y) T (v8 b.toNat) w :=
  fun dst pos af gd ρ hρ => .inl (by
    have h0 : (0 : Int) ≤ (i : Int) := by omega
    simp only [execOp, hρ _ _ hx, hρ _ _ hy, Instr.index, asIntOf, Sem.run_bind, Sem.run_pure, Result.andThen_ok, run_underlying ht, if_pos h0, Int.toNat_natCast, hb])
end
end Go.Proofs.YtkemlhhpakjojaaDoor

/- More comparisons of bytes; no statement of the program is proved here. -/
set_option linter.unusedVariables false
set_option linter.unusedSimpArgs false
namespace Go.Proofs.YtkemlhhpakjojaaDoor
open Go
section
variable {P : Program} {F : Fr} {w : World} {T : TypeId}
theorem y_gt_8 {x y : Operand} {t t' : TypeId} {a b : Nat} (hx : ev F x = some (v8 a)) (hy : ev F y = some (v8 b)) : Zv P w F (.binOp .gtr t x y t') T (.bool (decide (b < a))) w :=
  fun dst pos af gd ρ hρ => .inl (by simp [execOp, hρ _ _ hx, hρ _ _ hy, eqGuard, binOp, Op.intCmp])
theorem y_le_8 {x y : Operand} {t t' : TypeId} {a b : Nat} (hx : ev F x = some (v8 a)) (hy : ev F y = some (v8 b)) : Zv P w F (.binOp .leq t x y t') T (.bool (decide (a ≤ b))) w :=
  fun dst pos af gd ρ hρ => .inl (by simp [execOp, hρ _ _ hx, hρ _ _ hy, eqGuard, binOp, Op.intCmp])
theorem y_ge_8 {x y : Operand} {t t' : TypeId} {a b : Nat} (hx : ev F x = some (v8 a)) (hy : ev F y = some (v8 b)) : Zv P w F (.binOp .geq t x y t') T (.bool (decide (b ≤ a))) w :=
  fun dst pos af gd ρ hρ => .inl (by simp [execOp, hρ _ _ hx, hρ _ _ hy, eqGuard, binOp, Op.intCmp])
end
end Go.Proofs.YtkemlhhpakjojaaDoor

/- Rows of bytes behind which a mark may stand; copy into them; append of zeros; bytes as a string; no statement of the program is proved here. -/
set_option linter.unusedVariables false
set_option linter.unusedSimpArgs false
namespace Go.Proofs.YtkemlhhpakjojaaDoor
open Go Go.RowKit

/-- a block of cells, none of them frozen; a place behind them may be -/
def BlkF (w : World) (b : Nat) (t : TypeId) (l : List Value) : Prop := ∃ lo hi, w.heap[b]? = some (.cells l.toArray t (lo, hi)) ∧ (hi ≤ lo ∨ l.length ≤ lo)
theorem Blk.toF {w : World} {b : Nat} {t : TypeId} {l : List Value} (h : Blk w b t l) : BlkF w b t l := ⟨0, 0, h, .inl (Nat.le_refl _)⟩
theorem BlkF.lt {w : World} {b : Nat} {t : TypeId} {l : List Value} (h : BlkF w b t l) : b < w.heap.size := by
  obtain ⟨lo, hi, h, _⟩ := h
  rcases Nat.lt_or_ge b w.heap.size with h' | h'
  · exact h'
  · rw [Array.getElem?_eq_none h'] at h; cases h
theorem BlkF.keep {w w' : World} {b : Nat} {t : TypeId} {l : List Value} {L : List Nat} (h : BlkF w b t l) (k : Keep w w' L) (hn : b ∉ L) : BlkF w' b t l := by
  have hl := h.lt
  obtain ⟨lo, hi, h, h2⟩ := h
  exact ⟨lo, hi, (k.same b hl hn).trans h, h2⟩
theorem BlkF.drew {w : World} {b : Nat} {t : TypeId} {l : List Value} (h : BlkF w b t l) : BlkF w.drew b t l := h
theorem BlkF.cell {w : World} {b o : Nat} {t : TypeId} {l : List Value} {v : Value} (h : BlkF w b t l) (hv : l[o]? = some v) : w.cell? ⟨b, o, none⟩ = some v := by
  obtain ⟨lo, hi, h, h2⟩ := h
  simp [World.cell?, h, hv]
theorem BlkF.frozen {w : World} {b : Nat} {t : TypeId} {l : List Value} (h : BlkF w b t l) {o : Nat} (ho : o < l.length) : w.frozen? ⟨b, o, none⟩ = false := by
  obtain ⟨lo, hi, h, h2⟩ := h
  simp only [World.frozen?, h, Bool.and_eq_false_iff, decide_eq_false_iff_not]
  omega
theorem BlkF.set {w : World} {b : Nat} {t : TypeId} {l : List Value} (h : BlkF w b t l) (o : Nat) (v : Value) : BlkF (w.setCell ⟨b, o, none⟩ v) b t (l.set o v) := by
  obtain ⟨lo, hi, h, h2⟩ := h
  refine ⟨lo, hi, ?_, by simpa using h2⟩
  simp [World.setCell, Array.getElem?_modify, h]

theorem BlkF.src {w : World} {b o n : Nat} {t : TypeId} {l : List Value} (h : BlkF w b t l) : ∀ j v, ((l.drop o).take n)[j]? = some v → w.cell? ((⟨b, o, none⟩ : Addr).add j) = some v := by
  intro j v hv
  rw [add_pt]
  refine h.cell ?_
  rw [List.getElem?_take] at hv
  split at hv
  · rwa [List.getElem?_drop] at hv
  · cases hv

section
variable {P : Program} {ops : Array Oper} {Q : Exit → Act → World → Prop} {n : Nat} {D : List Deferred} {F : Fr} {rest : List Oper} {w : World} {T : TypeId} {pos : String} {af : Array Edge}
theorem st_storeF {dst : Option Tmp} {x y : Operand} {b o : Nat} {t t' : TypeId} {l : List Value} {v : Value} (hx : ev F x = some (pt b o)) (hy : ev F y = some v) (h1 : v.oneCell' = true) (hsz : tSize P t = some 1) (hB : BlkF w b t' l) (ho : o < l.length) (hd : dst = none)
    (k : ∀ w1, BlkF w1 b t' (l.set o v) → Keep w w1 [b] → w1.heap.size = w.heap.size → wpL P ops Q n D F rest w1) : wpL P ops Q n D F (⟨dst, .store t x y, T, pos, af, none⟩ :: rest) w := by
  subst hd
  exact st0 (z_store hx hy h1 hsz (hB.cell (List.getElem?_eq_getElem ho)) (hB.frozen ho)) (k _ (hB.set o v) (Keep.setCell w b o v) (by simp))
theorem run_storeCellsF {b o : Nat} {t : TypeId} (vs : List Value) : ∀ (j : Nat) (w : World) (l : List Value), BlkF w b t l → o + j + vs.length ≤ l.length → (∀ v ∈ vs, v.oneCell' = true) →
    ∃ w1, (storeCells ⟨b, o, none⟩ vs j).run P w = .ok () w1 ∧ BlkF w1 b t (over l (o + j) vs) ∧ Keep w w1 [b] ∧ w1.heap.size = w.heap.size := by
  induction vs with
  | nil => intro j w l hB h h1; exact ⟨w, by simp [storeCells], by rw [over_nil]; exact hB, Keep.refl _ _, rfl⟩
  | cons v r ih =>
    intro j w l hB h h1
    simp only [List.length_cons] at h
    have hlt : o + j < l.length := by omega
    have hc := hB.cell (List.getElem?_eq_getElem hlt)
    have hfz := hB.frozen hlt
    obtain ⟨w1, hr, hB1, hK, hs⟩ := ih (j + 1) _ _ (hB.set (o + j) v) (by simp; omega) (fun u hu => h1 u (List.mem_cons_of_mem _ hu))
    refine ⟨w1, ?_, ?_, (Keep.setCell w b (o + j) v).trans hK (fun i hi => .inl hi), by rw [hs]; simp⟩
    · simp only [storeCells, Sem.run_bind, add_pt, run_store _ _ _ _ _ (h1 v (List.mem_cons_self ..)), hc, hfz, Bool.false_eq_true, if_false, Result.andThen_ok]
      exact hr
    · rw [show o + (j + 1) = o + j + 1 by omega, over_cons l (o + j) v r hlt] at hB1
      exact hB1
/-- copy(dst, src), where the source is as long or shorter -/
theorem st_copyF {d : Nat} {x y : Operand} {t1 t2 e : TypeId} {b o c n1 n2 c' : Nat} {ad : Addr} {T1 : TypeId} {l vs : List Value} (hx : ev F x = some (.slice (some ⟨b, o, none⟩) n1 c)) (hy : ev F y = some (.slice (some ad) n2 c')) (ht : P.underlying t1 = some (.slice e)) (he : tSize P e = some 1)
    (hB : BlkF w b T1 l) (hsrc : ∀ j v, vs[j]? = some v → w.cell? (ad.add j) = some v) (hl : vs.length = n2) (hle : n2 ≤ n1) (h1 : o + n2 ≤ l.length) (hone : ∀ v ∈ vs, v.oneCell' = true) (hd : Nat.blt d n = true)
    (k : ∀ w1, BlkF w1 b T1 (over l o vs) → Keep w w1 [b] → w1.heap.size = w.heap.size → wpL P ops Q n D ((d, vI (n2 : Nat)) :: F) rest w1) :
    wpL P ops Q n D F (⟨some d, .call ⟨.builtin .copy, #[x, y], #[t1, t2]⟩, T, pos, af, none⟩ :: rest) w := by
  obtain ⟨w1, hr, hB1, hK, hs⟩ := run_storeCellsF (P := P) (b := b) (o := o) vs 0 w l hB (by omega) hone
  have hld := run_loadCells_list (P := P) w ad vs hsrc
  rw [hl] at hld
  refine st (v := vI (n2 : Nat)) (w' := w1) ?_ hd (k w1 hB1 hK hs)
  exact fun dst pos af gd ρ hρ => .inl (by
    rw [exec_builtin hρ (vals := [.slice (some ⟨b, o, none⟩) n1 c, .slice (some ad) n2 c']) (by simp [evs, hx, hy])]
    simp [builtin, Builtin.copy_, run_underlying ht, Builtin.lenOf, Builtin.firstCells, run_sizeOf he, Nat.min_eq_left hle, hld, hr, goInt])
/-- copy(dst, src) of nothing -/
theorem st_copy0 {d : Nat} {x y : Operand} {t1 t2 e : TypeId} {A : Option Addr} {n1 c c' : Nat} (hx : ev F x = some (.slice A n1 c)) (hy : ev F y = some (.slice none 0 c')) (ht : P.underlying t1 = some (.slice e)) (he : tSize P e = some 1) (hd : Nat.blt d n = true)
    (k : wpL P ops Q n D ((d, vI ((0 : Nat) : Int)) :: F) rest w) :
    wpL P ops Q n D F (⟨some d, .call ⟨.builtin .copy, #[x, y], #[t1, t2]⟩, T, pos, af, none⟩ :: rest) w := by
  refine st (v := vI ((0 : Nat) : Int)) (w' := w) ?_ hd k
  exact fun dst pos af gd ρ hρ => .inl (by
    rw [exec_builtin hρ (vals := [.slice A n1 c, .slice none 0 c']) (by simp [evs, hx, hy])]
    cases A <;> simp [builtin, Builtin.copy_, run_underlying ht, Builtin.lenOf, Builtin.firstCells, run_sizeOf he, goInt, storeCells])
theorem size_toList (s : ByteArray) : s.data.toList.length = s.size := by simp
/-- copy(dst, string), where the string is as long or shorter -/
theorem st_copyS {d : Nat} {x y : Operand} {t1 t2 e : TypeId} {b o c n1 : Nat} {s : ByteArray} {T1 : TypeId} {l : List Value} (hx : ev F x = some (.slice (some ⟨b, o, none⟩) n1 c)) (hy : ev F y = some (.string s)) (ht : P.underlying t1 = some (.slice e)) (he : tSize P e = some 1)
    (hB : BlkF w b T1 l) (hle : s.size ≤ n1) (h1 : o + s.size ≤ l.length) (hd : Nat.blt d n = true)
    (k : ∀ w1, BlkF w1 b T1 (over l o (s.data.toList.map fun b => v8 b.toNat)) → Keep w w1 [b] → w1.heap.size = w.heap.size → wpL P ops Q n D ((d, vI (s.size : Nat)) :: F) rest w1) :
    wpL P ops Q n D F (⟨some d, .call ⟨.builtin .copy, #[x, y], #[t1, t2]⟩, T, pos, af, none⟩ :: rest) w := by
  have hsl := size_toList s
  obtain ⟨w1, hr, hB1, hK, hs⟩ := run_storeCellsF (P := P) (b := b) (o := o) (s.data.toList.map fun b => v8 b.toNat) 0 w l hB (by rw [List.length_map, hsl]; omega) (by intro v hv; obtain ⟨x, _, rfl⟩ := List.mem_map.1 hv; rfl)
  refine st (v := vI (s.size : Nat)) (w' := w1) ?_ hd (k w1 hB1 hK hs)
  exact fun dst pos af gd ρ hρ => .inl (by
    rw [exec_builtin hρ (vals := [.slice (some ⟨b, o, none⟩) n1 c, .string s]) (by simp [evs, hx, hy])]
    have htk : List.take s.size (List.map (fun b : UInt8 => Value.int IntKind.u8 (b.toNat : Int)) s.data.toList) = s.data.toList.map fun b => v8 b.toNat := by
      rw [List.take_of_length_le (by rw [List.length_map, hsl]; exact Nat.le_refl _)]
    simp [builtin, Builtin.copy_, run_underlying ht, Builtin.lenOf, Builtin.firstCells, run_sizeOf he, Nat.min_eq_left hle, goInt]
    rw [htk, hr]
    simp [Result.andThen])
/-- append(nil, make(.., m)...) -/
theorem st_appendZ {d : Nat} {x y : Operand} {t tn e : TypeId} {i : TypeInfo} {z : Value} {kn : IntKind} {m : Nat} (hx : ev F x = some (.slice none 0 0)) (hy : ev F y = some (vI (m : Nat))) (ht : P.underlying t = some (.slice e)) (htn : P.underlying tn = some (.int kn)) (hi : P.info? e = some i) (hz : i.zero = some z) (hs : i.size = 1) (hb : i.bytes ≤ 64) (hz1 : z.oneCell' = true)
    (h0 : 0 < m) (hm : m ≤ 100000000) (hd : Nat.blt d n = true)
    (k : ∀ c' w1, m ≤ c' → c' ≤ maxLen → Blk w1 w.heap.size e (List.replicate c' z) → Keep w w1 [] → w1.heap.size = w.heap.size + 1 → wpL P ops Q n D ((d, vS w.heap.size m c') :: F) rest w1) : wpL P ops Q n D F (⟨some d, .call ⟨.builtin .append, #[x, y], #[t, tn]⟩, T, pos, af, none⟩ :: rest) w := by
  have hbytes : m * i.bytes ≤ 281474976710656 := by have : m * i.bytes ≤ 100000000 * 64 := Nat.mul_le_mul hm hb; omega
  have hr := Lib.run_append_nil_zeros (P := P) w t tn T e i z .i64 kn ht htn hi hz m h0 (by omega) (by omega) hbytes
  rw [zeroCells_one z hz1, zeroCells_one z hz1] at hr
  have hge := grownCap_ge w m 0 e
  have hle := grownCap_le_maxLen w m 0 e (by unfold maxLen; omega)
  have e1 : (List.replicate m z).toArray ++ (List.replicate (grownCap w m 0 e - m) z).toArray = (List.replicate (grownCap w m 0 e) z).toArray := by
    rw [List.append_toArray, List.replicate_append_replicate, show m + (grownCap w m 0 e - m) = grownCap w m 0 e by omega]
  rw [e1] at hr
  refine st (v := vS w.heap.size m (grownCap w m 0 e)) (w' := w.drew.alloc (.cells (List.replicate (grownCap w m 0 e) z).toArray e)) ?_ hd (k _ _ hge hle ?_ ?_ ?_)
  · exact fun dst pos af gd ρ hρ => .inl (by
      rw [exec_builtin hρ (vals := [.slice none 0 0, vI (m : Nat)]) (by simp [evs, hx, hy])]
      simp [builtin, hr])
  · exact heap_alloc_new w.drew _
  · exact (Keep.drew w []).trans (Keep.alloc w.drew _ []) (by simp)
  · simp
/-- bytes as bytes: a literal's row gets a mark behind its last cell -/
theorem st_convM {d : Nat} {x : Operand} {t e b m c : Nat} {T1 : TypeId} {l : List Value} (hx : ev F x = some (vS b m c)) (ht : P.underlying t = some (.slice e)) (he : P.underlying e = some (.int .u8)) (hB : Blk w b T1 l) (hd : Nat.blt d n = true)
    (k : ∀ w1, BlkF w1 b T1 l → Keep w w1 [b] → w1.heap.size = w.heap.size → wpL P ops Q n D ((d, vS b m c) :: F) rest w1) : wpL P ops Q n D F (⟨some d, .convert t t x, T, pos, af, none⟩ :: rest) w := by
  have hb := hB
  unfold Blk at hb
  have hfz : (w.freeze ⟨b, l.length, none⟩ 1).heap[b]? = some (.cells l.toArray T1 (l.length, l.length + 1)) := by
    simp [World.freeze, Array.getElem?_modify, hb]
  refine st (v := vS b m c) (w' := w.freeze ⟨b, l.length, none⟩ 1) ?_ hd (k _ ⟨_, _, hfz, .inr (Nat.le_refl _)⟩ ?_ ?_)
  · exact fun dst pos af gd ρ hρ => .inl (by
      simp [execOp, hρ _ _ hx, convert, run_underlying ht, run_underlying he, markStringish, hB.shape, Result.andThen])
  · refine ⟨?_, ?_, ?_, ?_, fun i hi hn => ?_⟩
    · simp [World.freeze]
    · simp [World.freeze]
    · simp [World.freeze]
    · simp [World.freeze]
    · have : b ≠ i := fun h => hn (by simp [h])
      simp [World.freeze, Array.getElem?_modify, this]
  · simp [World.freeze]
/-- an empty string as bytes -/
theorem st_convSB0 {d : Nat} {x : Operand} {s t e : TypeId} {b : ByteArray} (hx : ev F x = some (.string b)) (hb : b.size = 0) (hs : P.underlying s = some .string) (ht : P.underlying t = some (.slice e)) (he : P.underlying e = some (.int .u8)) (hd : Nat.blt d n = true)
    (k : ∀ c' w1, c' ≤ 9223372036854775807 → BlkF w1 w.heap.size e (List.replicate c' (v8 0)) → Keep w w1 [] → w1.heap.size = w.heap.size + 1 → wpL P ops Q n D ((d, vS w.heap.size 0 c') :: F) rest w1) : wpL P ops Q n D F (⟨some d, .convert s t x, T, pos, af, none⟩ :: rest) w := by
  have hr := Lib.run_convert_string_bytes (P := P) w s t e b hs ht he
  have hle := grownCap_le_maxLen w 0 0 e (by unfold maxLen; omega)
  have hcells : Lib.bytesCells w e b = (List.replicate (grownCap w 0 0 e) (v8 0)).toArray := by
    have hd0 : b.data = #[] := by
      apply Array.eq_empty_of_size_eq_zero
      exact hb
    unfold Lib.bytesCells
    rw [hb, hd0]
    simp [v8]
  have hnew := Lib.bytesWorld_at_new w e b
  rw [hcells] at hnew
  rw [hb] at hr
  refine st (v := vS w.heap.size 0 (grownCap w 0 0 e)) (w' := Lib.bytesWorld w e b) ?_ hd (k _ _ (by unfold maxLen at hle; omega) ⟨_, _, hnew, .inr (by simp)⟩ ?_ (Lib.bytesWorld_size w e b))
  · exact fun dst pos af gd ρ hρ => .inl (by
      simp only [execOp, hρ _ _ hx, Sem.run_bind, hr, Result.andThen_ok]
      rfl)
  · refine ⟨rfl, rfl, rfl, by rw [Lib.bytesWorld_size]; omega, fun i hi _ => Lib.bytesWorld_at_old w e b i hi⟩
end

section
variable {P : Program} {n : Nat} {F : Fr} {w : World}
/-- the end of a function that has put off one call of a closure that finds nothing to recover; its result lies in a slot -/
theorem q_endDt {fn : Func} {R : Ending → World → Prop} {e : Exit} {f : FuncId} {cap : List Value} {t : Nat} {v : Value} (he : e = .ret ∨ e = .normal) (hr : fn.results = #[.tmp t]) (ht : fget F t = some v)
    (hfn : IsFn P f) (hc : CallsD P f cap.toArray .returning w fun e u' w' => e = .returned (.tuple #[]) ∧ u' = .returning ∧ w' = w) (hR : R (.returned v) w) :
    qf (bodyPostD P fn R) e n [{ target := .fn (.func f) cap.toArray, args := #[] }] F w := by
  intro a ha
  have hx : bodyPostD P fn R .ret a w := by
    show Leaves P fn a.tmps R a.defers .returning w
    rw [ha.defers]
    refine leaves_cons (f := f) (args := cap.toArray) (by simp) ?_ ?_
    · simp [invoke, run_callv hfn]
    · refine CallsD.mono hc ?_
      rintro e u' w' ⟨rfl, rfl, rfl⟩
      have hg := ha.get t _ ht
      exact ⟨v, by rw [results_tmp hr, hg], hR⟩
  rcases he with rfl | rfl <;> exact hx
end

/-- the string of these bytes -/
def str (xs : List Nat) : ByteArray := ⟨(xs.map UInt8.ofNat).toArray⟩
theorem str_size (xs : List Nat) : (str xs).size = xs.length := by simp [str, ByteArray.size]
theorem str_bytes (xs : List Nat) (h : ∀ x ∈ xs, x < 256) : ((str xs).data.toList.map fun b => v8 b.toNat) = xs.map v8 := by
  unfold str
  simp only [List.map_map]
  apply List.map_congr_left
  intro x hx
  have := h x hx
  simp only [Function.comp_apply, UInt8.toNat_ofNat']
  rw [Nat.mod_eq_of_lt (by omega)]
theorem str_inj {xs ys : List Nat} (hx : ∀ x ∈ xs, x < 256) (hy : ∀ y ∈ ys, y < 256) (h : str xs = str ys) : xs = ys := by
  have e : (str xs).data.toList = (str ys).data.toList := by rw [h]
  have h1 := str_bytes xs hx
  have h2 := str_bytes ys hy
  rw [e, h2] at h1
  have hi : ∀ {a b : Nat}, v8 a = v8 b → a = b := by
    intro a b h
    have h2 : (a : Int) = (b : Int) := by simpa [v8] using h
    exact Int.ofNat_inj.1 h2
  exact (List.map_inj_right (fun x y h => hi h)).1 h1.symm
theorem str_append (xs ys : List Nat) : str (xs ++ ys) = str xs ++ str ys := by
  apply ByteArray.ext
  simp [str]

section
variable {P : Program} {F : Fr} {w : World} {T : TypeId}
/-- bytes as a string -/
theorem y_convBS {x : Operand} {s t e : TypeId} {ad : Addr} {n c : Nat} {xs : List Nat} (hx : ev F x = some (.slice (some ad) n c)) (hs : P.underlying s = some (.slice e)) (he : P.underlying e = some (.int .u8)) (ht : P.underlying t = some .string) (hn : xs.length = n) (h8 : ∀ x ∈ xs, x < 256)
    (hc : ∀ j, j < n → w.cell? (ad.add j) = some (v8 (xs.getD j 0))) : Zv P w F (.convert s t x) T (.string (str xs)) w :=
  fun dst pos af gd ρ hρ => .inl (by
    have h := run_convert_bytes_back (P := P) w s t e ad c (xs.map UInt8.ofNat) hs he ht (fun j hj => by
      rw [List.length_map] at hj
      rw [hc j (by omega)]
      have : xs[j] < 256 := h8 _ (List.getElem_mem _)
      simp only [List.getElem_map, UInt8.toNat_ofNat', List.getD_eq_getElem?_getD, List.getElem?_eq_getElem hj, Option.getD_some]
      rw [Nat.mod_eq_of_lt (by omega)])
    rw [List.length_map, hn] at h
    simp only [execOp, hρ _ _ hx]
    simp only [Sem.run_bind, h]
    simp [str])
theorem str_get {xs : List Nat} {i : Nat} (h : i < xs.length) : (str xs)[i]? = some (UInt8.ofNat (xs.getD i 0)) := by
  have h2 : i < (str xs).size := by rw [str_size]; exact h
  rw [getElem?_pos (str xs) i h2]
  congr 1
  have e : (str xs).data[i]? = some (UInt8.ofNat (xs.getD i 0)) := by
    unfold str
    simp only [List.getElem?_toArray, List.getElem?_map, List.getElem?_eq_getElem h, Option.map_some, List.getD_eq_getElem?_getD, Option.getD_some]
  have e2 : (str xs)[i] = (str xs).data[i]'h2 := rfl
  have h3 : i < (str xs).data.size := h2
  have e3 := Array.getElem?_eq_getElem h3
  exact Option.some.inj (e3.symm.trans e)
theorem y_indexS {x y : Operand} {t : TypeId} {k : IntKind} {xs : List Nat} {i : Nat} (hx : ev F x = some (.string (str xs))) (hy : ev F y = some (.int k (i : Int))) (ht : P.underlying t = some .string) (h : i < xs.length) (h8 : ∀ x ∈ xs, x < 256) : Zv P w F (.index t x y) T (v8 (xs.getD i 0)) w := by
  have h1 := y_indexStr (T := T) (w := w) hx hy ht (str_get h)
  have h2 : (UInt8.ofNat (xs.getD i 0)).toNat = xs.getD i 0 := by
    have : xs.getD i 0 < 256 := by
      rw [List.getD_eq_getElem?_getD, List.getElem?_eq_getElem h]; exact h8 _ (List.getElem_mem _)
    simp only [UInt8.toNat_ofNat']
    omega
  rwa [h2] at h1
/-- xs[0:] -/
theorem y_slice_0 {x lo : Operand} {t e : TypeId} {k : IntKind} {A : Option Addr} {n c : Nat} (hx : ev F x = some (.slice A n c)) (hl : ev F lo = some (.int k ((0 : Nat) : Int))) (ht : P.underlying t = some (.slice e)) (he : tSize P e = some 1) :
    Zv P w F (.slice t x (some lo) none none) T (.slice A n c) w :=
  fun dst pos af gd ρ hρ => .inl (by
    simp only [execOp, hρ _ _ hx, hρ _ _ hl, Option.map_some, Option.map_none, Sem.run_bind, run_sliceAt ht, Instr.slice, Instr.sliceBounds, run_underlying ht, Result.andThen_ok, run_bound (Nat.zero_le n), Sem.run_pure, run_sizeOf he, Option.isSome_none, Nat.mul_one]
    cases A <;> simp [Addr.add])
theorem y_lenS {x : Operand} {t : TypeId} {s : ByteArray} (hx : ev F x = some (.string s)) (ht : P.underlying t = some .string) : Zv P w F (.call ⟨.builtin .len, #[x], #[t]⟩) T (vI s.size) w :=
  fun dst pos af gd ρ hρ => .inl (by
    rw [exec_builtin hρ (vals := [.string s]) (by simp [evs, hx])]
    simp [builtin, run_len_string, ht, goInt])
theorem y_eqST {x y : Operand} {t t' : TypeId} {a b : ByteArray} (hx : ev F x = some (.string a)) (hy : ev F y = some (.string b)) (h : a = b) : Zv P w F (.binOp .eql t x y t') T (.bool true) w :=
  fun dst pos af gd ρ hρ => .inl (by subst h; simp [execOp, hρ _ _ hx, hρ _ _ hy, eqGuard, binOp, Op.stringOp])
theorem y_catS {x y : Operand} {t t' : TypeId} {a b : ByteArray} (hx : ev F x = some (.string a)) (hy : ev F y = some (.string b)) (h : a.size + b.size ≤ 1000000000) : Zv P w F (.binOp .add t x y t') T (.string (a ++ b)) w :=
  fun dst pos af gd ρ hρ => .inl (by simp [execOp, hρ _ _ hx, hρ _ _ hy, eqGuard, binOp, Op.stringOp]; omega)
end
end Go.Proofs.YtkemlhhpakjojaaDoor

/- Facts on the program's types and functions, each by the kernel; laid by a program of the session's own. -/
set_option linter.unusedVariables false
set_option maxRecDepth 100000
namespace Go.Proofs.YtkemlhhpakjojaaDoor
open Go Go.RowKit
theorem agg25 : tOne Tryd.prog 25 = false := by kernel_rfl
theorem agg67 : tOne Tryd.prog 67 = false := by kernel_rfl
theorem inf22 : (Tryd.prog.info? 22).map (fun i => (i.zero, i.size, i.bytes)) = some (some (.int .u64 0), 1, 8) := by kernel_rfl
theorem inf4 : (Tryd.prog.info? 4).map (fun i => (i.zero, i.size, i.bytes)) = some (some (.bool false), 1, 1) := by kernel_rfl
theorem inf43 : (Tryd.prog.info? 43).map (fun i => (i.zero, i.size, i.bytes)) = some (some (.int .u64 0), 1, 8) := by kernel_rfl
theorem inf5 : (Tryd.prog.info? 5).map (fun i => (i.zero, i.size, i.bytes)) = some (some (.int .u8 0), 1, 1) := by kernel_rfl
theorem isfn10 : IsFn Tryd.prog 10 := ⟨Tryd.f10, Tryd.func10, by kernel_rfl, by kernel_rfl⟩
theorem isfn11 : IsFn Tryd.prog 11 := ⟨Tryd.f11, Tryd.func11, by kernel_rfl, by kernel_rfl⟩
theorem isfn12 : IsFn Tryd.prog 12 := ⟨Tryd.f12, Tryd.func12, by kernel_rfl, by kernel_rfl⟩
theorem isfn13 : IsFn Tryd.prog 13 := ⟨Tryd.f13, Tryd.func13, by kernel_rfl, by kernel_rfl⟩
theorem isfn14 : IsFn Tryd.prog 14 := ⟨Tryd.f14, Tryd.func14, by kernel_rfl, by kernel_rfl⟩
theorem isfn15 : IsFn Tryd.prog 15 := ⟨Tryd.f15, Tryd.func15, by kernel_rfl, by kernel_rfl⟩
theorem isfn16 : IsFn Tryd.prog 16 := ⟨Tryd.f16, Tryd.func16, by kernel_rfl, by kernel_rfl⟩
theorem isfn17 : IsFn Tryd.prog 17 := ⟨Tryd.f17, Tryd.func17, by kernel_rfl, by kernel_rfl⟩
theorem isfn18 : IsFn Tryd.prog 18 := ⟨Tryd.f18, Tryd.func18, by kernel_rfl, by kernel_rfl⟩
theorem isfn19 : IsFn Tryd.prog 19 := ⟨Tryd.f19, Tryd.func19, by kernel_rfl, by kernel_rfl⟩
theorem isfn20 : IsFn Tryd.prog 20 := ⟨Tryd.f20, Tryd.func20, by kernel_rfl, by kernel_rfl⟩
theorem isfn21 : IsFn Tryd.prog 21 := ⟨Tryd.f21, Tryd.func21, by kernel_rfl, by kernel_rfl⟩
theorem isfn22 : IsFn Tryd.prog 22 := ⟨Tryd.f22, Tryd.func22, by kernel_rfl, by kernel_rfl⟩
theorem isfn23 : IsFn Tryd.prog 23 := ⟨Tryd.f23, Tryd.func23, by kernel_rfl, by kernel_rfl⟩
theorem isfn25 : IsFn Tryd.prog 25 := ⟨Tryd.f25, Tryd.func25, by kernel_rfl, by kernel_rfl⟩
theorem isfn26 : IsFn Tryd.prog 26 := ⟨Tryd.f26, Tryd.func26, by kernel_rfl, by kernel_rfl⟩
theorem isfn27 : IsFn Tryd.prog 27 := ⟨Tryd.f27, Tryd.func27, by kernel_rfl, by kernel_rfl⟩
theorem isfn28 : IsFn Tryd.prog 28 := ⟨Tryd.f28, Tryd.func28, by kernel_rfl, by kernel_rfl⟩
theorem isfn29 : IsFn Tryd.prog 29 := ⟨Tryd.f29, Tryd.func29, by kernel_rfl, by kernel_rfl⟩
theorem isfn30 : IsFn Tryd.prog 30 := ⟨Tryd.f30, Tryd.func30, by kernel_rfl, by kernel_rfl⟩
theorem isfn31 : IsFn Tryd.prog 31 := ⟨Tryd.f31, Tryd.func31, by kernel_rfl, by kernel_rfl⟩
theorem isfn32 : IsFn Tryd.prog 32 := ⟨Tryd.f32, Tryd.func32, by kernel_rfl, by kernel_rfl⟩
theorem isfn33 : IsFn Tryd.prog 33 := ⟨Tryd.f33, Tryd.func33, by kernel_rfl, by kernel_rfl⟩
theorem isfn34 : IsFn Tryd.prog 34 := ⟨Tryd.f34, Tryd.func34, by kernel_rfl, by kernel_rfl⟩
theorem isfn35 : IsFn Tryd.prog 35 := ⟨Tryd.f35, Tryd.func35, by kernel_rfl, by kernel_rfl⟩
theorem isfn36 : IsFn Tryd.prog 36 := ⟨Tryd.f36, Tryd.func36, by kernel_rfl, by kernel_rfl⟩
theorem isfn37 : IsFn Tryd.prog 37 := ⟨Tryd.f37, Tryd.func37, by kernel_rfl, by kernel_rfl⟩
theorem isfn5 : IsFn Tryd.prog 5 := ⟨Tryd.f5, Tryd.func5, by kernel_rfl, by kernel_rfl⟩
theorem isfn6 : IsFn Tryd.prog 6 := ⟨Tryd.f6, Tryd.func6, by kernel_rfl, by kernel_rfl⟩
theorem isfn7 : IsFn Tryd.prog 7 := ⟨Tryd.f7, Tryd.func7, by kernel_rfl, by kernel_rfl⟩
theorem isfn8 : IsFn Tryd.prog 8 := ⟨Tryd.f8, Tryd.func8, by kernel_rfl, by kernel_rfl⟩
theorem isfn9 : IsFn Tryd.prog 9 := ⟨Tryd.f9, Tryd.func9, by kernel_rfl, by kernel_rfl⟩
theorem mixed : Tryd.prog.follows .mixedOrders = true := by kernel_rfl
theorem one2 : tOne Tryd.prog 2 = true := by kernel_rfl
theorem one22 : tOne Tryd.prog 22 = true := by kernel_rfl
theorem one23 : tOne Tryd.prog 23 = true := by kernel_rfl
theorem one32 : tOne Tryd.prog 32 = true := by kernel_rfl
theorem one4 : tOne Tryd.prog 4 = true := by kernel_rfl
theorem one42 : tOne Tryd.prog 42 = true := by kernel_rfl
theorem one43 : tOne Tryd.prog 43 = true := by kernel_rfl
theorem one5 : tOne Tryd.prog 5 = true := by kernel_rfl
theorem one50 : tOne Tryd.prog 50 = true := by kernel_rfl
theorem sz2 : tSize Tryd.prog 2 = some 1 := by kernel_rfl
theorem sz22 : tSize Tryd.prog 22 = some 1 := by kernel_rfl
theorem sz23 : tSize Tryd.prog 23 = some 1 := by kernel_rfl
theorem sz25 : tSize Tryd.prog 25 = some 2 := by kernel_rfl
theorem sz3 : tSize Tryd.prog 3 = some 1 := by kernel_rfl
theorem sz32 : tSize Tryd.prog 32 = some 1 := by kernel_rfl
theorem sz4 : tSize Tryd.prog 4 = some 1 := by kernel_rfl
theorem sz42 : tSize Tryd.prog 42 = some 1 := by kernel_rfl
theorem sz43 : tSize Tryd.prog 43 = some 1 := by kernel_rfl
theorem sz5 : tSize Tryd.prog 5 = some 1 := by kernel_rfl
theorem sz67 : tSize Tryd.prog 67 = some 0 := by kernel_rfl
theorem us22 : (Tryd.prog.underlying 22).isSome = true := by rw [Tryd.underlying22]; rfl
theorem us25 : (Tryd.prog.underlying 25).isSome = true := by rw [Tryd.underlying25]; rfl
theorem us26 : (Tryd.prog.underlying 26).isSome = true := by rw [Tryd.underlying26]; rfl
theorem us3 : (Tryd.prog.underlying 3).isSome = true := by rw [Tryd.underlying3]; rfl
theorem us43 : (Tryd.prog.underlying 43).isSome = true := by rw [Tryd.underlying43]; rfl
theorem us5 : (Tryd.prog.underlying 5).isSome = true := by rw [Tryd.underlying5]; rfl
theorem us67 : (Tryd.prog.underlying 67).isSome = true := by rw [Tryd.underlying67]; rfl
theorem zv22 : tZero Tryd.prog 22 = some (.int .u64 0) := by kernel_rfl
theorem zv25 : tZero Tryd.prog 25 = some (.agg #[.int .u64 0, .slice none 0 0]) := by kernel_rfl
theorem zv43 : tZero Tryd.prog 43 = some (.int .u64 0) := by kernel_rfl
theorem zv48 : tZero Tryd.prog 48 = some (.agg #[.int .u64 0, .slice none 0 0]) := by kernel_rfl
theorem zv5 : tZero Tryd.prog 5 = some (.int .u8 0) := by kernel_rfl
theorem zv63 : tZero Tryd.prog 63 = some (.agg #[.int .u8 0, .int .u8 0, .int .u8 0, .int .u8 0, .int .u8 0, .int .u8 0, .int .u8 0, .int .u8 0]) := by kernel_rfl
theorem bld25_ {F : Fr} {w : World} {T : TypeId}    : Zv Tryd.prog w F (.build 25 #[]) T (.agg #[.int .u64 0, .slice none 0 0]) w :=
  fun dst pos af gd ρ hρ => .inl (by
    have h := run_build (P := Tryd.prog) w 25 #[] #[.int .u64 0, .slice none 0 0] (by kernel_rfl)
    simp [execOp, h])
theorem bld25_0 {F : Fr} {w : World} {T : TypeId} {x0 : Operand} {z0 : Int} (h0 : ev F x0 = some (.int .u64 z0)) : Zv Tryd.prog w F (.build 25 #[(0, x0)]) T (.agg #[.int .u64 z0, .slice none 0 0]) w :=
  fun dst pos af gd ρ hρ => .inl (by
    have h := run_build (P := Tryd.prog) w 25 #[(0, .int .u64 z0)] #[.int .u64 z0, .slice none 0 0] (by kernel_rfl)
    simp [execOp, hρ _ _ h0, h])
theorem bld74_0_1_2 {F : Fr} {w : World} {T : TypeId} {x0 x1 x2 : Operand} {A0 : Option Addr} {n0 c0 : Nat} {z1 : Int} {z2 : Int} (h0 : ev F x0 = some (.slice A0 n0 c0)) (h1 : ev F x1 = some (.int .i64 z1)) (h2 : ev F x2 = some (.int .i64 z2)) : Zv Tryd.prog w F (.build 74 #[(0, x0), (1, x1), (2, x2)]) T (.agg #[.slice A0 n0 c0, .int .i64 z1, .int .i64 z2]) w :=
  fun dst pos af gd ρ hρ => .inl (by
    have h := run_build (P := Tryd.prog) w 74 #[(0, .slice A0 n0 c0), (1, .int .i64 z1), (2, .int .i64 z2)] #[.slice A0 n0 c0, .int .i64 z1, .int .i64 z2] (by kernel_rfl)
    simp [execOp, hρ _ _ h0, hρ _ _ h1, hρ _ _ h2, h])
theorem fa25_0 {F : Fr} {w : World} {T : TypeId} {x : Operand} {b o : Nat} (hx : ev F x = some (pt b o)) : Zv Tryd.prog w F (.fieldAddr 25 x 0) T (pt b (o + 0)) w := y_fieldAddr (i := 0) (n := 1) hx Tryd.underlying25 rfl sz22 rfl
theorem fa25_1 {F : Fr} {w : World} {T : TypeId} {x : Operand} {b o : Nat} (hx : ev F x = some (pt b o)) : Zv Tryd.prog w F (.fieldAddr 25 x 1) T (pt b (o + 1)) w := y_fieldAddr (i := 1) (n := 1) hx Tryd.underlying25 rfl sz23 rfl
theorem fa48_0 {F : Fr} {w : World} {T : TypeId} {x : Operand} {b o : Nat} (hx : ev F x = some (pt b o)) : Zv Tryd.prog w F (.fieldAddr 48 x 0) T (pt b (o + 0)) w := y_fieldAddr (i := 0) (n := 1) hx Tryd.underlying48 rfl sz22 rfl
theorem fa48_1 {F : Fr} {w : World} {T : TypeId} {x : Operand} {b o : Nat} (hx : ev F x = some (pt b o)) : Zv Tryd.prog w F (.fieldAddr 48 x 1) T (pt b (o + 1)) w := y_fieldAddr (i := 1) (n := 1) hx Tryd.underlying48 rfl sz42 rfl
theorem fa74_0 {F : Fr} {w : World} {T : TypeId} {x : Operand} {b o : Nat} (hx : ev F x = some (pt b o)) : Zv Tryd.prog w F (.fieldAddr 74 x 0) T (pt b (o + 0)) w := y_fieldAddr (i := 0) (n := 1) hx Tryd.underlying74 rfl sz32 rfl
theorem fa74_1 {F : Fr} {w : World} {T : TypeId} {x : Operand} {b o : Nat} (hx : ev F x = some (pt b o)) : Zv Tryd.prog w F (.fieldAddr 74 x 1) T (pt b (o + 1)) w := y_fieldAddr (i := 1) (n := 1) hx Tryd.underlying74 rfl sz2 rfl
theorem fa74_2 {F : Fr} {w : World} {T : TypeId} {x : Operand} {b o : Nat} (hx : ev F x = some (pt b o)) : Zv Tryd.prog w F (.fieldAddr 74 x 2) T (pt b (o + 2)) w := y_fieldAddr (i := 2) (n := 1) hx Tryd.underlying74 rfl sz3 rfl
theorem mk29 {ops : Array Oper} {Q : Exit → Act → World → Prop} {n : Nat} {D : List Deferred} {F : Fr} {rest : List Oper} {w : World} {T : TypeId} {pos : String} {af : Array Edge} {d : Nat} {x y : Operand} {k1 k2 : IntKind} {l c : Nat} (hx : ev F x = some (.int k1 (l : Int))) (hy : ev F y = some (.int k2 (c : Int))) (hlc : l ≤ c) (hc : c ≤ 4398046511104) (hd : Nat.blt d n = true)
    (k : ∀ b w1, w.heap.size = b → Blk w1 b 4 ((List.replicate c (false)).map vB) → Keep w w1 [] → w1.heap.size = b + 1 → wpL Tryd.prog ops Q n D ((d, vS b l c) :: F) rest w1) : wpL Tryd.prog ops Q n D F (⟨some d, .makeSlice 29 x y, T, pos, af, none⟩ :: rest) w := by
  obtain ⟨i0, hi, h0, h1, h2⟩ := info_parts inf4
  exact st_make hx hy Tryd.underlying29 hi h0 rfl h1 (by omega) hlc hc hd fun b w1 e1 e2 => k b w1 e1 (by rw [List.map_replicate]; exact e2)
theorem mk32 {ops : Array Oper} {Q : Exit → Act → World → Prop} {n : Nat} {D : List Deferred} {F : Fr} {rest : List Oper} {w : World} {T : TypeId} {pos : String} {af : Array Edge} {d : Nat} {x y : Operand} {k1 k2 : IntKind} {l c : Nat} (hx : ev F x = some (.int k1 (l : Int))) (hy : ev F y = some (.int k2 (c : Int))) (hlc : l ≤ c) (hc : c ≤ 4398046511104) (hd : Nat.blt d n = true)
    (k : ∀ b w1, w.heap.size = b → Blk w1 b 5 ((List.replicate c (0)).map v8) → Keep w w1 [] → w1.heap.size = b + 1 → wpL Tryd.prog ops Q n D ((d, vS b l c) :: F) rest w1) : wpL Tryd.prog ops Q n D F (⟨some d, .makeSlice 32 x y, T, pos, af, none⟩ :: rest) w := by
  obtain ⟨i0, hi, h0, h1, h2⟩ := info_parts inf5
  exact st_make hx hy Tryd.underlying32 hi h0 rfl h1 (by omega) hlc hc hd fun b w1 e1 e2 => k b w1 e1 (by rw [List.map_replicate]; exact e2)
theorem mk42 {ops : Array Oper} {Q : Exit → Act → World → Prop} {n : Nat} {D : List Deferred} {F : Fr} {rest : List Oper} {w : World} {T : TypeId} {pos : String} {af : Array Edge} {d : Nat} {x y : Operand} {k1 k2 : IntKind} {l c : Nat} (hx : ev F x = some (.int k1 (l : Int))) (hy : ev F y = some (.int k2 (c : Int))) (hlc : l ≤ c) (hc : c ≤ 4398046511104) (hd : Nat.blt d n = true)
    (k : ∀ b w1, w.heap.size = b → Blk w1 b 43 ((List.replicate c (0)).map vU) → Keep w w1 [] → w1.heap.size = b + 1 → wpL Tryd.prog ops Q n D ((d, vS b l c) :: F) rest w1) : wpL Tryd.prog ops Q n D F (⟨some d, .makeSlice 42 x y, T, pos, af, none⟩ :: rest) w := by
  obtain ⟨i0, hi, h0, h1, h2⟩ := info_parts inf43
  exact st_make hx hy Tryd.underlying42 hi h0 rfl h1 (by omega) hlc hc hd fun b w1 e1 e2 => k b w1 e1 (by rw [List.map_replicate]; exact e2)
end Go.Proofs.YtkemlhhpakjojaaDoor

/- Sets as lists of truths and as words of 64 bits: plain lemmas on lists and numbers, without Go. -/
set_option linter.unusedVariables false
set_option linter.unusedSimpArgs false
namespace Go.Proofs.YtkemlhhpakjojaaDoor

/-! ### Numbers of bits -/
def natOf (f : Nat → Bool) : Nat → Nat
  | 0 => 0
  | n + 1 => natOf f n + (if f n then 2 ^ n else 0)

theorem natOf_lt (f : Nat → Bool) (n : Nat) : natOf f n < 2 ^ n := by
  induction n with
  | zero => simp [natOf]
  | succ n ih =>
    simp only [natOf, Nat.pow_succ]
    split <;> omega

theorem natOf_testBit (f : Nat → Bool) (n i : Nat) : (natOf f n).testBit i = (decide (i < n) && f i) := by
  induction n with
  | zero => simp [natOf]
  | succ n ih =>
    simp only [natOf]
    have hlt := natOf_lt f n
    by_cases hf : f n = true
    · rw [if_pos hf]
      rcases Nat.lt_trichotomy i n with h | h | h
      · rw [Nat.add_comm, Nat.testBit_two_pow_add_gt h, ih]
        simp [h, show i < n + 1 by omega]
      · subst h
        rw [Nat.add_comm, Nat.testBit_two_pow_add_eq, Nat.testBit_lt_two_pow hlt]
        simp [hf]
      · have h1 : natOf f n + 2 ^ n < 2 ^ i := by
          have : 2 ^ (n + 1) ≤ 2 ^ i := Nat.pow_le_pow_right (by decide) (by omega)
          rw [Nat.pow_succ] at this
          omega
        rw [Nat.testBit_lt_two_pow h1]
        simp [show ¬ i < n + 1 by omega]
    · rw [if_neg hf, Nat.add_zero, ih]
      by_cases h : i < n
      · simp [h, show i < n + 1 by omega]
      · by_cases h2 : i = n
        · subst h2; simp [hf]
        · simp [h, show ¬ i < n + 1 by omega]

/-! ### The words of a list of truths -/
def wordAt (s : List Bool) (j : Nat) : Nat := natOf (fun k => s.getD (64 * j + k) false) 64
def nW (n : Nat) : Nat := (n + 63) / 64
def pack (s : List Bool) : List Nat := (List.range (nW s.length)).map (wordAt s)
/-- bit i of words -/
def wbit (ws : List Nat) (i : Nat) : Bool := (ws.getD (i / 64) 0).testBit (i % 64)

theorem wordAt_lt (s : List Bool) (j : Nat) : wordAt s j < 18446744073709551616 := natOf_lt _ 64
theorem wordAt_testBit (s : List Bool) (j i : Nat) : (wordAt s j).testBit i = (decide (i < 64) && s.getD (64 * j + i) false) := natOf_testBit _ 64 i
theorem pack_length (s : List Bool) : (pack s).length = nW s.length := by simp [pack]
theorem getD_ge {α : Type} (l : List α) (d : α) {i : Nat} (h : l.length ≤ i) : l.getD i d = d := by
  simp [List.getD_eq_getElem?_getD, List.getElem?_eq_none h]
theorem pack_getD (s : List Bool) (j : Nat) : (pack s).getD j 0 = wordAt s j := by
  by_cases h : j < nW s.length
  · simp [pack, List.getD_eq_getElem?_getD, h]
  · rw [getD_ge _ _ (by simp [pack_length]; omega)]
    apply Nat.eq_of_testBit_eq
    intro i
    rw [wordAt_testBit]
    by_cases hi : i < 64
    · rw [getD_ge s false (by unfold nW at h; omega)]
      simp
    · simp [hi]
theorem pack_lt (s : List Bool) : ∀ x ∈ pack s, x < 18446744073709551616 := by
  intro x hx
  simp only [pack, List.mem_map] at hx
  obtain ⟨j, _, rfl⟩ := hx
  exact wordAt_lt s j
theorem pack_getD_lt (s : List Bool) (j : Nat) : (pack s).getD j 0 < 18446744073709551616 := by rw [pack_getD]; exact wordAt_lt s j
theorem wbit_pack (s : List Bool) (i : Nat) : wbit (pack s) i = s.getD i false := by
  unfold wbit
  rw [pack_getD, wordAt_testBit]
  have h : i % 64 < 64 := Nat.mod_lt _ (by decide)
  simp only [h, decide_true, Bool.true_and]
  congr 1
  omega

/-- words are what their bits are -/
theorem words_ext {ws vs : List Nat} (hl : ws.length = vs.length) (h1 : ∀ x ∈ ws, x < 18446744073709551616) (h2 : ∀ x ∈ vs, x < 18446744073709551616) (h : ∀ i, i < 64 * ws.length → wbit ws i = wbit vs i) : ws = vs := by
  apply List.ext_getElem hl
  intro j hj hj'
  apply Nat.eq_of_testBit_eq
  intro i
  by_cases hi : i < 64
  · have := h (64 * j + i) (by omega)
    unfold wbit at this
    rw [show (64 * j + i) / 64 = j by omega, show (64 * j + i) % 64 = i by omega] at this
    simpa [List.getD_eq_getElem?_getD, hj, hj'] using this
  · have e1 : ws[j] < 2 ^ i := Nat.lt_of_lt_of_le (h1 _ (List.getElem_mem hj)) (by simpa using Nat.pow_le_pow_right (n := 2) (by decide) (show 64 ≤ i by omega))
    have e2 : vs[j] < 2 ^ i := Nat.lt_of_lt_of_le (h2 _ (List.getElem_mem hj')) (by simpa using Nat.pow_le_pow_right (n := 2) (by decide) (show 64 ≤ i by omega))
    rw [Nat.testBit_lt_two_pow e1, Nat.testBit_lt_two_pow e2]

/-- words are those of a list of truths: as many as it wants, and with its bits -/
theorem pack_unique {ws : List Nat} {s : List Bool} (hl : ws.length = nW s.length) (h1 : ∀ x ∈ ws, x < 18446744073709551616) (h : ∀ i, i < 64 * ws.length → wbit ws i = s.getD i false) : ws = pack s :=
  words_ext (by rw [hl, pack_length]) h1 (pack_lt s) fun i hi => by rw [h i hi, wbit_pack]

theorem wbit_ge {ws : List Nat} {i : Nat} (h : 64 * ws.length ≤ i) : wbit ws i = false := by
  unfold wbit
  rw [getD_ge _ _ (by omega)]
  simp
theorem bool_ext {s t : List Bool} (hl : s.length = t.length) (h : ∀ i, i < s.length → s.getD i false = t.getD i false) : s = t := by
  apply List.ext_getElem hl
  intro i h1 h2
  have := h i h1
  simpa [List.getD_eq_getElem?_getD, h1, h2] using this

/-! ### One word of a list of words is set -/
theorem wbit_set (ws : List Nat) (j x i : Nat) (hj : j < ws.length) : wbit (ws.set j x) i = if i / 64 = j then x.testBit (i % 64) else wbit ws i := by
  unfold wbit
  by_cases h : i / 64 = j
  · subst h; simp [List.getD_eq_getElem?_getD, List.getElem?_set, hj]
  · simp [List.getD_eq_getElem?_getD, List.getElem?_set, h, Ne.symm h]
theorem wbit_append (ws vs : List Nat) (i : Nat) : wbit (ws ++ vs) i = if i < 64 * ws.length then wbit ws i else wbit vs (i - 64 * ws.length) := by
  unfold wbit
  by_cases h : i < 64 * ws.length
  · rw [if_pos h, List.getD_eq_getElem?_getD, List.getD_eq_getElem?_getD, List.getElem?_append_left (by omega)]
  · rw [if_neg h, List.getD_eq_getElem?_getD, List.getD_eq_getElem?_getD, List.getElem?_append_right (by omega)]
    rw [show (i - 64 * ws.length) / 64 = i / 64 - ws.length by omega, show (i - 64 * ws.length) % 64 = i % 64 by omega]
theorem wbit_zeros (n i : Nat) : wbit (List.replicate n 0) i = false := by
  unfold wbit
  have : (List.replicate n 0).getD (i / 64) 0 = 0 := by
    rw [List.getD_eq_getElem?_getD, List.getElem?_replicate]
    split <;> rfl
  rw [this]
  simp
theorem set_lt64 {ws : List Nat} (h : ∀ x ∈ ws, x < 18446744073709551616) {j y : Nat} (hy : y < 18446744073709551616) : ∀ x ∈ ws.set j y, x < 18446744073709551616 := by
  intro x hx
  rcases List.mem_or_eq_of_mem_set hx with h' | rfl
  · exact h x h'
  · exact hy
theorem getD_lt64 {ws : List Nat} (h : ∀ x ∈ ws, x < 18446744073709551616) (j : Nat) : ws.getD j 0 < 18446744073709551616 := by
  rw [List.getD_eq_getElem?_getD]
  rcases Nat.lt_or_ge j ws.length with hj | hj
  · simpa [hj] using h _ (List.getElem_mem hj)
  · simp [List.getElem?_eq_none hj]

/-! ### Bits of what the operations answer -/
theorem testBit_big {m i : Nat} (h : m < 18446744073709551616) (hi : 64 ≤ i) : m.testBit i = false :=
  Nat.testBit_lt_two_pow (Nat.lt_of_lt_of_le h (by simpa using Nat.pow_le_pow_right (n := 2) (by decide) hi))
theorem testBit_mod64 (m i : Nat) : (m % 18446744073709551616).testBit i = (decide (i < 64) && m.testBit i) := by
  rw [show (18446744073709551616 : Nat) = 2 ^ 64 by decide, Nat.testBit_mod_two_pow]
theorem testBit_shl (m k i : Nat) : ((m <<< k) % 18446744073709551616).testBit i = (decide (i < 64) && (decide (k ≤ i) && m.testBit (i - k))) := by
  rw [testBit_mod64, Nat.testBit_shiftLeft]
theorem testBit_shr (m k i : Nat) : (m >>> k).testBit i = m.testBit (k + i) := Nat.testBit_shiftRight ..
theorem testBit_one (i : Nat) : (1 : Nat).testBit i = decide (i = 0) := by
  cases i with
  | zero => rfl
  | succ n => rw [show (1 : Nat) = 2 ^ 0 by rfl, Nat.testBit_two_pow]; simp

/-! ### The numbers of a list of truths -/
def numsFrom : Nat → List Bool → List Nat
  | _, [] => []
  | i, b :: r => if b then i :: numsFrom (i + 1) r else numsFrom (i + 1) r
def nums (s : List Bool) : List Nat := numsFrom 0 s

end Go.Proofs.YtkemlhhpakjojaaDoor

/- The package's first functions, each by its contract. -/
set_option linter.unusedVariables false
set_option linter.unusedSimpArgs false
set_option maxRecDepth 100000
namespace Go.Proofs.YtkemlhhpakjojaaDoor
open Go Go.RowKit

theorem c_Cap (w : World) : Cal Tryd.prog 34 [] w fun v w' => v = vU 18446744073709551615 ∧ w = w' := by
  refine go_in' Tryd.func34 rfl Tryd.ntmps34 (Nat.le_of_ble_eq_true rfl) ?_
  refine c_seq ?_
  refine c_region ?_
  refine st (y_assign (v := vU 0) rfl) rfl ?_
  refine l_nil ?_
  refine q_then ?_
  refine c_seq ?_
  refine c_region ?_
  refine st (y_assign (v := vU 18446744073709551615) rfl) rfl ?_
  refine l_nil ?_
  refine q_then ?_
  refine c_ret ?_
  refine q_end1 (.inl rfl) rfl rfl ?_
  exact ⟨_, rfl, rfl, rfl⟩

theorem c_wordsIndex (i : Nat) (hi : i < 18446744073709551616) (w : World) : Cal Tryd.prog 31 [vU i] w fun v w' => v = vU (i &&& 63) ∧ w = w' := by
  refine go_in' Tryd.func31 rfl Tryd.ntmps31 (Nat.le_of_ble_eq_true rfl) ?_
  refine c_seq ?_
  refine c_region ?_
  refine st (y_assign (v := vU 0) rfl) rfl ?_
  refine l_nil ?_
  refine q_then ?_
  refine c_seq ?_
  refine c_region ?_
  refine st (y_move rfl) rfl ?_
  refine st (y_and (b := 63) rfl rfl (by first | omega | assumption | (repeat (first | assumption | omega | decide | exact shl_lt64 _ _ | apply and_lt64 | apply or_lt64 | apply xor_lt64 | apply nt_lt | apply shr_lt64 | apply getD_lt64))) (by first | omega | assumption | (repeat (first | assumption | omega | decide | exact shl_lt64 _ _ | apply and_lt64 | apply or_lt64 | apply xor_lt64 | apply nt_lt | apply shr_lt64 | apply getD_lt64)))) rfl ?_
  refine st (y_assign rfl) rfl ?_
  refine l_nil ?_
  refine q_then ?_
  refine c_ret ?_
  refine q_end1 (.inl rfl) rfl rfl ?_
  exact ⟨_, rfl, rfl, rfl⟩

theorem c_wordsNeeded (i : Nat) (hi : i < 9223372036854775808) (w : World) : Cal Tryd.prog 25 [vU i] w fun v w' => v = vI ((nW i : Nat) : Int) ∧ w = w' := by
  refine go_in' Tryd.func25 rfl Tryd.ntmps25 (Nat.le_of_ble_eq_true rfl) ?_
  refine c_seq ?_
  refine c_region ?_
  refine st (y_assign (v := vI ((0 : Nat) : Int)) rfl) rfl ?_
  refine l_nil ?_
  refine q_then ?_
  refine c_seq ?_
  refine c_seq ?_
  refine c_region ?_
  refine st (y_move rfl) rfl ?_
  refine sc rfl rfl isfn34 (c_Cap _) rfl ?_
  rintro _ _ ⟨rfl, rfl⟩
  refine st (y_sub_u (b := 63) rfl rfl (by omega) (by omega)) rfl ?_
  refine st_f (y_gt_u rfl rfl) (by omega) rfl ?_
  refine l_nil ?_
  refine q_then ?_
  refine c_false rfl rfl ?_
  refine c_skip ?_
  refine q_then ?_
  refine c_seq ?_
  refine c_region ?_
  refine st (y_move rfl) rfl ?_
  refine st (y_add_u (b := 63) rfl rfl (by omega)) rfl ?_
  refine st (y_shr (k := 6) rfl rfl (by first | omega | assumption | (repeat (first | assumption | omega | decide | exact shl_lt64 _ _ | apply and_lt64 | apply or_lt64 | apply xor_lt64 | apply nt_lt | apply shr_lt64 | apply getD_lt64)))) rfl ?_
  refine st (y_conv_ui rfl us22 Tryd.underlying3 (by omega)) rfl ?_
  refine st (y_assign rfl) rfl ?_
  refine l_nil ?_
  refine q_then ?_
  refine c_ret ?_
  refine q_end1 (.inl rfl) rfl rfl ?_
  refine ⟨_, rfl, ?_, rfl⟩
  simp [nW, Nat.shiftRight_eq_div_pow]

end Go.Proofs.YtkemlhhpakjojaaDoor

/- What a set of the package is in memory; New, extendSet, Set: each by its contract. -/
set_option linter.unusedVariables false
set_option linter.unusedSimpArgs false
set_option maxRecDepth 100000
namespace Go.Proofs.YtkemlhhpakjojaaDoor
open Go Go.RowKit

/-- a set in memory, as its length and its words: the struct at p, the words at q, tl: the spare ones -/
structure BW (w : World) (p q L : Nat) (ws tl : List Nat) : Prop where
  st : Blk w p 48 [vU L, vS q ws.length (ws.length + tl.length)]
  wd : Blk w q 43 ((ws ++ tl).map vU)
  ne : p ≠ q
  lt : ∀ x ∈ ws, x < 18446744073709551616
  cap : ws.length + tl.length ≤ 9223372036854775807
theorem BW.keep {w w' : World} {p q L : Nat} {ws tl : List Nat} {l : List Nat} (h : BW w p q L ws tl) (k : Keep w w' l) (hp : p ∉ l) (hq : q ∉ l) : BW w' p q L ws tl := ⟨h.st.keep k hp, h.wd.keep k hq, h.ne, h.lt, h.cap⟩

theorem nW_le (i j : Nat) (h : i ≤ j) : nW i ≤ nW j := by unfold nW; omega
theorem and63 (i : Nat) : i &&& 63 = i % 64 := Nat.and_two_pow_sub_one_eq_mod i 6
theorem shr6 (i : Nat) : i >>> 6 = i / 64 := by rw [Nat.shiftRight_eq_div_pow]






































































































































































end Go.Proofs.YtkemlhhpakjojaaDoor

/- slices.Clone of bytes; a slice of bytes that is only read. -/
set_option linter.unusedVariables false
set_option linter.unusedSimpArgs false
set_option maxRecDepth 100000
set_option maxHeartbeats 1000000
namespace Go.Proofs.YtkemlhhpakjojaaDoor
open Go Go.RowKit

/-- a slice of bytes that is only read -/
def Rd8 (w : World) (A : Option Addr) (n : Nat) (xs : List Nat) : Prop :=
  xs.length = n ∧ n ≤ 9223372036854775807 ∧ (0 < n → ∃ ad, A = some ad ∧ ad.block < w.heap.size ∧ ∀ j, j < n → w.cell? (ad.add j) = some (v8 (xs.getD j 0)))
theorem Rd8.keep {w w' : World} {A : Option Addr} {n : Nat} {xs : List Nat} {L : List Nat} (h : Rd8 w A n xs) (k : Keep w w' L) (hn : ∀ i, i ∈ L → (∀ ad, A = some ad → i ≠ ad.block) ∨ w.heap.size ≤ i) : Rd8 w' A n xs :=
  ⟨h.1, h.2.1, fun h0 => by
    obtain ⟨ad, h1, h2, h3⟩ := h.2.2 h0
    refine ⟨ad, h1, Nat.lt_of_lt_of_le h2 k.size, fun j hj => ?_⟩
    rw [← h3 j hj]
    have e : (ad.add j).block = ad.block := by unfold Addr.add; split <;> rfl
    refine World.cell?_of_block (k.same _ (by rw [e]; exact h2) ?_)
    intro hm
    rw [e] at hm
    rcases hn _ hm with h | h
    · exact h ad h1 rfl
    · omega⟩
theorem Rd8.news8 {w : World} {ad : Addr} {n : Nat} {xs : List Nat} (h : Rd8 w (some ad) n xs) : ∀ j u', (xs.map v8)[j]? = some u' → w.cell? (ad.add j) = some u' := by
  intro j u hj
  have hl := h.1
  rw [List.getElem?_map] at hj
  cases hs : xs[j]? with
  | none => rw [hs] at hj; cases hj
  | some x =>
    rw [hs] at hj
    obtain ⟨hlt, hx⟩ := List.getElem?_eq_some_iff.1 hs
    obtain ⟨ad', e, _, hc⟩ := h.2.2 (by omega)
    cases e
    rw [hc j (by omega), List.getD_eq_getElem?_getD, hs]
    exact hj

theorem c_Clone8 (A : Option Addr) (n c : Nat) (xs : List Nat) (hA : A = none → c = 0) (hn : n ≤ 100000) (w : World) (hR : Rd8 w A n xs) :
    Cal Tryd.prog 15 [.slice A n c] w fun v w' => Keep w w' [] ∧ ((n = 0 ∧ ∃ A' c', v = .slice A' 0 c') ∨ (0 < n ∧ ∃ b c', v = vS b n c' ∧ n ≤ c' ∧ c' ≤ 9223372036854775807 ∧ w.heap.size ≤ b ∧ Blk w' b 5 ((xs ++ List.replicate (c' - n) 0).map v8))) := by
  have hl := hR.1
  refine go_in' Tryd.func15 rfl Tryd.ntmps15 (Nat.le_of_ble_eq_true rfl) ?_
  rcases A with _ | ad
  · have hn0 : n = 0 := by
      rcases Nat.eq_zero_or_pos n with h | h
      · exact h
      · obtain ⟨_, e, _⟩ := hR.2.2 h; cases e
    refine c_seq ?_
    refine c_region ?_
    refine st (y_assign rfl) rfl ?_
    refine l_nil ?_
    refine q_then ?_
    refine c_seq ?_
    refine c_seq ?_
    refine c_region ?_
    refine st (y_move rfl) rfl ?_
    refine st (y_snil_eq rfl rfl Tryd.underlying32) rfl ?_
    refine l_nil ?_
    refine q_then ?_
    refine c_true rfl rfl ?_
    refine c_seq ?_
    refine c_region ?_
    refine st (y_assign rfl) rfl ?_
    refine l_nil ?_
    refine q_then ?_
    refine c_ret ?_
    refine q_then_ret ?_
    refine q_end1 (.inl rfl) rfl rfl ?_
    exact ⟨_, rfl, Keep.refl _ _, .inl ⟨hn0, none, 0, rfl⟩⟩
  ·
    refine c_seq ?_
    refine c_region ?_
    refine st (y_assign rfl) rfl ?_
    refine l_nil ?_
    refine q_then ?_
    refine c_seq ?_
    refine c_seq ?_
    refine c_region ?_
    refine st (y_move rfl) rfl ?_
    refine st (y_snil_eq rfl rfl Tryd.underlying32) rfl ?_
    refine l_nil ?_
    refine q_then ?_
    refine c_false rfl rfl ?_
    refine c_skip ?_
    refine q_then ?_
    refine c_seq ?_
    refine c_region ?_
    refine st_buildSlice0 Tryd.underlying32 sz5 rfl ?_
    intro b1 w1 hb1 hB1 hK1 hS1
    have hR1 := hR.keep hK1 (by simp)
    rcases Nat.eq_zero_or_pos n with h0 | h0
    · subst h0
      have hx0 : xs = [] := List.eq_nil_of_length_eq_zero hl
      subst hx0
      have hO : Ow w1 b1 5 (vS b1 0 0) ([] : List Value) := Ow.empty hB1 (Nat.le_refl _)
      refine st (y_move rfl) rfl ?_
      obtain ⟨i5, hi1, hi2, hi3, hi4⟩ := info_parts inf5
      refine st_appendB (news := []) rfl rfl Tryd.underlying32 hi1 hi2 hi3 (by omega) rfl (rfl) (fun j u' hj => by simp at hj) (fun u hu => by simp at hu) (by assumption) (by first | omega | (simp only [List.length_map, List.length_nil, List.length_append, List.length_cons, List.length_take, List.length_drop]; omega) | simp) (by omega) (by omega) rfl ?_
      clear hi1 hi2 hi3 hi4
      intro v2 w2 hO2 hK2
      obtain ⟨A2, c2, rfl⟩ := hO2.form
      refine st (y_assign rfl) rfl ?_
      refine l_nil ?_
      refine q_then ?_
      refine c_ret ?_
      refine q_end1 (.inl rfl) rfl rfl ?_
      exact ⟨_, rfl, hK1.trans hK2 (fun j hj => by simp only [List.mem_singleton] at hj; exact .inr (by omega)), .inl ⟨rfl, A2, c2, rfl⟩⟩
    ·
      refine st (y_move rfl) rfl ?_
      obtain ⟨i2, hi1, hi2, hi3, hi4⟩ := info_parts inf5
      refine st_appendE (news := xs.map v8) rfl rfl Tryd.underlying32 hi1 hi2 hi3 (by omega) rfl (by simpa using hl) hR1.news8 h0 (by omega) rfl ?_
      clear hi1 hi2 hi3 hi4
      intro c' w2 hc1 hc2 hB2 hK2 hS2
      refine st (y_assign rfl) rfl ?_
      refine l_nil ?_
      refine q_then ?_
      refine c_ret ?_
      refine q_end1 (.inl rfl) rfl rfl ?_
      refine ⟨_, rfl, hK1.trans hK2 (by simp), .inr ⟨h0, _, c', rfl, hc1, by unfold maxLen at hc2; omega, by omega, ?_⟩⟩
      rw [List.map_append, List.map_replicate]
      exact hB2

end Go.Proofs.YtkemlhhpakjojaaDoor

/- Interface values, methods called through them, arrays as slices, values without cells; no statement of the program is proved here. -/
set_option linter.unusedVariables false
set_option linter.unusedSimpArgs false
namespace Go.Proofs.YtkemlhhpakjojaaDoor
open Go Go.RowKit
section
variable {P : Program} {ops : Array Oper} {Q : Exit → Act → World → Prop} {n : Nat} {D : List Deferred} {F : Fr} {rest : List Oper} {w : World} {T : TypeId} {pos : String} {af : Array Edge}
/-- a value as an interface value -/
theorem y_mkIface {x : Operand} {t e : TypeId} {v : Value} (hx : ev F x = some v) (ht : P.underlying t = some (.pointer e)) : Zv P w F (.makeInterface t x) T (.iface t v) w :=
  fun dst pos af gd ρ hρ => .inl (by simp [execOp, hρ _ _ hx, Instr.makeInterface, run_underlying ht])
/-- the check ahead of a method's call through an interface value that holds a pointer -/
theorem y_nilM {x : Operand} {t : TypeId} {a : Addr} {nm : String} (hx : ev F x = some (.func (.method nm) #[.iface t (.pointer (some a))] #[])) (hn : (nilAhead (P.types.size + Made.depth) t (.pointer (some a)) nm).run P w = .ok (some false) w) : Zv P w F (.nilCheck x) T (.func (.method nm) #[.iface t (.pointer (some a))] #[]) w :=
  fun dst pos af gd ρ hρ => .inl (by simp [execOp, hρ _ _ hx, run_program, hn])
/-- a method called through an interface value, with one argument more -/
theorem scM {d : Nat} {f : FuncId} {x y : Operand} {tys : Array TypeId} {t : TypeId} {u z : Value} {nm : String} {R : Value → World → Prop} (hx : ev F x = some (.iface t u)) (hy : ev F y = some z)
    (hm : (invoke (.fn (.method nm) #[]) #[.iface t u, z]).run P w = .ok (.enter f #[u, z]) w) (hc : Cal P f [u, z] w R) (hd : Nat.blt d n = true) (k : ∀ v w', R v w' → wpL P ops Q n D ((d, v) :: F) rest w') :
    wpL P ops Q n D F (⟨some d, .call ⟨.invoke x nm, #[y], tys⟩, T, pos, af, none⟩ :: rest) w := by
  intro a ha
  refine wpList_plain rfl fun K hK => ?_
  have h1 := ha.agree _ _ hx
  have h2 := ha.agree _ _ hy
  have he : (execOp a.eval ⟨some d, .call ⟨.invoke x nm, #[y], tys⟩, T, pos, af, none⟩).run P w = .ok (.enter f #[u, z]) w := by
    simp [execOp, resolve, h1, h2, hm]
  unfold Oper.wp
  rw [he]
  refine Calls.mono hc ?_
  rintro e w' ⟨v, rfl, hv⟩
  exact hK _ _ (k v w' hv _ (ha.put hd v))
/-- all of an array as a slice -/
theorem y_sliceArr {x : Operand} {t e : TypeId} {b m : Nat} (hx : ev F x = some (vP b)) (ht : P.underlying t = some (.array m e)) (he : tSize P e = some 1) : Zv P w F (.slice t x none none none) T (vS b m m) w :=
  fun dst pos af gd ρ hρ => .inl (by
    simp [execOp, hρ _ _ hx, Instr.sliceAt, run_underlying ht, Instr.sureAddr, Instr.sliceBounds, run_sizeOf he, Addr.add])
/-- xs[0:h] -/
theorem y_slice_0h {x lo hi : Operand} {t e : TypeId} {k k' : IntKind} {A : Option Addr} {n c h : Nat} (hx : ev F x = some (.slice A n c)) (hl : ev F lo = some (.int k ((0 : Nat) : Int))) (hh : ev F hi = some (.int k' (h : Int))) (ht : P.underlying t = some (.slice e)) (he : tSize P e = some 1) (h1 : h ≤ c) :
    Zv P w F (.slice t x (some lo) (some hi) none) T (.slice A h c) w :=
  fun dst pos af gd ρ hρ => .inl (by
    simp only [execOp, hρ _ _ hx, hρ _ _ hl, hρ _ _ hh, Option.map_some, Option.map_none, Sem.run_bind, run_sliceAt ht, Instr.slice, Instr.sliceBounds, run_underlying ht, Result.andThen_ok, run_bound (Nat.zero_le h), run_bound h1, Sem.run_pure, run_sizeOf he, Option.isSome_none, Nat.mul_one]
    cases A <;> simp [Addr.add])
/-- a value without cells, read -/
theorem y_load0 {x : Operand} {ad : Addr} {t : TypeId} (hx : ev F x = some (.pointer (some ad))) (ht : tOne P t = false) (hu : (P.underlying t).isSome = true) (hs : tSize P t = some 0) : Zv P w F (.load t x) T (.agg #[]) w :=
  fun dst pos af gd ρ hρ => .inl (by
    have h1 := run_isAgg' (P := P) (w := w) ht hu
    simp [execOp, hρ _ _ hx, Instr.loadAt, Instr.sureAddr, loadVar, h1, run_sizeOf hs, loadCells, loadCellsFrom])
theorem y_neqI {x : Operand} {t t' : TypeId} (hx : ev F x = some .nilIface) (h : P.isIface t = true) : Zv P w F (.binOp .neq t x (.const .nilIface) t') T (.bool false) w :=
  fun dst pos af gd ρ hρ => .inl (by
    have h2 := hρ (.const .nilIface) _ rfl
    have h3 := run_neq_nil_nil_at (P := P) w t h
    simp [execOp, hρ _ _ hx, h2, eqGuard, h3])
theorem y_eqlI {x : Operand} {t t' : TypeId} (hx : ev F x = some .nilIface) (h : P.isIface t = true) : Zv P w F (.binOp .eql t x (.const .nilIface) t') T (.bool true) w :=
  fun dst pos af gd ρ hρ => .inl (by
    have h2 := hρ (.const .nilIface) _ rfl
    have h3 := run_eql_nil_nil_at (P := P) w t h
    simp [execOp, hρ _ _ hx, h2, eqGuard, h3])
theorem y_neqV {x : Operand} {t t' u : TypeId} {v : Value} (hx : ev F x = some (.iface u v)) (h : P.isIface t = true) : Zv P w F (.binOp .neq t x (.const .nilIface) t') T (.bool true) w :=
  fun dst pos af gd ρ hρ => .inl (by
    have h2 := hρ (.const .nilIface) _ rfl
    have h3 := run_neq_iface_nil (P := P) w t h u v
    simp [execOp, hρ _ _ hx, h2, eqGuard, h3])
theorem y_eqlV {x : Operand} {t t' u : TypeId} {v : Value} (hx : ev F x = some (.iface u v)) (h : P.isIface t = true) : Zv P w F (.binOp .eql t x (.const .nilIface) t') T (.bool false) w :=
  fun dst pos af gd ρ hρ => .inl (by
    have h2 := hρ (.const .nilIface) _ rfl
    have h3 := run_eql_iface_nil (P := P) w t h u v
    simp [execOp, hρ _ _ hx, h2, eqGuard, h3])
end
end Go.Proofs.YtkemlhhpakjojaaDoor

/- Sets as lists of truths: what it is to put a number in, and the words of it; plain lemmas, without Go. -/
set_option linter.unusedVariables false
set_option linter.unusedSimpArgs false
namespace Go.Proofs.YtkemlhhpakjojaaDoor

/-- at least as long -/
def ext (s : List Bool) (n : Nat) : List Bool := s ++ List.replicate (n - s.length) false
def put (s : List Bool) (i : Nat) (b : Bool) : List Bool := (ext s (i + 1)).set i b
def bnot (s : List Bool) : List Bool := s.map (!·)

theorem ext_length (s : List Bool) (n : Nat) : (ext s n).length = max s.length n := by simp [ext]; omega
theorem ext_getD (s : List Bool) (n i : Nat) : (ext s n).getD i false = s.getD i false := by
  unfold ext
  rw [List.getD_eq_getElem?_getD, List.getD_eq_getElem?_getD]
  rcases Nat.lt_or_ge i s.length with h | h
  · rw [List.getElem?_append_left h]
  · rw [List.getElem?_append_right h, List.getElem?_replicate, List.getElem?_eq_none h]
    split <;> rfl
theorem ext_of_le {s : List Bool} {n : Nat} (h : n ≤ s.length) : ext s n = s := by simp [ext, Nat.sub_eq_zero_of_le h]
theorem put_length (s : List Bool) (i : Nat) (b : Bool) : (put s i b).length = max s.length (i + 1) := by simp [put, ext_length]
theorem set_getD (s : List Bool) (i j : Nat) (b : Bool) (h : i < s.length) : (s.set i b).getD j false = if j = i then b else s.getD j false := by
  rw [List.getD_eq_getElem?_getD, List.getD_eq_getElem?_getD, List.getElem?_set]
  by_cases e : i = j
  · subst e; simp [h]
  · simp [e, Ne.symm e]
theorem put_getD (s : List Bool) (i j : Nat) (b : Bool) : (put s i b).getD j false = if j = i then b else s.getD j false := by
  unfold put
  rw [set_getD _ _ _ _ (by rw [ext_length]; omega), ext_getD]
theorem put_of_lt {s : List Bool} {i : Nat} (b : Bool) (h : i < s.length) : put s i b = s.set i b := by rw [put, ext_of_le (by omega)]

theorem replicate_getD (n i : Nat) : (List.replicate n false).getD i false = false := by
  rw [List.getD_eq_getElem?_getD, List.getElem?_replicate]
  split <;> rfl
theorem pack_zeros (n : Nat) : pack (List.replicate n false) = List.replicate (nW n) 0 := by
  symm
  apply pack_unique
  · simp
  · intro x hx; have := List.eq_of_mem_replicate hx; omega
  · intro i _; rw [wbit_zeros, replicate_getD]
theorem zeros_lt (n : Nat) : ∀ x ∈ List.replicate n 0, x < 18446744073709551616 := by intro x hx; have := List.eq_of_mem_replicate hx; omega
theorem append_lt {ws vs : List Nat} (h1 : ∀ x ∈ ws, x < 18446744073709551616) (h2 : ∀ x ∈ vs, x < 18446744073709551616) : ∀ x ∈ ws ++ vs, x < 18446744073709551616 := by
  intro x hx
  rcases List.mem_append.1 hx with h | h
  · exact h1 x h
  · exact h2 x h
theorem pack_ext (s : List Bool) (n : Nat) (h : s.length ≤ n) : pack (ext s n) = pack s ++ List.replicate (nW n - nW s.length) 0 := by
  symm
  have hle : nW s.length ≤ nW n := by unfold nW; omega
  apply pack_unique
  · rw [List.length_append, pack_length, List.length_replicate, ext_length, Nat.max_eq_right h]; omega
  · exact append_lt (pack_lt s) (zeros_lt _)
  · intro i _
    rw [wbit_append, ext_getD, wbit_pack, wbit_zeros, pack_length]
    split
    · rfl
    · rename_i hi
      rw [getD_ge s false (by unfold nW at hi; omega)]

theorem testBit_one_shl (k i : Nat) (hk : k < 64) : ((1 <<< k) % 18446744073709551616).testBit i = decide (i = k) := by
  rw [testBit_shl, testBit_one]
  by_cases h : i = k
  · subst h; simp [hk]
  · by_cases h2 : k ≤ i
    · simp [h, show ¬ i - k = 0 by omega]
    · simp [h, h2]
theorem pack_set (s : List Bool) (i : Nat) (h : i < s.length) : (pack s).set (i / 64) ((pack s).getD (i / 64) 0 ||| (1 <<< (i % 64)) % 18446744073709551616) = pack (s.set i true) := by
  have hj : i / 64 < (pack s).length := by rw [pack_length]; unfold nW; omega
  have hm : i % 64 < 64 := Nat.mod_lt _ (by decide)
  apply pack_unique
  · simp [pack_length]
  · exact set_lt64 (pack_lt s) (Nat.or_lt_two_pow (n := 64) (pack_getD_lt s _) (Nat.mod_lt _ (by decide)))
  · intro k _
    rw [wbit_set _ _ _ _ hj, set_getD _ _ _ _ h]
    by_cases e : k / 64 = i / 64
    · rw [if_pos e, Nat.testBit_or, testBit_one_shl _ _ hm, pack_getD, wordAt_testBit]
      have hk : k % 64 < 64 := Nat.mod_lt _ (by decide)
      by_cases e2 : k = i
      · subst e2; simp
      · rw [if_neg e2, show 64 * (i / 64) + k % 64 = k by omega]
        simp [hk, show ¬ k % 64 = i % 64 by omega]
    · rw [if_neg e, wbit_pack, if_neg (by omega)]

theorem and_one_shl_ne (m k : Nat) (hk : k < 64) : decide (m &&& (1 <<< k) % 18446744073709551616 ≠ 0) = m.testBit k := by
  cases hb : m.testBit k with
  | true =>
    apply decide_eq_true
    intro h
    have h2 : (m &&& (1 <<< k) % 18446744073709551616).testBit k = true := by rw [Nat.testBit_and, testBit_one_shl _ _ hk, hb]; simp
    rw [h] at h2
    simp at h2
  | false =>
    apply decide_eq_false
    intro h
    apply h
    apply Nat.eq_of_testBit_eq
    intro i
    rw [Nat.testBit_and, testBit_one_shl _ _ hk]
    by_cases e : i = k
    · subst e; simp [hb]
    · simp [e]

/-! ### the set of numbers in any order -/
def mkS (L : Nat) (xs : List Nat) : List Bool := xs.foldl (fun s i => put s i true) (List.replicate L false)
theorem mkS_snoc (L : Nat) (xs : List Nat) (x : Nat) : mkS L (xs ++ [x]) = put (mkS L xs) x true := by simp [mkS]
theorem mkS_length_le (L B : Nat) (xs : List Nat) (hL : L ≤ B) (h : ∀ x ∈ xs, x < B) : (mkS L xs).length ≤ B := by
  have key : ∀ (xs : List Nat) (s : List Bool), s.length ≤ B → (∀ x ∈ xs, x < B) → (xs.foldl (fun s i => put s i true) s).length ≤ B := by
    intro xs
    induction xs with
    | nil => intro s hs _; exact hs
    | cons x r ih =>
      intro s hs hx
      exact ih _ (by rw [put_length]; have := hx x (List.mem_cons_self ..); omega) (fun y hy => hx y (List.mem_cons_of_mem _ hy))
  exact key xs _ (by simpa using hL) h
theorem take_succ_getD (xs : List Nat) (k : Nat) (h : k < xs.length) : xs.take (k + 1) = xs.take k ++ [xs.getD k 0] := by
  rw [List.take_succ_eq_append_getElem h]
  simp [List.getD_eq_getElem?_getD, h]
theorem foldl_put_getD (xs : List Nat) : ∀ (s : List Bool) (j : Nat), (xs.foldl (fun s i => put s i true) s).getD j false = (decide (j ∈ xs) || s.getD j false) := by
  induction xs with
  | nil => intro s j; simp
  | cons x r ih =>
    intro s j
    rw [List.foldl_cons, ih, put_getD]
    by_cases h : j = x
    · subst h; simp
    · simp [h]
theorem mkS_getD (L : Nat) (xs : List Nat) (j : Nat) : (mkS L xs).getD j false = decide (j ∈ xs) := by
  unfold mkS
  rw [foldl_put_getD, replicate_getD, Bool.or_false]
def mkN (L : Nat) (xs : List Nat) : Nat := xs.foldl (fun n x => max n (x + 1)) L
theorem mkN_snoc (L : Nat) (xs : List Nat) (x : Nat) : mkN L (xs ++ [x]) = max (mkN L xs) (x + 1) := by simp [mkN]
theorem foldl_put_length (xs : List Nat) : ∀ (s : List Bool), (xs.foldl (fun s i => put s i true) s).length = xs.foldl (fun n x => max n (x + 1)) s.length := by
  induction xs with
  | nil => intro s; rfl
  | cons x r ih => intro s; rw [List.foldl_cons, ih, put_length, List.foldl_cons]
theorem mkS_length (L : Nat) (xs : List Nat) : (mkS L xs).length = mkN L xs := by
  unfold mkS mkN
  rw [foldl_put_length, List.length_replicate]
theorem mkN_ge (L : Nat) (xs : List Nat) : L ≤ mkN L xs ∧ ∀ x ∈ xs, x < mkN L xs := by
  have key : ∀ (xs : List Nat) (n : Nat), n ≤ xs.foldl (fun n x => max n (x + 1)) n ∧ ∀ x ∈ xs, x < xs.foldl (fun n x => max n (x + 1)) n := by
    intro xs
    induction xs with
    | nil => intro n; simp
    | cons x r ih =>
      intro n
      obtain ⟨h1, h2⟩ := ih (max n (x + 1))
      refine ⟨by rw [List.foldl_cons]; omega, ?_⟩
      intro y hy
      rw [List.foldl_cons]
      rcases List.mem_cons.1 hy with rfl | h
      · omega
      · exact h2 y h
  exact key xs L
theorem mkN_le (L B : Nat) (xs : List Nat) (hL : L ≤ B) (h : ∀ x ∈ xs, x < B) : mkN L xs ≤ B := by rw [← mkS_length]; exact mkS_length_le L B xs hL h
/-- all numbers of xs set in a list -/
def setAll (s : List Bool) (xs : List Nat) : List Bool := xs.foldl (fun s x => s.set x true) s
theorem setAll_snoc (s : List Bool) (xs : List Nat) (x : Nat) : setAll s (xs ++ [x]) = (setAll s xs).set x true := by simp [setAll]
theorem setAll_length (s : List Bool) (xs : List Nat) : (setAll s xs).length = s.length := by
  unfold setAll
  induction xs generalizing s with
  | nil => rfl
  | cons x r ih => rw [List.foldl_cons, ih]; simp
theorem setAll_getD (xs : List Nat) : ∀ (s : List Bool) (j : Nat), (∀ x ∈ xs, x < s.length) → (setAll s xs).getD j false = (decide (j ∈ xs) || s.getD j false) := by
  induction xs with
  | nil => intro s j _; simp [setAll]
  | cons x r ih =>
    intro s j h
    have e : setAll s (x :: r) = setAll (s.set x true) r := rfl
    rw [e, ih _ _ (fun y hy => by simpa using h y (List.mem_cons_of_mem _ hy)), set_getD _ _ _ _ (h x (List.mem_cons_self ..))]
    by_cases hj : j = x
    · subst hj; simp
    · simp [hj]
theorem setAll_eq (L : Nat) (xs : List Nat) : setAll (List.replicate (mkN L xs) false) xs = mkS L xs := by
  apply bool_ext
  · rw [setAll_length, mkS_length, List.length_replicate]
  · intro i _
    rw [setAll_getD _ _ _ (by simpa using (mkN_ge L xs).2), mkS_getD, replicate_getD, Bool.or_false]
end Go.Proofs.YtkemlhhpakjojaaDoor

/- The bytes of a set: its length and its words, the highest byte first. -/
set_option linter.unusedVariables false
set_option linter.unusedSimpArgs false
namespace Go.Proofs.YtkemlhhpakjojaaDoor

/-- a word's bytes, the highest first -/
def be8 (x : Nat) : List Nat := (List.range 8).map fun t => (x >>> (56 - 8 * t)) % 256
theorem be8_len (x : Nat) : (be8 x).length = 8 := by simp [be8]
theorem be8_lt (x : Nat) : ∀ y ∈ be8 x, y < 256 := fun y hy => by
  unfold be8 at hy
  obtain ⟨t, _, rfl⟩ := List.mem_map.1 hy
  omega
theorem be8_take {x u : Nat} (h : u < 8) : (be8 x).take (u + 1) = (be8 x).take u ++ [(x >>> (56 - 8 * u)) % 256] := by
  have hl := be8_len x
  rw [List.take_add_one, List.getElem?_eq_getElem (by omega)]
  simp [be8]
/-- words as bytes -/
def byt (ws : List Nat) : List Nat := ws.flatMap be8
theorem byt_len (ws : List Nat) : (byt ws).length = 8 * ws.length := by
  unfold byt
  induction ws with
  | nil => rfl
  | cons a r ih => rw [List.flatMap_cons, List.length_append, ih, be8_len, List.length_cons]; omega
theorem byt_lt (ws : List Nat) : ∀ y ∈ byt ws, y < 256 := fun y hy => by
  obtain ⟨x, _, h⟩ := List.mem_flatMap.1 hy
  exact be8_lt x y h
theorem byt_take {ws : List Nat} {k : Nat} (h : k < ws.length) : byt (ws.take (k + 1)) = byt (ws.take k) ++ be8 (ws.getD k 0) := by
  unfold byt
  rw [List.take_add_one, List.getD_eq_getElem?_getD, List.getElem?_eq_getElem h, List.flatMap_append]
  simp
/-- the bytes of a set -/
def setB (s : List Bool) : List Nat := byt (s.length :: pack s)
theorem setB_len (s : List Bool) : (setB s).length = 8 + 8 * nW s.length := by
  unfold setB
  rw [byt_len, List.length_cons, pack_length]; omega
theorem setB_lt (s : List Bool) : ∀ y ∈ setB s, y < 256 := byt_lt _
/-- the first k members -/
def upto (s : List Bool) (k : Nat) : List Bool := s.take k ++ List.replicate (s.length - k) false
theorem upto_len {s : List Bool} {k : Nat} (h : k ≤ s.length) : (upto s k).length = s.length := by unfold upto; simp; omega
theorem upto_zero (s : List Bool) : upto s 0 = List.replicate s.length false := by simp [upto]
theorem upto_full (s : List Bool) : upto s s.length = s := by simp [upto]
theorem upto_true {s : List Bool} {k : Nat} (h : k < s.length) (hb : s.getD k false = true) : (upto s k).set k true = upto s (k + 1) := by
  unfold upto
  rw [List.set_append_right _ _ (by simp; omega)]
  obtain ⟨m, hm⟩ : ∃ m, s.length - k = m + 1 := ⟨s.length - k - 1, by omega⟩
  have e : s.take (k + 1) = s.take k ++ [true] := by
    rw [List.take_add_one, List.getElem?_eq_getElem h]
    rw [List.getD_eq_getElem?_getD, List.getElem?_eq_getElem h] at hb
    simp only [Option.getD_some] at hb
    simp [hb]
  rw [e, hm, show s.length - (k + 1) = m by omega, List.length_take, Nat.min_eq_left (by omega), Nat.sub_self, List.replicate_succ, List.set_cons_zero, List.append_assoc]
  rfl
theorem upto_false {s : List Bool} {k : Nat} (h : k < s.length) (hb : s.getD k false = false) : upto s k = upto s (k + 1) := by
  unfold upto
  obtain ⟨m, hm⟩ : ∃ m, s.length - k = m + 1 := ⟨s.length - k - 1, by omega⟩
  have e : s.take (k + 1) = s.take k ++ [false] := by
    rw [List.take_add_one, List.getElem?_eq_getElem h]
    rw [List.getD_eq_getElem?_getD, List.getElem?_eq_getElem h] at hb
    simp only [Option.getD_some] at hb
    simp [hb]
  rw [e, hm, show s.length - (k + 1) = m by omega, List.replicate_succ, List.append_assoc]
  rfl

end Go.Proofs.YtkemlhhpakjojaaDoor

/- Eight bytes put together are the word that they were taken from; the first bytes of a set tell its length. -/
set_option linter.unusedVariables false
set_option linter.unusedSimpArgs false
namespace Go.Proofs.YtkemlhhpakjojaaDoor

theorem getD_lt8 {l : List Nat} (h : ∀ x ∈ l, x < 256) (i : Nat) : l.getD i 0 < 256 := by
  rcases Nat.lt_or_ge i l.length with h1 | h1
  · rw [List.getD_eq_getElem?_getD, List.getElem?_eq_getElem h1]; exact h _ (List.getElem_mem _)
  · rw [List.getD_eq_getElem?_getD, List.getElem?_eq_none h1]; decide
/-- eight bytes as a word, as the package puts them together -/
def un8 (l : List Nat) (o : Nat) : Nat :=
  (((((((l.getD (o + 7) 0 ||| (l.getD (o + 6) 0 <<< 8) % 18446744073709551616) ||| (l.getD (o + 5) 0 <<< 16) % 18446744073709551616) ||| (l.getD (o + 4) 0 <<< 24) % 18446744073709551616) ||| (l.getD (o + 3) 0 <<< 32) % 18446744073709551616) ||| (l.getD (o + 2) 0 <<< 40) % 18446744073709551616) ||| (l.getD (o + 1) 0 <<< 48) % 18446744073709551616) ||| (l.getD (o + 0) 0 <<< 56) % 18446744073709551616)

theorem or_step (x k : Nat) (h : k + 8 ≤ 64) : x % 2 ^ k ||| (((x >>> k) % 256) <<< k) % 18446744073709551616 = x % 2 ^ (k + 8) := by
  rw [show (18446744073709551616 : Nat) = 2 ^ 64 by decide, show (256 : Nat) = 2 ^ 8 by decide]
  apply Nat.eq_of_testBit_eq
  intro i
  simp only [Nat.testBit_or, Nat.testBit_mod_two_pow, Nat.testBit_shiftLeft, Nat.testBit_shiftRight]
  by_cases h1 : i < k
  · have h2 : ¬ k ≤ i := by omega
    have h3 : i < k + 8 := by omega
    simp [h1, h2, h3]
  · have h2 : k ≤ i := by omega
    have e : k + (i - k) = i := by omega
    by_cases h3 : i < k + 8
    · have h4 : i - k < 8 := by omega
      have h5 : i < 64 := by omega
      simp [h1, h2, h3, h4, h5, e]
    · have h4 : ¬ i - k < 8 := by omega
      simp [h1, h3, h4]
theorem un8_of {l : List Nat} {o x : Nat} (hx : x < 18446744073709551616) (h : ∀ t, t < 8 → l.getD (o + t) 0 = (x >>> (56 - 8 * t)) % 256) : un8 l o = x := by
  have h0 : (x >>> 0) % 256 = x % 2 ^ 8 := by simp
  unfold un8
  rw [h 7 (by decide), h 6 (by decide), h 5 (by decide), h 4 (by decide), h 3 (by decide), h 2 (by decide), h 1 (by decide), h 0 (by decide)]
  simp only [show 56 - 8 * 7 = 0 by decide, show 56 - 8 * 6 = 8 by decide, show 56 - 8 * 5 = 16 by decide, show 56 - 8 * 4 = 24 by decide, show 56 - 8 * 3 = 32 by decide, show 56 - 8 * 2 = 40 by decide, show 56 - 8 * 1 = 48 by decide, show 56 - 8 * 0 = 56 by decide]
  rw [h0, or_step x 8 (by decide), or_step x 16 (by decide), or_step x 24 (by decide), or_step x 32 (by decide), or_step x 40 (by decide), or_step x 48 (by decide), or_step x 56 (by decide)]
  exact Nat.mod_eq_of_lt hx
theorem be8_getD {x t : Nat} (h : t < 8) : (be8 x).getD t 0 = (x >>> (56 - 8 * t)) % 256 := by
  unfold be8
  rw [List.getD_eq_getElem?_getD, List.getElem?_map, List.getElem?_range h]
  rfl
theorem byt_getD {ws : List Nat} {k t : Nat} (h : k < ws.length) (ht : t < 8) : (byt ws).getD (8 * k + t) 0 = (ws.getD k 0 >>> (56 - 8 * t)) % 256 := by
  have e := byt_take h
  have hl := byt_len (ws.take k)
  rw [List.length_take, Nat.min_eq_left (by omega)] at hl
  have h2 : byt ws = byt (ws.take (k + 1)) ++ byt (ws.drop (k + 1)) := by
    unfold byt
    rw [← List.flatMap_append, List.take_append_drop]
  have h8 := be8_len (ws.getD k 0)
  rw [h2, e, List.getD_eq_getElem?_getD, List.getElem?_append_left (by rw [List.length_append]; omega), List.getElem?_append_right (by omega), hl, ← List.getD_eq_getElem?_getD, show 8 * k + t - 8 * k = t by omega, be8_getD ht]
/-- the word at place k of words' bytes (with more behind them, or a row's start) -/
theorem un8_byt {ws l : List Nat} {k o : Nat} (hw : ∀ x ∈ ws, x < 18446744073709551616) (hk : k < ws.length) (hl : ∀ t, t < 8 → l.getD (o + t) 0 = (byt ws).getD (8 * k + t) 0) : un8 l o = ws.getD k 0 :=
  un8_of (by rw [List.getD_eq_getElem?_getD, List.getElem?_eq_getElem hk]; exact hw _ (List.getElem_mem _)) fun t ht => by rw [hl t ht, byt_getD hk ht]

/-- the first bytes as a number -/
def sm (l : List Nat) : Nat → Nat
  | 0 => 0
  | k + 1 => (sm l k <<< 8) % 18446744073709551616 ||| l.getD k 0
theorem sm_step (x k : Nat) (hx : x < 18446744073709551616) (h : k < 8) : ((x >>> (64 - 8 * k)) <<< 8) % 18446744073709551616 ||| ((x >>> (56 - 8 * k)) % 256) = x >>> (64 - 8 * (k + 1)) := by
  rw [show (18446744073709551616 : Nat) = 2 ^ 64 by decide] at hx ⊢
  rw [show (256 : Nat) = 2 ^ 8 by decide]
  apply Nat.eq_of_testBit_eq
  intro i
  simp only [Nat.testBit_or, Nat.testBit_mod_two_pow, Nat.testBit_shiftLeft, Nat.testBit_shiftRight]
  by_cases h1 : i < 8
  · have h2 : ¬ 8 ≤ i := by omega
    simp [h1, h2, show 64 - 8 * (k + 1) = 56 - 8 * k by omega]
  · have h2 : 8 ≤ i := by omega
    have e : 64 - 8 * k + (i - 8) = 64 - 8 * (k + 1) + i := by omega
    simp only [h1, h2, e, decide_true, decide_false, Bool.true_and, Bool.false_and, Bool.or_false]
    by_cases h3 : i < 64
    · simp [h3]
    · have : x.testBit (64 - 8 * (k + 1) + i) = false := Nat.testBit_lt_two_pow (Nat.lt_of_lt_of_le hx (Nat.pow_le_pow_right (by decide) (by omega)))
      rw [this]; simp
theorem sm_of {l : List Nat} {x : Nat} (hx : x < 18446744073709551616) (k : Nat) (hk : k ≤ 8) (h : ∀ t, t < k → l.getD t 0 = (x >>> (56 - 8 * t)) % 256) : sm l k = x >>> (64 - 8 * k) := by
  induction k with
  | zero =>
    unfold sm
    rw [Nat.mul_zero, Nat.sub_zero, Nat.shiftRight_eq_div_pow]
    exact (Nat.div_eq_of_lt (by rw [show 2 ^ 64 = 18446744073709551616 by decide]; exact hx)).symm
  | succ k ih =>
    unfold sm
    rw [ih (by omega) fun t ht => h t (by omega), h k (by omega), sm_step x k hx (by omega)]
theorem sm_le {l : List Nat} {x : Nat} (hx : x < 18446744073709551616) (k : Nat) (hk : k ≤ 8) (h : ∀ t, t < k → l.getD t 0 = (x >>> (56 - 8 * t)) % 256) : sm l k ≤ x := by
  rw [sm_of hx k hk h, Nat.shiftRight_eq_div_pow]
  exact Nat.div_le_self _ _
end Go.Proofs.YtkemlhhpakjojaaDoor

/- The length in the first bytes; a reader of bytes is made; each by its contract. -/
set_option linter.unusedVariables false
set_option linter.unusedSimpArgs false
set_option maxRecDepth 100000
set_option maxHeartbeats 1000000
namespace Go.Proofs.YtkemlhhpakjojaaDoor
open Go Go.RowKit

theorem c_NewReader (A : Option Addr) (n c : Nat) (w : World) : Cal Tryd.prog 18 [.slice A n c] w fun v w' => ∃ b, v = vP b ∧ b = w.heap.size ∧ Blk w' b 74 [.slice A n c, vI 0, vI (-1)] ∧ Keep w w' [] := by
  refine go_in' Tryd.func18 rfl Tryd.ntmps18 (Nat.le_of_ble_eq_true rfl) ?_
  refine c_seq ?_
  refine c_region ?_
  refine st (y_assign rfl) rfl ?_
  refine l_nil ?_
  refine q_then ?_
  refine c_seq ?_
  refine c_region ?_
  refine st (y_move rfl) rfl ?_
  refine st (bld74_0_1_2 rfl rfl rfl) rfl ?_
  refine st_box _ rfl rfl rfl ?_
  intro b1 w1 hb1 hB1 hK1 hS1
  refine st (y_assign rfl) rfl ?_
  refine l_nil ?_
  refine q_then ?_
  refine c_ret ?_
  refine q_end1 (.inl rfl) rfl rfl ?_
  exact ⟨_, rfl, b1, rfl, hb1.symm, hB1, hK1⟩

theorem c_Uint64 (q o n c : Nat) (T : TypeId) (l : List Nat) (w : World) (hB : Blk w q T (l.map v8)) (hl8 : ∀ x ∈ l, x < 256) (hn : 8 ≤ n) (ho : o + 8 ≤ l.length) :
    Cal Tryd.prog 23 [.agg #[], .slice (some ⟨q, o, none⟩) n c] w fun v w' => v = vU (un8 l o) ∧ Keep w w' [] := by
  have hh7 : l.getD (o + 7) 0 < 18446744073709551616 := Nat.lt_trans (getD_lt8 hl8 _) (by decide)
  have hh6 := or_lt64 hh7 (shl_lt64 (l.getD (o + 6) 0) 8)
  have hh5 := or_lt64 hh6 (shl_lt64 (l.getD (o + 5) 0) 16)
  have hh4 := or_lt64 hh5 (shl_lt64 (l.getD (o + 4) 0) 24)
  have hh3 := or_lt64 hh4 (shl_lt64 (l.getD (o + 3) 0) 32)
  have hh2 := or_lt64 hh3 (shl_lt64 (l.getD (o + 2) 0) 40)
  have hh1 := or_lt64 hh2 (shl_lt64 (l.getD (o + 1) 0) 48)
  have hh0 := or_lt64 hh1 (shl_lt64 (l.getD (o + 0) 0) 56)
  refine go_in' Tryd.func23 rfl Tryd.ntmps23 (Nat.le_of_ble_eq_true rfl) ?_
  refine c_seq ?_
  refine c_region ?_
  refine st_box _ rfl rfl rfl ?_
  intro b1 w1 hb1 hBb hK1 hS1
  have hB := hB.keep hK1 (by simp only [List.mem_cons, List.not_mem_nil, or_false, not_or, not_false_eq_true] <;> omega)
  refine st (y_assign (v := vU 0) rfl) rfl ?_
  refine l_nil ?_
  refine q_then ?_
  refine c_seq ?_
  refine c_region ?_
  refine st (y_move rfl) rfl ?_
  first | refine st (y_index0 (i := 7) rfl rfl Tryd.underlying32 sz5 (by omega)) rfl ?_ | refine st (y_index (i := 7) rfl rfl Tryd.underlying32 sz5 (by omega)) rfl ?_ | refine st (y_indexA (i := 7) rfl rfl Tryd.underlying32 sz5 (by omega)) rfl ?_
  first | refine st (y_loadM (0) rfl one5 (by assumption) (by first | omega | (simp only [List.length_append, List.length_map, List.length_replicate, List.length_set, List.length_take, List.length_drop]; omega) | (simp; done))) rfl ?_ | refine st (y_load rfl one5 (by assumption)) rfl ?_
  refine l_nil ?_
  refine q_then ?_
  refine c_seq ?_
  have hB := hB.drew
  refine c_still mixed (by kernel_rfl) ?_
  refine ss (y_move rfl) rfl ?_
  first | refine ss (y_index0 (i := 7) rfl rfl Tryd.underlying32 sz5 (by omega)) rfl ?_ | refine ss (y_index (i := 7) rfl rfl Tryd.underlying32 sz5 (by omega)) rfl ?_ | refine ss (y_indexA (i := 7) rfl rfl Tryd.underlying32 sz5 (by omega)) rfl ?_
  first | refine ss (y_loadM (0) rfl one5 (by assumption) (by first | omega | (simp only [List.length_append, List.length_map, List.length_replicate, List.length_set, List.length_take, List.length_drop]; omega) | (simp; done))) rfl ?_ | refine ss (y_load rfl one5 (by assumption)) rfl ?_
  refine ss (y_conv_8u rfl us5 Tryd.underlying43 (by first | omega | exact getD_lt8 (by assumption) _)) rfl ?_
  refine ss (y_move rfl) rfl ?_
  first | refine ss (y_index0 (i := 6) rfl rfl Tryd.underlying32 sz5 (by omega)) rfl ?_ | refine ss (y_index (i := 6) rfl rfl Tryd.underlying32 sz5 (by omega)) rfl ?_ | refine ss (y_indexA (i := 6) rfl rfl Tryd.underlying32 sz5 (by omega)) rfl ?_
  first | refine ss (y_loadM (0) rfl one5 (by assumption) (by first | omega | (simp only [List.length_append, List.length_map, List.length_replicate, List.length_set, List.length_take, List.length_drop]; omega) | (simp; done))) rfl ?_ | refine ss (y_load rfl one5 (by assumption)) rfl ?_
  refine ss (y_conv_8u rfl us5 Tryd.underlying43 (by first | omega | exact getD_lt8 (by assumption) _)) rfl ?_
  refine ss (y_shl (k := 8) rfl rfl) rfl ?_
  refine ss (y_or rfl rfl hh7 (shl_lt64 _ _)) rfl ?_
  refine ss (y_move rfl) rfl ?_
  first | refine ss (y_index0 (i := 5) rfl rfl Tryd.underlying32 sz5 (by omega)) rfl ?_ | refine ss (y_index (i := 5) rfl rfl Tryd.underlying32 sz5 (by omega)) rfl ?_ | refine ss (y_indexA (i := 5) rfl rfl Tryd.underlying32 sz5 (by omega)) rfl ?_
  first | refine ss (y_loadM (0) rfl one5 (by assumption) (by first | omega | (simp only [List.length_append, List.length_map, List.length_replicate, List.length_set, List.length_take, List.length_drop]; omega) | (simp; done))) rfl ?_ | refine ss (y_load rfl one5 (by assumption)) rfl ?_
  refine ss (y_conv_8u rfl us5 Tryd.underlying43 (by first | omega | exact getD_lt8 (by assumption) _)) rfl ?_
  refine ss (y_shl (k := 16) rfl rfl) rfl ?_
  refine ss (y_or rfl rfl hh6 (shl_lt64 _ _)) rfl ?_
  refine ss (y_move rfl) rfl ?_
  first | refine ss (y_index0 (i := 4) rfl rfl Tryd.underlying32 sz5 (by omega)) rfl ?_ | refine ss (y_index (i := 4) rfl rfl Tryd.underlying32 sz5 (by omega)) rfl ?_ | refine ss (y_indexA (i := 4) rfl rfl Tryd.underlying32 sz5 (by omega)) rfl ?_
  first | refine ss (y_loadM (0) rfl one5 (by assumption) (by first | omega | (simp only [List.length_append, List.length_map, List.length_replicate, List.length_set, List.length_take, List.length_drop]; omega) | (simp; done))) rfl ?_ | refine ss (y_load rfl one5 (by assumption)) rfl ?_
  refine ss (y_conv_8u rfl us5 Tryd.underlying43 (by first | omega | exact getD_lt8 (by assumption) _)) rfl ?_
  refine ss (y_shl (k := 24) rfl rfl) rfl ?_
  refine ss (y_or rfl rfl hh5 (shl_lt64 _ _)) rfl ?_
  refine ss (y_move rfl) rfl ?_
  first | refine ss (y_index0 (i := 3) rfl rfl Tryd.underlying32 sz5 (by omega)) rfl ?_ | refine ss (y_index (i := 3) rfl rfl Tryd.underlying32 sz5 (by omega)) rfl ?_ | refine ss (y_indexA (i := 3) rfl rfl Tryd.underlying32 sz5 (by omega)) rfl ?_
  first | refine ss (y_loadM (0) rfl one5 (by assumption) (by first | omega | (simp only [List.length_append, List.length_map, List.length_replicate, List.length_set, List.length_take, List.length_drop]; omega) | (simp; done))) rfl ?_ | refine ss (y_load rfl one5 (by assumption)) rfl ?_
  refine ss (y_conv_8u rfl us5 Tryd.underlying43 (by first | omega | exact getD_lt8 (by assumption) _)) rfl ?_
  refine ss (y_shl (k := 32) rfl rfl) rfl ?_
  refine ss (y_or rfl rfl hh4 (shl_lt64 _ _)) rfl ?_
  refine ss (y_move rfl) rfl ?_
  first | refine ss (y_index0 (i := 2) rfl rfl Tryd.underlying32 sz5 (by omega)) rfl ?_ | refine ss (y_index (i := 2) rfl rfl Tryd.underlying32 sz5 (by omega)) rfl ?_ | refine ss (y_indexA (i := 2) rfl rfl Tryd.underlying32 sz5 (by omega)) rfl ?_
  first | refine ss (y_loadM (0) rfl one5 (by assumption) (by first | omega | (simp only [List.length_append, List.length_map, List.length_replicate, List.length_set, List.length_take, List.length_drop]; omega) | (simp; done))) rfl ?_ | refine ss (y_load rfl one5 (by assumption)) rfl ?_
  refine ss (y_conv_8u rfl us5 Tryd.underlying43 (by first | omega | exact getD_lt8 (by assumption) _)) rfl ?_
  refine ss (y_shl (k := 40) rfl rfl) rfl ?_
  refine ss (y_or rfl rfl hh3 (shl_lt64 _ _)) rfl ?_
  refine ss (y_move rfl) rfl ?_
  first | refine ss (y_index0 (i := 1) rfl rfl Tryd.underlying32 sz5 (by omega)) rfl ?_ | refine ss (y_index (i := 1) rfl rfl Tryd.underlying32 sz5 (by omega)) rfl ?_ | refine ss (y_indexA (i := 1) rfl rfl Tryd.underlying32 sz5 (by omega)) rfl ?_
  first | refine ss (y_loadM (0) rfl one5 (by assumption) (by first | omega | (simp only [List.length_append, List.length_map, List.length_replicate, List.length_set, List.length_take, List.length_drop]; omega) | (simp; done))) rfl ?_ | refine ss (y_load rfl one5 (by assumption)) rfl ?_
  refine ss (y_conv_8u rfl us5 Tryd.underlying43 (by first | omega | exact getD_lt8 (by assumption) _)) rfl ?_
  refine ss (y_shl (k := 48) rfl rfl) rfl ?_
  refine ss (y_or rfl rfl hh2 (shl_lt64 _ _)) rfl ?_
  refine ss (y_move rfl) rfl ?_
  first | refine ss (y_index0 (i := 0) rfl rfl Tryd.underlying32 sz5 (by omega)) rfl ?_ | refine ss (y_index (i := 0) rfl rfl Tryd.underlying32 sz5 (by omega)) rfl ?_ | refine ss (y_indexA (i := 0) rfl rfl Tryd.underlying32 sz5 (by omega)) rfl ?_
  first | refine ss (y_loadM (0) rfl one5 (by assumption) (by first | omega | (simp only [List.length_append, List.length_map, List.length_replicate, List.length_set, List.length_take, List.length_drop]; omega) | (simp; done))) rfl ?_ | refine ss (y_load rfl one5 (by assumption)) rfl ?_
  refine ss (y_conv_8u rfl us5 Tryd.underlying43 (by first | omega | exact getD_lt8 (by assumption) _)) rfl ?_
  refine ss (y_shl (k := 56) rfl rfl) rfl ?_
  refine ss (y_or rfl rfl hh1 (shl_lt64 _ _)) rfl ?_
  refine ss (y_assign rfl) rfl ?_
  refine s_nil ?_
  refine q_then ?_
  refine c_ret ?_
  refine q_end1 (.inl rfl) rfl rfl ?_
  exact ⟨_, rfl, rfl, hK1.trans (Keep.drew w1 []) (by simp)⟩

end Go.Proofs.YtkemlhhpakjojaaDoor

/- Two interface values that hold pointers of one type, compared; no statement of the program is proved here. -/
set_option linter.unusedVariables false
set_option linter.unusedSimpArgs false
namespace Go.Proofs.YtkemlhhpakjojaaDoor
open Go Go.RowKit
section
variable {P : Program} {F : Fr} {w : World} {T : TypeId}
/-- The facts on the types of such values: an interface type, a pointer type that can be compared, to something with cells. -/
structure EqT (P : Program) (ti tp : TypeId) : Prop where
  ok : ∃ ms te i j, P.underlying ti = some (.interface ms) ∧ P.underlying tp = some (.pointer te) ∧ P.info? tp = some i ∧ i.comparable = true ∧ P.info? te = some j ∧ j.size ≠ 0
theorem eqT_of {ti tp te : TypeId} (h0 : P.isIface ti = true) (h1 : P.underlying tp = some (.pointer te)) (h2 : (P.info? tp).map (·.comparable) = some true) (h3 : (P.info? te).map (·.size) = some 1) : EqT P ti tp := by
  obtain ⟨ms, h0⟩ := underlying_of_isIface h0
  cases hi : P.info? tp with
  | none => rw [hi] at h2; cases h2
  | some i =>
    cases hj : P.info? te with
    | none => rw [hj] at h3; cases h3
    | some j =>
      rw [hi] at h2; rw [hj] at h3
      refine ⟨ms, te, i, j, h0, h1, hi, Option.some.inj h2, hj, ?_⟩
      have := Option.some.inj h3
      simp only at this
      omega
theorem y_eqPS {x y : Operand} {ti tp t' : TypeId} {a : Addr} (hx : ev F x = some (.iface tp (.pointer (some a)))) (hy : ev F y = some (.iface tp (.pointer (some a)))) (h : EqT P ti tp) : Zv P w F (.binOp .eql ti x y t') T (.bool true) w :=
  fun dst pos af gd ρ hρ => .inl (by
    obtain ⟨ms, te, i, j, h1, h2, h3, h4, h5, h6⟩ := h.ok
    have h7 := run_eql_iface_ptr_same (P := P) w a h1 h2 h3 h4 h5
    simp [execOp, hρ _ _ hx, hρ _ _ hy, eqGuard, h7])
theorem y_eqPO {x y : Operand} {ti tp t' : TypeId} {a b : Addr} {ca cb : Array Value} {ta tb : TypeId} (hx : ev F x = some (.iface tp (.pointer (some a)))) (hy : ev F y = some (.iface tp (.pointer (some b)))) (h : EqT P ti tp)
    (hne : a ≠ b) (ha : w.heap[a.block]? = some (.cells ca ta (0, 0))) (hb : w.heap[b.block]? = some (.cells cb tb (0, 0))) : Zv P w F (.binOp .eql ti x y t') T (.bool false) w :=
  fun dst pos af gd ρ hρ => .inl (by
    obtain ⟨ms, te, i, j, h1, h2, h3, h4, h5, h6⟩ := h.ok
    have h7 := run_eql_iface_ptr_other (P := P) w h1 h2 h3 h4 h5 h6 hne ha hb
    simp [execOp, hρ _ _ hx, hρ _ _ hy, eqGuard, h7])
/-- a variable that holds an error made once -/
structure Sen (B : Nat) (w : World) (g tp : Nat) (a : Addr) : Prop where
  cell : w.cell? ⟨g, 0, none⟩ = some (.iface tp (.pointer (some a)))
  glt : g < B
  alt : a.block < B
  size : B ≤ w.heap.size
  heap : ∃ c t, w.heap[a.block]? = some (.cells c t (0, 0))
theorem Sen.keep {B : Nat} {w w' : World} {g tp : Nat} {a : Addr} {L : List Nat} (h : Sen B w g tp a) (k : Keep w w' L) (hL : ∀ i, i ∈ L → B ≤ i) : Sen B w' g tp a := by
  have h1 := h.glt
  have h2 := h.alt
  have h3 := h.size
  refine ⟨?_, h1, h2, Nat.le_trans h3 k.size, ?_⟩
  · rw [← h.cell]
    exact World.cell?_of_block (k.same _ (by show g < _; omega) fun hm => by have := hL _ hm; simp only at this; omega)
  · obtain ⟨c, t, he⟩ := h.heap
    exact ⟨c, t, by rw [← he]; exact k.same _ (by omega) fun hm => by have := hL _ hm; omega⟩
/-- a result in cells and two beside it -/
theorem q_endctt {n : Nat} {fn : Func} {R : Ending → World → Prop} {e : Exit} {t b m u s : Nat} {tt tb : TypeId} {l : List Value} {v x : Value} (he : e = .ret ∨ e = .normal) (hr : fn.results = #[.cell t tt, .tmp u, .tmp s]) (ht : fget F t = some (vP b)) (ha : tOne P tt = false) (hu : (P.underlying tt).isSome = true) (hs : tSize P tt = some m) (hB : Blk w b tb l) (hm : l.length = m)
    (hv : fget F u = some v) (hx : fget F s = some x) (hR : R (.returned (.tuple #[.agg l.toArray, v, x])) w) : qf (bodyPost P fn R) e n [] F w := by
  intro a ha'
  have hx : bodyPost P fn R .ret a w := ⟨ha'.defers, .tuple #[.agg l.toArray, v, x], by
    have hg := ha'.get t _ ht
    have hg2 := ha'.get u _ hv
    have hg3 := ha'.get s _ hx
    rw [Array.getD_eq_getD_getElem?] at hg hg2 hg3
    simp [results, hr, hg, hg2, hg3, asAddr, run_loadVar_agg ha hu hs hm hB], hR⟩
  rcases he with rfl | rfl <;> exact hx
end
end Go.Proofs.YtkemlhhpakjojaaDoor

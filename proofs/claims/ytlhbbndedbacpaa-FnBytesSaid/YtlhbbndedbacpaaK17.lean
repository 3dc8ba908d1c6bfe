/- Rows of bytes behind which a mark may stand; copy into them; append of zeros; bytes as a string; no statement of the program is proved here. -/
import Derived.Test.YtlhbbndedbacpaaK15
import Derived.Test.YtlhbbndedbacpaaK16
import Derived.Lib.AppendZeros
import Derived.Lib.ConvBytes
import Derived.Laws.IdiomStrings
set_option linter.unusedVariables false
set_option linter.unusedSimpArgs false
namespace Go.Proofs.Ytlhbbndedbacpaa
open Go Go.RowKit

/-- a block of cells, none of them frozen; a place behind them may be -/
def BlkF (w : World) (b : Nat) (t : TypeId) (l : List Value) : Prop := ∃ lo hi, w.heap[b]? = some (.cells l.toArray t (lo, hi)) ∧ (hi ≤ lo ∨ l.length ≤ lo)
theorem Blk.toF {w : World} {b : Nat} {t : TypeId} {l : List Value} (h : Blk w b t l) : BlkF w b t l := ⟨0, 0, h, .inl (Nat.le_refl _)⟩
theorem BlkF.lt {w : World} {b : Nat} {t : TypeId} {l : List Value} (h : BlkF w b t l) : b < w.heap.size := by
  obtain ⟨lo, hi, h, _⟩ := h
  rcases Nat.lt_or_ge b w.heap.size with h' | h'
  · exact h'
  · rw [Array.getElem?_eq_none h'] at h; cases h
theorem BlkF.keep {w w' : World} {b : Nat} {t : TypeId} {l : List Value} {L : List Nat} (h : BlkF w b t l) (k : Keep w w' L) (hn : b ∉ L) : BlkF w' b t l := by
  have hl := h.lt
  obtain ⟨lo, hi, h, h2⟩ := h
  exact ⟨lo, hi, (k.same b hl hn).trans h, h2⟩
theorem BlkF.drew {w : World} {b : Nat} {t : TypeId} {l : List Value} (h : BlkF w b t l) : BlkF w.drew b t l := h
theorem BlkF.cell {w : World} {b o : Nat} {t : TypeId} {l : List Value} {v : Value} (h : BlkF w b t l) (hv : l[o]? = some v) : w.cell? ⟨b, o, none⟩ = some v := by
  obtain ⟨lo, hi, h, h2⟩ := h
  simp [World.cell?, h, hv]
theorem BlkF.frozen {w : World} {b : Nat} {t : TypeId} {l : List Value} (h : BlkF w b t l) {o : Nat} (ho : o < l.length) : w.frozen? ⟨b, o, none⟩ = false := by
  obtain ⟨lo, hi, h, h2⟩ := h
  simp only [World.frozen?, h, Bool.and_eq_false_iff, decide_eq_false_iff_not]
  omega
theorem BlkF.set {w : World} {b : Nat} {t : TypeId} {l : List Value} (h : BlkF w b t l) (o : Nat) (v : Value) : BlkF (w.setCell ⟨b, o, none⟩ v) b t (l.set o v) := by
  obtain ⟨lo, hi, h, h2⟩ := h
  refine ⟨lo, hi, ?_, by simpa using h2⟩
  simp [World.setCell, Array.getElem?_modify, h]

theorem BlkF.src {w : World} {b o n : Nat} {t : TypeId} {l : List Value} (h : BlkF w b t l) : ∀ j v, ((l.drop o).take n)[j]? = some v → w.cell? ((⟨b, o, none⟩ : Addr).add j) = some v := by
  intro j v hv
  rw [add_pt]
  refine h.cell ?_
  rw [List.getElem?_take] at hv
  split at hv
  · rwa [List.getElem?_drop] at hv
  · cases hv

section
variable {P : Program} {ops : Array Oper} {Q : Exit → Act → World → Prop} {n : Nat} {D : List Deferred} {F : Fr} {rest : List Oper} {w : World} {T : TypeId} {pos : String} {af : Array Edge}
theorem st_storeF {dst : Option Tmp} {x y : Operand} {b o : Nat} {t t' : TypeId} {l : List Value} {v : Value} (hx : ev F x = some (pt b o)) (hy : ev F y = some v) (h1 : v.oneCell' = true) (hsz : tSize P t = some 1) (hB : BlkF w b t' l) (ho : o < l.length) (hd : dst = none)
    (k : ∀ w1, BlkF w1 b t' (l.set o v) → Keep w w1 [b] → w1.heap.size = w.heap.size → wpL P ops Q n D F rest w1) : wpL P ops Q n D F (⟨dst, .store t x y, T, pos, af, none⟩ :: rest) w := by
  subst hd
  exact st0 (z_store hx hy h1 hsz (hB.cell (List.getElem?_eq_getElem ho)) (hB.frozen ho)) (k _ (hB.set o v) (Keep.setCell w b o v) (by simp))
theorem run_storeCellsF {b o : Nat} {t : TypeId} (vs : List Value) : ∀ (j : Nat) (w : World) (l : List Value), BlkF w b t l → o + j + vs.length ≤ l.length → (∀ v ∈ vs, v.oneCell' = true) →
    ∃ w1, (storeCells ⟨b, o, none⟩ vs j).run P w = .ok () w1 ∧ BlkF w1 b t (over l (o + j) vs) ∧ Keep w w1 [b] ∧ w1.heap.size = w.heap.size := by
  induction vs with
  | nil => intro j w l hB h h1; exact ⟨w, by simp [storeCells], by rw [over_nil]; exact hB, Keep.refl _ _, rfl⟩
  | cons v r ih =>
    intro j w l hB h h1
    simp only [List.length_cons] at h
    have hlt : o + j < l.length := by omega
    have hc := hB.cell (List.getElem?_eq_getElem hlt)
    have hfz := hB.frozen hlt
    obtain ⟨w1, hr, hB1, hK, hs⟩ := ih (j + 1) _ _ (hB.set (o + j) v) (by simp; omega) (fun u hu => h1 u (List.mem_cons_of_mem _ hu))
    refine ⟨w1, ?_, ?_, (Keep.setCell w b (o + j) v).trans hK (fun i hi => .inl hi), by rw [hs]; simp⟩
    · simp only [storeCells, Sem.run_bind, add_pt, run_store _ _ _ _ _ (h1 v (List.mem_cons_self ..)), hc, hfz, Bool.false_eq_true, if_false, Result.andThen_ok]
      exact hr
    · rw [show o + (j + 1) = o + j + 1 by omega, over_cons l (o + j) v r hlt] at hB1
      exact hB1
/-- copy(dst, src), where the source is as long or shorter -/
theorem st_copyF {d : Nat} {x y : Operand} {t1 t2 e : TypeId} {b o c n1 n2 c' : Nat} {ad : Addr} {T1 : TypeId} {l vs : List Value} (hx : ev F x = some (.slice (some ⟨b, o, none⟩) n1 c)) (hy : ev F y = some (.slice (some ad) n2 c')) (ht : P.underlying t1 = some (.slice e)) (he : tSize P e = some 1)
    (hB : BlkF w b T1 l) (hsrc : ∀ j v, vs[j]? = some v → w.cell? (ad.add j) = some v) (hl : vs.length = n2) (hle : n2 ≤ n1) (h1 : o + n2 ≤ l.length) (hone : ∀ v ∈ vs, v.oneCell' = true) (hd : Nat.blt d n = true)
    (k : ∀ w1, BlkF w1 b T1 (over l o vs) → Keep w w1 [b] → w1.heap.size = w.heap.size → wpL P ops Q n D ((d, vI (n2 : Nat)) :: F) rest w1) :
    wpL P ops Q n D F (⟨some d, .call ⟨.builtin .copy, #[x, y], #[t1, t2]⟩, T, pos, af, none⟩ :: rest) w := by
  obtain ⟨w1, hr, hB1, hK, hs⟩ := run_storeCellsF (P := P) (b := b) (o := o) vs 0 w l hB (by omega) hone
  have hld := run_loadCells_list (P := P) w ad vs hsrc
  rw [hl] at hld
  refine st (v := vI (n2 : Nat)) (w' := w1) ?_ hd (k w1 hB1 hK hs)
  exact fun dst pos af gd ρ hρ => .inl (by
    rw [exec_builtin hρ (vals := [.slice (some ⟨b, o, none⟩) n1 c, .slice (some ad) n2 c']) (by simp [evs, hx, hy])]
    simp [builtin, Builtin.copy_, run_underlying ht, Builtin.lenOf, Builtin.firstCells, run_sizeOf he, Nat.min_eq_left hle, hld, hr, goInt])
/-- copy(dst, src) of nothing -/
theorem st_copy0 {d : Nat} {x y : Operand} {t1 t2 e : TypeId} {A : Option Addr} {n1 c c' : Nat} (hx : ev F x = some (.slice A n1 c)) (hy : ev F y = some (.slice none 0 c')) (ht : P.underlying t1 = some (.slice e)) (he : tSize P e = some 1) (hd : Nat.blt d n = true)
    (k : wpL P ops Q n D ((d, vI ((0 : Nat) : Int)) :: F) rest w) :
    wpL P ops Q n D F (⟨some d, .call ⟨.builtin .copy, #[x, y], #[t1, t2]⟩, T, pos, af, none⟩ :: rest) w := by
  refine st (v := vI ((0 : Nat) : Int)) (w' := w) ?_ hd k
  exact fun dst pos af gd ρ hρ => .inl (by
    rw [exec_builtin hρ (vals := [.slice A n1 c, .slice none 0 c']) (by simp [evs, hx, hy])]
    cases A <;> simp [builtin, Builtin.copy_, run_underlying ht, Builtin.lenOf, Builtin.firstCells, run_sizeOf he, goInt, storeCells])
theorem size_toList (s : ByteArray) : s.data.toList.length = s.size := by simp
/-- copy(dst, string), where the string is as long or shorter -/
theorem st_copyS {d : Nat} {x y : Operand} {t1 t2 e : TypeId} {b o c n1 : Nat} {s : ByteArray} {T1 : TypeId} {l : List Value} (hx : ev F x = some (.slice (some ⟨b, o, none⟩) n1 c)) (hy : ev F y = some (.string s)) (ht : P.underlying t1 = some (.slice e)) (he : tSize P e = some 1)
    (hB : BlkF w b T1 l) (hle : s.size ≤ n1) (h1 : o + s.size ≤ l.length) (hd : Nat.blt d n = true)
    (k : ∀ w1, BlkF w1 b T1 (over l o (s.data.toList.map fun b => v8 b.toNat)) → Keep w w1 [b] → w1.heap.size = w.heap.size → wpL P ops Q n D ((d, vI (s.size : Nat)) :: F) rest w1) :
    wpL P ops Q n D F (⟨some d, .call ⟨.builtin .copy, #[x, y], #[t1, t2]⟩, T, pos, af, none⟩ :: rest) w := by
  have hsl := size_toList s
  obtain ⟨w1, hr, hB1, hK, hs⟩ := run_storeCellsF (P := P) (b := b) (o := o) (s.data.toList.map fun b => v8 b.toNat) 0 w l hB (by rw [List.length_map, hsl]; omega) (by intro v hv; obtain ⟨x, _, rfl⟩ := List.mem_map.1 hv; rfl)
  refine st (v := vI (s.size : Nat)) (w' := w1) ?_ hd (k w1 hB1 hK hs)
  exact fun dst pos af gd ρ hρ => .inl (by
    rw [exec_builtin hρ (vals := [.slice (some ⟨b, o, none⟩) n1 c, .string s]) (by simp [evs, hx, hy])]
    have htk : List.take s.size (List.map (fun b : UInt8 => Value.int IntKind.u8 (b.toNat : Int)) s.data.toList) = s.data.toList.map fun b => v8 b.toNat := by
      rw [List.take_of_length_le (by rw [List.length_map, hsl]; exact Nat.le_refl _)]
    simp [builtin, Builtin.copy_, run_underlying ht, Builtin.lenOf, Builtin.firstCells, run_sizeOf he, Nat.min_eq_left hle, goInt]
    rw [htk, hr]
    simp [Result.andThen])
/-- append(nil, make(.., m)...) -/
theorem st_appendZ {d : Nat} {x y : Operand} {t tn e : TypeId} {i : TypeInfo} {z : Value} {kn : IntKind} {m : Nat} (hx : ev F x = some (.slice none 0 0)) (hy : ev F y = some (vI (m : Nat))) (ht : P.underlying t = some (.slice e)) (htn : P.underlying tn = some (.int kn)) (hi : P.info? e = some i) (hz : i.zero = some z) (hs : i.size = 1) (hb : i.bytes ≤ 64) (hz1 : z.oneCell' = true)
    (h0 : 0 < m) (hm : m ≤ 100000000) (hd : Nat.blt d n = true)
    (k : ∀ c' w1, m ≤ c' → c' ≤ maxLen → Blk w1 w.heap.size e (List.replicate c' z) → Keep w w1 [] → w1.heap.size = w.heap.size + 1 → wpL P ops Q n D ((d, vS w.heap.size m c') :: F) rest w1) : wpL P ops Q n D F (⟨some d, .call ⟨.builtin .append, #[x, y], #[t, tn]⟩, T, pos, af, none⟩ :: rest) w := by
  have hbytes : m * i.bytes ≤ 281474976710656 := by have : m * i.bytes ≤ 100000000 * 64 := Nat.mul_le_mul hm hb; omega
  have hr := Lib.run_append_nil_zeros (P := P) w t tn T e i z .i64 kn ht htn hi hz m h0 (by omega) (by omega) hbytes
  rw [zeroCells_one z hz1, zeroCells_one z hz1] at hr
  have hge := grownCap_ge w m 0 e
  have hle := grownCap_le_maxLen w m 0 e (by unfold maxLen; omega)
  have e1 : (List.replicate m z).toArray ++ (List.replicate (grownCap w m 0 e - m) z).toArray = (List.replicate (grownCap w m 0 e) z).toArray := by
    rw [List.append_toArray, List.replicate_append_replicate, show m + (grownCap w m 0 e - m) = grownCap w m 0 e by omega]
  rw [e1] at hr
  refine st (v := vS w.heap.size m (grownCap w m 0 e)) (w' := w.drew.alloc (.cells (List.replicate (grownCap w m 0 e) z).toArray e)) ?_ hd (k _ _ hge hle ?_ ?_ ?_)
  · exact fun dst pos af gd ρ hρ => .inl (by
      rw [exec_builtin hρ (vals := [.slice none 0 0, vI (m : Nat)]) (by simp [evs, hx, hy])]
      simp [builtin, hr])
  · exact heap_alloc_new w.drew _
  · exact (Keep.drew w []).trans (Keep.alloc w.drew _ []) (by simp)
  · simp
/-- bytes as bytes: a literal's row gets a mark behind its last cell -/
theorem st_convM {d : Nat} {x : Operand} {t e b m c : Nat} {T1 : TypeId} {l : List Value} (hx : ev F x = some (vS b m c)) (ht : P.underlying t = some (.slice e)) (he : P.underlying e = some (.int .u8)) (hB : Blk w b T1 l) (hd : Nat.blt d n = true)
    (k : ∀ w1, BlkF w1 b T1 l → Keep w w1 [b] → w1.heap.size = w.heap.size → wpL P ops Q n D ((d, vS b m c) :: F) rest w1) : wpL P ops Q n D F (⟨some d, .convert t t x, T, pos, af, none⟩ :: rest) w := by
  have hb := hB
  unfold Blk at hb
  have hfz : (w.freeze ⟨b, l.length, none⟩ 1).heap[b]? = some (.cells l.toArray T1 (l.length, l.length + 1)) := by
    simp [World.freeze, Array.getElem?_modify, hb]
  refine st (v := vS b m c) (w' := w.freeze ⟨b, l.length, none⟩ 1) ?_ hd (k _ ⟨_, _, hfz, .inr (Nat.le_refl _)⟩ ?_ ?_)
  · exact fun dst pos af gd ρ hρ => .inl (by
      simp [execOp, hρ _ _ hx, convert, run_underlying ht, run_underlying he, markStringish, hB.shape, Result.andThen])
  · refine ⟨?_, ?_, ?_, ?_, fun i hi hn => ?_⟩
    · simp [World.freeze]
    · simp [World.freeze]
    · simp [World.freeze]
    · simp [World.freeze]
    · have : b ≠ i := fun h => hn (by simp [h])
      simp [World.freeze, Array.getElem?_modify, this]
  · simp [World.freeze]
/-- an empty string as bytes -/
theorem st_convSB0 {d : Nat} {x : Operand} {s t e : TypeId} {b : ByteArray} (hx : ev F x = some (.string b)) (hb : b.size = 0) (hs : P.underlying s = some .string) (ht : P.underlying t = some (.slice e)) (he : P.underlying e = some (.int .u8)) (hd : Nat.blt d n = true)
    (k : ∀ c' w1, c' ≤ 9223372036854775807 → BlkF w1 w.heap.size e (List.replicate c' (v8 0)) → Keep w w1 [] → w1.heap.size = w.heap.size + 1 → wpL P ops Q n D ((d, vS w.heap.size 0 c') :: F) rest w1) : wpL P ops Q n D F (⟨some d, .convert s t x, T, pos, af, none⟩ :: rest) w := by
  have hr := Lib.run_convert_string_bytes (P := P) w s t e b hs ht he
  have hle := grownCap_le_maxLen w 0 0 e (by unfold maxLen; omega)
  have hcells : Lib.bytesCells w e b = (List.replicate (grownCap w 0 0 e) (v8 0)).toArray := by
    have hd0 : b.data = #[] := by
      apply Array.eq_empty_of_size_eq_zero
      exact hb
    unfold Lib.bytesCells
    rw [hb, hd0]
    simp [v8]
  have hnew := Lib.bytesWorld_at_new w e b
  rw [hcells] at hnew
  rw [hb] at hr
  refine st (v := vS w.heap.size 0 (grownCap w 0 0 e)) (w' := Lib.bytesWorld w e b) ?_ hd (k _ _ (by unfold maxLen at hle; omega) ⟨_, _, hnew, .inr (by simp)⟩ ?_ (Lib.bytesWorld_size w e b))
  · exact fun dst pos af gd ρ hρ => .inl (by
      simp only [execOp, hρ _ _ hx, Sem.run_bind, hr, Result.andThen_ok]
      rfl)
  · refine ⟨rfl, rfl, rfl, by rw [Lib.bytesWorld_size]; omega, fun i hi _ => Lib.bytesWorld_at_old w e b i hi⟩
end

section
variable {P : Program} {n : Nat} {F : Fr} {w : World}
/-- the end of a function that has put off one call of a closure that finds nothing to recover; its result lies in a slot -/
theorem q_endDt {fn : Func} {R : Ending → World → Prop} {e : Exit} {f : FuncId} {cap : List Value} {t : Nat} {v : Value} (he : e = .ret ∨ e = .normal) (hr : fn.results = #[.tmp t]) (ht : fget F t = some v)
    (hfn : IsFn P f) (hc : CallsD P f cap.toArray .returning w fun e u' w' => e = .returned (.tuple #[]) ∧ u' = .returning ∧ w' = w) (hR : R (.returned v) w) :
    qf (bodyPostD P fn R) e n [{ target := .fn (.func f) cap.toArray, args := #[] }] F w := by
  intro a ha
  have hx : bodyPostD P fn R .ret a w := by
    show Leaves P fn a.tmps R a.defers .returning w
    rw [ha.defers]
    refine leaves_cons (f := f) (args := cap.toArray) (by simp) ?_ ?_
    · simp [invoke, run_callv hfn]
    · refine CallsD.mono hc ?_
      rintro e u' w' ⟨rfl, rfl, rfl⟩
      have hg := ha.get t _ ht
      exact ⟨v, by rw [results_tmp hr, hg], hR⟩
  rcases he with rfl | rfl <;> exact hx
end

/-- the string of these bytes -/
def str (xs : List Nat) : ByteArray := ⟨(xs.map UInt8.ofNat).toArray⟩
theorem str_size (xs : List Nat) : (str xs).size = xs.length := by simp [str, ByteArray.size]
theorem str_bytes (xs : List Nat) (h : ∀ x ∈ xs, x < 256) : ((str xs).data.toList.map fun b => v8 b.toNat) = xs.map v8 := by
  unfold str
  simp only [List.map_map]
  apply List.map_congr_left
  intro x hx
  have := h x hx
  simp only [Function.comp_apply, UInt8.toNat_ofNat']
  rw [Nat.mod_eq_of_lt (by omega)]
theorem str_inj {xs ys : List Nat} (hx : ∀ x ∈ xs, x < 256) (hy : ∀ y ∈ ys, y < 256) (h : str xs = str ys) : xs = ys := by
  have e : (str xs).data.toList = (str ys).data.toList := by rw [h]
  have h1 := str_bytes xs hx
  have h2 := str_bytes ys hy
  rw [e, h2] at h1
  have hi : ∀ {a b : Nat}, v8 a = v8 b → a = b := by
    intro a b h
    have h2 : (a : Int) = (b : Int) := by simpa [v8] using h
    exact Int.ofNat_inj.1 h2
  exact (List.map_inj_right (fun x y h => hi h)).1 h1.symm
theorem str_append (xs ys : List Nat) : str (xs ++ ys) = str xs ++ str ys := by
  apply ByteArray.ext
  simp [str]

section
variable {P : Program} {F : Fr} {w : World} {T : TypeId}
/-- bytes as a string -/
theorem y_convBS {x : Operand} {s t e : TypeId} {ad : Addr} {n c : Nat} {xs : List Nat} (hx : ev F x = some (.slice (some ad) n c)) (hs : P.underlying s = some (.slice e)) (he : P.underlying e = some (.int .u8)) (ht : P.underlying t = some .string) (hn : xs.length = n) (h8 : ∀ x ∈ xs, x < 256)
    (hc : ∀ j, j < n → w.cell? (ad.add j) = some (v8 (xs.getD j 0))) : Zv P w F (.convert s t x) T (.string (str xs)) w :=
  fun dst pos af gd ρ hρ => .inl (by
    have h := run_convert_bytes_back (P := P) w s t e ad c (xs.map UInt8.ofNat) hs he ht (fun j hj => by
      rw [List.length_map] at hj
      rw [hc j (by omega)]
      have : xs[j] < 256 := h8 _ (List.getElem_mem _)
      simp only [List.getElem_map, UInt8.toNat_ofNat', List.getD_eq_getElem?_getD, List.getElem?_eq_getElem hj, Option.getD_some]
      rw [Nat.mod_eq_of_lt (by omega)])
    rw [List.length_map, hn] at h
    simp only [execOp, hρ _ _ hx]
    simp only [Sem.run_bind, h]
    simp [str])
theorem str_get {xs : List Nat} {i : Nat} (h : i < xs.length) : (str xs)[i]? = some (UInt8.ofNat (xs.getD i 0)) := by
  have h2 : i < (str xs).size := by rw [str_size]; exact h
  rw [getElem?_pos (str xs) i h2]
  congr 1
  have e : (str xs).data[i]? = some (UInt8.ofNat (xs.getD i 0)) := by
    unfold str
    simp only [List.getElem?_toArray, List.getElem?_map, List.getElem?_eq_getElem h, Option.map_some, List.getD_eq_getElem?_getD, Option.getD_some]
  have e2 : (str xs)[i] = (str xs).data[i]'h2 := rfl
  have h3 : i < (str xs).data.size := h2
  have e3 := Array.getElem?_eq_getElem h3
  exact Option.some.inj (e3.symm.trans e)
theorem y_indexS {x y : Operand} {t : TypeId} {k : IntKind} {xs : List Nat} {i : Nat} (hx : ev F x = some (.string (str xs))) (hy : ev F y = some (.int k (i : Int))) (ht : P.underlying t = some .string) (h : i < xs.length) (h8 : ∀ x ∈ xs, x < 256) : Zv P w F (.index t x y) T (v8 (xs.getD i 0)) w := by
  have h1 := y_indexStr (T := T) (w := w) hx hy ht (str_get h)
  have h2 : (UInt8.ofNat (xs.getD i 0)).toNat = xs.getD i 0 := by
    have : xs.getD i 0 < 256 := by
      rw [List.getD_eq_getElem?_getD, List.getElem?_eq_getElem h]; exact h8 _ (List.getElem_mem _)
    simp only [UInt8.toNat_ofNat']
    omega
  rwa [h2] at h1
/-- xs[0:] -/
theorem y_slice_0 {x lo : Operand} {t e : TypeId} {k : IntKind} {A : Option Addr} {n c : Nat} (hx : ev F x = some (.slice A n c)) (hl : ev F lo = some (.int k ((0 : Nat) : Int))) (ht : P.underlying t = some (.slice e)) (he : tSize P e = some 1) :
    Zv P w F (.slice t x (some lo) none none) T (.slice A n c) w :=
  fun dst pos af gd ρ hρ => .inl (by
    simp only [execOp, hρ _ _ hx, hρ _ _ hl, Option.map_some, Option.map_none, Sem.run_bind, run_sliceAt ht, Instr.slice, Instr.sliceBounds, run_underlying ht, Result.andThen_ok, run_bound (Nat.zero_le n), Sem.run_pure, run_sizeOf he, Option.isSome_none, Nat.mul_one]
    cases A <;> simp [Addr.add])
theorem y_lenS {x : Operand} {t : TypeId} {s : ByteArray} (hx : ev F x = some (.string s)) (ht : P.underlying t = some .string) : Zv P w F (.call ⟨.builtin .len, #[x], #[t]⟩) T (vI s.size) w :=
  fun dst pos af gd ρ hρ => .inl (by
    rw [exec_builtin hρ (vals := [.string s]) (by simp [evs, hx])]
    simp [builtin, run_len_string, ht, goInt])
theorem y_eqST {x y : Operand} {t t' : TypeId} {a b : ByteArray} (hx : ev F x = some (.string a)) (hy : ev F y = some (.string b)) (h : a = b) : Zv P w F (.binOp .eql t x y t') T (.bool true) w :=
  fun dst pos af gd ρ hρ => .inl (by subst h; simp [execOp, hρ _ _ hx, hρ _ _ hy, eqGuard, binOp, Op.stringOp])
theorem y_catS {x y : Operand} {t t' : TypeId} {a b : ByteArray} (hx : ev F x = some (.string a)) (hy : ev F y = some (.string b)) (h : a.size + b.size ≤ 1000000000) : Zv P w F (.binOp .add t x y t') T (.string (a ++ b)) w :=
  fun dst pos af gd ρ hρ => .inl (by simp [execOp, hρ _ _ hx, hρ _ _ hy, eqGuard, binOp, Op.stringOp]; omega)
end
end Go.Proofs.Ytlhbbndedbacpaa

/- Blocks of memory and the operations that read and write them; no statement of the program is proved here. -/
import Derived.Test.YtbahhdeblppooaaDoorK2
import Derived.Laws.CopyOwn
import Derived.Laws.OwnMore
import Derived.Below
import Derived.Laws.Cover3
import Derived.Laws.Pointers
set_option linter.unusedVariables false
set_option linter.unusedSimpArgs false
namespace Go.Proofs.YtbahhdeblppooaaDoor
open Go Go.RowKit

/-- a block of cells, none of them frozen -/
def Blk (w : World) (b : Nat) (t : TypeId) (l : List Value) : Prop := w.heap[b]? = some (.cells l.toArray t (0, 0))

/-- what has become of a world: old blocks are as they were, but for those of the list -/
structure Keep (w w' : World) (L : List Nat) : Prop where
  os : w'.os = w.os
  tape : w'.tape = w.tape
  output : w'.output = w.output
  size : w.heap.size ≤ w'.heap.size
  same : ∀ i, i < w.heap.size → i ∉ L → w'.heap[i]? = w.heap[i]?

theorem Keep.refl (w : World) (L : List Nat) : Keep w w L := ⟨rfl, rfl, rfl, Nat.le_refl _, fun _ _ _ => rfl⟩
theorem Keep.drew (w : World) (L : List Nat) : Keep w w.drew L := ⟨rfl, rfl, rfl, Nat.le_refl _, fun _ _ _ => rfl⟩
theorem Keep.mono {w w' : World} {L L' : List Nat} (h : Keep w w' L) (hL : ∀ i, i ∈ L → i ∈ L' ∨ w.heap.size ≤ i) : Keep w w' L' :=
  ⟨h.os, h.tape, h.output, h.size, fun i hi hn => h.same i hi fun hm => (hL i hm).elim hn (fun hge => absurd hi (Nat.not_lt.2 hge))⟩
theorem Keep.trans {w w1 w2 : World} {L L' : List Nat} (h : Keep w w1 L) (k : Keep w1 w2 L') (hL : ∀ i, i ∈ L' → i ∈ L ∨ w.heap.size ≤ i) : Keep w w2 L :=
  ⟨k.os.trans h.os, k.tape.trans h.tape, k.output.trans h.output, Nat.le_trans h.size k.size, fun i hi hn =>
    (k.same i (Nat.lt_of_lt_of_le hi h.size) (fun hm => (hL i hm).elim hn (fun hge => absurd hi (Nat.not_lt.2 hge)))).trans (h.same i hi hn)⟩
/-- the like, both lists kept -/
theorem Keep.trans' {w w1 w2 : World} {L L' : List Nat} (h : Keep w w1 L) (k : Keep w1 w2 L') : Keep w w2 (L ++ L') :=
  Keep.trans (h.mono fun i hi => .inl (List.mem_append_left _ hi)) k fun i hi => .inl (List.mem_append_right _ hi)
theorem Keep.below {w w' : World} {L : List Nat} {B : Nat} (h : Keep w w' L) (hB : B ≤ w.heap.size) (hL : ∀ i, i ∈ L → B ≤ i) : Below B w w' :=
  ⟨h.os, h.tape, h.output, h.size, fun i hi => h.same i (Nat.lt_of_lt_of_le hi hB) fun hm => absurd (hL i hm) (Nat.not_le.2 hi)⟩

theorem Blk.lt {w : World} {b : Nat} {t : TypeId} {l : List Value} (h : Blk w b t l) : b < w.heap.size := by
  rcases Nat.lt_or_ge b w.heap.size with h' | h'
  · exact h'
  · unfold Blk at h; rw [Array.getElem?_eq_none h'] at h; cases h
theorem Blk.keep {w w' : World} {b : Nat} {t : TypeId} {l : List Value} {L : List Nat} (h : Blk w b t l) (k : Keep w w' L) (hn : b ∉ L) : Blk w' b t l := (k.same b h.lt hn).trans h
theorem Blk.drew {w : World} {b : Nat} {t : TypeId} {l : List Value} (h : Blk w b t l) : Blk w.drew b t l := h
theorem Blk.eq {w : World} {b : Nat} {t t' : TypeId} {l l' : List Value} (h : Blk w b t l) (h' : Blk w b t' l') : l = l' ∧ t = t' := by
  unfold Blk at h h'
  rw [h] at h'
  simp at h'
  exact ⟨h'.1, h'.2⟩
theorem Blk.cell {w : World} {b o : Nat} {t : TypeId} {l : List Value} {v : Value} (h : Blk w b t l) (hv : l[o]? = some v) : w.cell? ⟨b, o, none⟩ = some v := by
  unfold Blk at h
  simp [World.cell?, h, hv]
theorem Blk.frozen {w : World} {b : Nat} {t : TypeId} {l : List Value} (h : Blk w b t l) (o : Nat) : w.frozen? ⟨b, o, none⟩ = false := by
  unfold Blk at h
  simp [World.frozen?, h]
theorem Blk.shape {w : World} {b : Nat} {t : TypeId} {l : List Value} (h : Blk w b t l) : w.shape? b = some (t, l.length) := by
  unfold Blk at h
  simp [World.shape?, h]
theorem Blk.set {w : World} {b : Nat} {t : TypeId} {l : List Value} (h : Blk w b t l) (o : Nat) (v : Value) : Blk (w.setCell ⟨b, o, none⟩ v) b t (l.set o v) := by
  unfold Blk at *
  simp [World.setCell, Array.getElem?_modify, h]
theorem Keep.setCell (w : World) (b o : Nat) (v : Value) : Keep w (w.setCell ⟨b, o, none⟩ v) [b] :=
  ⟨rfl, rfl, rfl, by simp, fun i _ hn => Below.heap_setCell w _ v i (by simpa using hn)⟩
theorem Blk.new (w : World) (l : List Value) (t : TypeId) : Blk (w.alloc (.cells l.toArray t)) w.heap.size t l := heap_alloc_new w _
theorem Keep.alloc (w : World) (o : Obj) (L : List Nat) : Keep w (w.alloc o) L :=
  ⟨rfl, rfl, rfl, by simp, fun i hi _ => Below.heap_alloc w o i hi⟩

theorem add_pt (b o j : Nat) : (⟨b, o, none⟩ : Addr).add j = ⟨b, o + j, none⟩ := by unfold Addr.add; split <;> simp_all

/-! ### A slice of unsigned numbers that is only read -/
def Rd (w : World) (A : Option Addr) (n : Nat) (xs : List Nat) : Prop :=
  xs.length = n ∧ n ≤ 9223372036854775807 ∧ (0 < n → ∃ ad, A = some ad ∧ ad.block < w.heap.size ∧ ∀ j, j < n → w.cell? (ad.add j) = some (vU (xs.getD j 0)))
theorem Rd.keep {w w' : World} {A : Option Addr} {n : Nat} {xs : List Nat} {L : List Nat} (h : Rd w A n xs) (k : Keep w w' L) (hn : ∀ i, i ∈ L → w.heap.size ≤ i) : Rd w' A n xs :=
  ⟨h.1, h.2.1, fun h0 => by
    obtain ⟨ad, h1, h2, h3⟩ := h.2.2 h0
    refine ⟨ad, h1, Nat.lt_of_lt_of_le h2 k.size, fun j hj => ?_⟩
    rw [← h3 j hj]
    refine World.cell?_of_block (k.same _ ?_ ?_)
    · unfold Addr.add; split <;> exact h2
    · intro hm
      have := hn _ hm
      have e : (ad.add j).block = ad.block := by unfold Addr.add; split <;> rfl
      omega⟩

section ops
variable {P : Program} {F : Fr} {w : World} {T : TypeId}

/-! ### Reading -/
theorem y_load {x : Operand} {ad : Addr} {t : TypeId} {v : Value} (hx : ev F x = some (.pointer (some ad))) (ht : tOne P t = true) (hc : w.cell? ad = some v) : Zv P w F (.load t x) T v w :=
  fun dst pos af gd ρ hρ => .inl (by simp [execOp, hρ _ _ hx, Instr.loadAt, Instr.sureAddr, loadVar, run_isAgg ht, hc])
/-- a cell of a block -/
theorem y_loadb {x : Operand} {b o : Nat} {t t' : TypeId} {l : List Value} {v : Value} (hx : ev F x = some (pt b o)) (ht : tOne P t = true) (hB : Blk w b t' l) (hv : l[o]? = some v) : Zv P w F (.load t x) T v w :=
  y_load hx ht (hB.cell hv)

theorem y_fieldAddr {x : Operand} {s : TypeId} {fs : Array Field} {i : Nat} {f : Field} {b o n : Nat} (hx : ev F x = some (pt b o)) (hs : P.underlying s = some (.struct fs)) (hf : fs[i]? = some f) (hsz : tSize P f.type = some n) (hn : (n == 0) = false) :
    Zv P w F (.fieldAddr s x i) T (pt b (o + f.offset)) w :=
  fun dst pos af gd ρ hρ => .inl (by
    have hn' : ¬ n = 0 := by simpa using hn
    simp [execOp, hρ _ _ hx, Instr.fieldAt, run_underlying hs, hf, Instr.sureAddr, fieldPlace, run_sizeOf hsz, hn', add_pt])

theorem y_index {x y : Operand} {t e : TypeId} {k : IntKind} {b o n c : Nat} {i : Nat} (hx : ev F x = some (.slice (some ⟨b, o, none⟩) n c)) (hy : ev F y = some (.int k (i : Int))) (ht : P.underlying t = some (.slice e)) (he : tSize P e = some 1) (hi : i < n) :
    Zv P w F (.indexAddr t x y) T (pt b (o + i)) w :=
  fun dst pos af gd ρ hρ => .inl (by
    have h1 : (0 : Int) ≤ (i : Int) ∧ (i : Int) < (n : Int) := by omega
    simp [execOp, hρ _ _ hx, hρ _ _ hy, Instr.indexAt, asIntOf, run_underlying ht, run_sizeOf he, hi, add_pt])
theorem y_index0 {x y : Operand} {t e : TypeId} {k : IntKind} {b n c : Nat} {i : Nat} (hx : ev F x = some (vS b n c)) (hy : ev F y = some (.int k (i : Int))) (ht : P.underlying t = some (.slice e)) (he : tSize P e = some 1) (hi : i < n) :
    Zv P w F (.indexAddr t x y) T (pt b i) w := by
  have := y_index (T := T) (w := w) hx hy ht he hi
  rwa [Nat.zero_add] at this
/-- in a slice whose address is not looked into -/
theorem y_indexA {x y : Operand} {t e : TypeId} {k : IntKind} {ad : Addr} {n c : Nat} {i : Nat} (hx : ev F x = some (.slice (some ad) n c)) (hy : ev F y = some (.int k (i : Int))) (ht : P.underlying t = some (.slice e)) (he : tSize P e = some 1) (hi : i < n) :
    Zv P w F (.indexAddr t x y) T (.pointer (some (ad.add i))) w :=
  fun dst pos af gd ρ hρ => .inl (by
    have h1 : (0 : Int) ≤ (i : Int) ∧ (i : Int) < (n : Int) := by omega
    simp [execOp, hρ _ _ hx, hρ _ _ hy, Instr.indexAt, asIntOf, run_underlying ht, run_sizeOf he, hi])

theorem y_field {x : Operand} {s : TypeId} {fs : Array Field} {i : Nat} {f : Field} {l : List Value} {v : Value} (hx : ev F x = some (.agg l.toArray)) (hs : P.underlying s = some (.struct fs)) (hf : fs[i]? = some f) (h1 : tOne P f.type = true) (hv : l[f.offset]? = some v) :
    Zv P w F (.field s x i) T v w :=
  fun dst pos af gd ρ hρ => .inl (by simp [execOp, hρ _ _ hx, Instr.field, run_underlying hs, hf, asAgg, part, run_isAgg h1, hv])

theorem exec_builtin {b : Builtin} {args : Array Operand} {tys : Array TypeId} {vals : List Value} {ρ : Operand → Value} (hρ : Agree ρ F) (hargs : evs F args.toList = some vals) (dst : Option Tmp) (pos : String) (af : Array Edge) (gd : Option (Nat × Bool)) :
    (execOp ρ ⟨dst, .call ⟨.builtin b, args, tys⟩, T, pos, af, gd⟩).run P w = (builtin b tys T (args.map fun | .const _ => true | _ => false) vals.toArray).run P w := by
  have h2 : args.map ρ = vals.toArray := by
    apply Array.ext'
    simpa using hρ.evs args.toList vals hargs
  simp only [execOp, resolve, invoke, h2, Sem.run_bind, Sem.run_pure, Result.andThen_ok]
  rfl

theorem y_len {x : Operand} {t : TypeId} {e : TypeId} {A : Option Addr} {n c : Nat} (hx : ev F x = some (.slice A n c)) (ht : P.underlying t = some (.slice e)) : Zv P w F (.call ⟨.builtin .len, #[x], #[t]⟩) T (vI n) w :=
  fun dst pos af gd ρ hρ => .inl (by
    rw [exec_builtin hρ (vals := [.slice A n c]) (by simp [evs, hx])]
    simp [builtin, Builtin.len_, run_underlying ht, goInt])
theorem y_cap {x : Operand} {t : TypeId} {e : TypeId} {A : Option Addr} {n c : Nat} (hx : ev F x = some (.slice A n c)) (ht : P.underlying t = some (.slice e)) : Zv P w F (.call ⟨.builtin .cap, #[x], #[t]⟩) T (vI c) w :=
  fun dst pos af gd ρ hρ => .inl (by
    rw [exec_builtin hρ (vals := [.slice A n c]) (by simp [evs, hx])]
    simp [builtin, Builtin.cap_, run_underlying ht, goInt])

/-! slices of slices: one by one what stands there -/
theorem run_bound {k : IntKind} {i y : Nat} {c : BoundsCode} (h : i ≤ y) : (Instr.sliceBound (.int k (i : Int)) y c).run P w = .ok i w := by
  have h1 : (0 : Int) ≤ (i : Int) ∧ (i : Int) ≤ (y : Int) := by omega
  simp [Instr.sliceBound, asIntOf, h]
theorem run_sliceAt {t e : TypeId} {A : Option Addr} {n c : Nat} {lo hi mx : Option Value} (ht : P.underlying t = some (.slice e)) : (Instr.sliceAt t (.slice A n c) lo hi mx).run P w = (Instr.slice t (.slice A n c) lo hi mx).run P w := by
  simp [Instr.sliceAt, run_underlying ht]
/-- xs[l:h] -/
theorem y_slice_lh {x lo hi : Operand} {t e : TypeId} {k k' : IntKind} {b o n c l h : Nat} (hx : ev F x = some (.slice (some ⟨b, o, none⟩) n c)) (hl : ev F lo = some (.int k (l : Int))) (hh : ev F hi = some (.int k' (h : Int))) (ht : P.underlying t = some (.slice e)) (he : tSize P e = some 1) (h1 : l ≤ h) (h2 : h ≤ c) :
    Zv P w F (.slice t x (some lo) (some hi) none) T (.slice (some (if c = l then ⟨b, o, none⟩ else ⟨b, o + l, none⟩)) (h - l) (c - l)) w :=
  fun dst pos af gd ρ hρ => .inl (by
    simp only [execOp, hρ _ _ hx, hρ _ _ hl, hρ _ _ hh, Option.map_some, Option.map_none, Sem.run_bind, run_sliceAt ht, Instr.slice, Instr.sliceBounds, run_underlying ht, Result.andThen_ok, run_bound h1, run_bound h2, Sem.run_pure, run_sizeOf he, Option.isSome_none, Nat.mul_one, add_pt]
    simp
    split <;> rfl)
/-- xs[l:] -/
theorem y_slice_l {x lo : Operand} {t e : TypeId} {k : IntKind} {b o n c l : Nat} (hx : ev F x = some (.slice (some ⟨b, o, none⟩) n c)) (hl : ev F lo = some (.int k (l : Int))) (ht : P.underlying t = some (.slice e)) (he : tSize P e = some 1) (h1 : l ≤ n) :
    Zv P w F (.slice t x (some lo) none none) T (.slice (some (if c = l then ⟨b, o, none⟩ else ⟨b, o + l, none⟩)) (n - l) (c - l)) w :=
  fun dst pos af gd ρ hρ => .inl (by
    simp only [execOp, hρ _ _ hx, hρ _ _ hl, Option.map_some, Option.map_none, Sem.run_bind, run_sliceAt ht, Instr.slice, Instr.sliceBounds, run_underlying ht, Result.andThen_ok, run_bound h1, Sem.run_pure, run_sizeOf he, Option.isSome_none, Nat.mul_one, add_pt]
    simp
    split <;> rfl)
/-- xs[:h] -/
theorem y_slice_h {x hi : Operand} {t e : TypeId} {k : IntKind} {A : Option Addr} {n c h : Nat} (hx : ev F x = some (.slice A n c)) (hh : ev F hi = some (.int k (h : Int))) (ht : P.underlying t = some (.slice e)) (he : tSize P e = some 1) (h1 : h ≤ c) :
    Zv P w F (.slice t x none (some hi) none) T (.slice A h c) w :=
  fun dst pos af gd ρ hρ => .inl (by
    simp only [execOp, hρ _ _ hx, hρ _ _ hh, Option.map_some, Option.map_none, Sem.run_bind, run_sliceAt ht, Instr.slice, Instr.sliceBounds, run_underlying ht, Result.andThen_ok, run_bound h1, Sem.run_pure, run_sizeOf he, Option.isSome_none, Nat.mul_one]
    cases A <;> simp [Addr.add])

/-! a slice or a pointer held against nil -/
theorem y_snil_eq {x y : Operand} {t t' e : TypeId} {b : Option Addr} {n c : Nat} (hx : ev F x = some (.slice b n c)) (hy : ev F y = some (.slice none 0 0)) (ht : P.underlying t = some (.slice e)) : Zv P w F (.binOp .eql t x y t') T (.bool b.isNone) w :=
  fun dst pos af gd ρ hρ => .inl (by
    have h := run_equal_slice_nil (P := P) w t e b n c ht
    simp only [execOp, hρ _ _ hx, hρ _ _ hy, eqGuard, binOp, Sem.run_bind]
    simp [h])
theorem y_snil_ne {x y : Operand} {t t' e : TypeId} {b : Option Addr} {n c : Nat} (hx : ev F x = some (.slice b n c)) (hy : ev F y = some (.slice none 0 0)) (ht : P.underlying t = some (.slice e)) : Zv P w F (.binOp .neq t x y t') T (.bool (!b.isNone)) w :=
  fun dst pos af gd ρ hρ => .inl (by
    have h := run_equal_slice_nil (P := P) w t e b n c ht
    simp only [execOp, hρ _ _ hx, hρ _ _ hy, eqGuard, binOp, Sem.run_bind]
    simp [h])
theorem y_pnil_eq {x y : Operand} {t t' : TypeId} {b : Option Addr} (hx : ev F x = some (.pointer b)) (hy : ev F y = some (.pointer none)) (ht : P.underlying t = some (.pointer (P.pointee t))) : Zv P w F (.binOp .eql t x y t') T (.bool b.isNone) w :=
  fun dst pos af gd ρ hρ => .inl (by
    have h := run_equal_pointer_nil (P := P) w t b ht
    simp only [execOp, hρ _ _ hx, hρ _ _ hy, eqGuard, binOp, Sem.run_bind]
    simp [h])
theorem y_pnil_ne {x y : Operand} {t t' : TypeId} {b : Option Addr} (hx : ev F x = some (.pointer b)) (hy : ev F y = some (.pointer none)) (ht : P.underlying t = some (.pointer (P.pointee t))) : Zv P w F (.binOp .neq t x y t') T (.bool (!b.isNone)) w :=
  fun dst pos af gd ρ hρ => .inl (by
    have h := run_equal_pointer_nil (P := P) w t b ht
    simp only [execOp, hρ _ _ hx, hρ _ _ hy, eqGuard, binOp, Sem.run_bind]
    simp [h])

/-! ### Writing -/
theorem cells_one {v : Value} (h : v.oneCell' = true) : v.cells = #[v] := by cases v <;> simp_all [Value.oneCell', Value.cells]
theorem z_store {x y : Operand} {ad : Addr} {t : TypeId} {v u : Value} (hx : ev F x = some (.pointer (some ad))) (hy : ev F y = some v) (h1 : v.oneCell' = true) (hsz : tSize P t = some 1) (hc : w.cell? ad = some u) (hf : w.frozen? ad = false) :
    Zv P w F (.store t x y) T undef (w.setCell ad v) :=
  fun dst pos af gd ρ hρ => .inr ⟨by
    have h0 : ad.add 0 = ad := by simp [Addr.add]
    simp [execOp, hρ _ _ hx, hρ _ _ hy, Instr.storeAt, Instr.sureAddr, storeVar, run_sizeOf hsz, cells_one h1, storeCells, h0, run_store _ _ _ _ _ h1, hc, hf], rfl⟩

end ops

section wr
variable {P : Program} {ops : Array Oper} {Q : Exit → Act → World → Prop} {n : Nat} {D : List Deferred} {F : Fr} {rest : List Oper} {w : World} {T : TypeId} {pos : String} {af : Array Edge}

/-- a store into a block -/
theorem st_store {dst : Option Tmp} {x y : Operand} {b o : Nat} {t t' : TypeId} {l : List Value} {v : Value} (hx : ev F x = some (pt b o)) (hy : ev F y = some v) (h1 : v.oneCell' = true) (hsz : tSize P t = some 1) (hB : Blk w b t' l) (ho : o < l.length) (hd : dst = none)
    (k : ∀ w1, Blk w1 b t' (l.set o v) → Keep w w1 [b] → w1.heap.size = w.heap.size → wpL P ops Q n D F rest w1) : wpL P ops Q n D F (⟨dst, .store t x y, T, pos, af, none⟩ :: rest) w := by
  subst hd
  exact st0 (z_store hx hy h1 hsz (hB.cell (List.getElem?_eq_getElem ho)) (hB.frozen o)) (k _ (hB.set o v) (Keep.setCell w b o v) (by simp))

/-- a value in a new block -/
theorem st_box {d : Nat} {x : Operand} {E : TypeId} {v : Value} (l : List Value) (hx : ev F x = some v) (hl : v.cells = l.toArray) (hd : Nat.blt d n = true)
    (k : ∀ b w1, w.heap.size = b → Blk w1 b E l → Keep w w1 [] → w1.heap.size = b + 1 → wpL P ops Q n D ((d, vP b) :: F) rest w1) : wpL P ops Q n D F (⟨some d, .box E x, T, pos, af, none⟩ :: rest) w := by
  refine st (v := vP w.heap.size) (w' := w.alloc (.cells l.toArray E)) ?_ hd (k _ _ rfl (Blk.new w l E) (Keep.alloc w _ _) (by simp))
  exact fun dst pos af gd ρ hρ => .inl (by simp [execOp, hρ _ _ hx, Instr.box, newVar, newRow, hl])

def tZero (P : Program) (t : TypeId) : Option Value := (P.info? t).bind (·.zero)
theorem run_zero {t : TypeId} {z : Value} (h : tZero P t = some z) : (zeroValue t).run P w = .ok z w := by
  unfold tZero at h
  cases hi : P.info? t with
  | none => simp [hi] at h
  | some i =>
    simp only [hi, Option.bind_some] at h
    simp [zeroValue, typeInfo, hi, h]

/-- a new variable -/
theorem st_alloc {d : Nat} {E : TypeId} {z : Value} (l : List Value) (hz : tZero P E = some z) (hl : z.cells = l.toArray) (hd : Nat.blt d n = true)
    (k : ∀ b w1, w.heap.size = b → Blk w1 b E l → Keep w w1 [] → w1.heap.size = b + 1 → wpL P ops Q n D ((d, vP b) :: F) rest w1) : wpL P ops Q n D F (⟨some d, .alloc E, T, pos, af, none⟩ :: rest) w := by
  refine st (v := vP w.heap.size) (w' := w.alloc (.cells l.toArray E)) ?_ hd (k _ _ rfl (Blk.new w l E) (Keep.alloc w _ _) (by simp))
  exact fun dst pos af gd ρ hρ => .inl (by simp [execOp, Instr.alloc, run_zero hz, newVar, newRow, hl])

theorem madeCells_one (z : Value) (m : Nat) (hz : z.oneCell' = true) : madeCells z.cells m = (List.replicate m z).toArray := by
  rw [cells_one hz]
  apply Array.ext
  · simp [madeCells]
  · intro i h1 h2
    simp [madeCells, Nat.mod_one]

/-- make([]E, l, c) where E is of one cell -/
theorem st_make {d : Nat} {x y : Operand} {t e : TypeId} {k1 k2 : IntKind} {z : Value} {i : TypeInfo} {l c : Nat} (hx : ev F x = some (.int k1 (l : Int))) (hy : ev F y = some (.int k2 (c : Int))) (ht : P.underlying t = some (.slice e)) (hi : P.info? e = some i) (hz : i.zero = some z) (hz1 : z.oneCell' = true) (hs : i.size = 1) (hb : i.bytes ≤ 64)
    (hlc : l ≤ c) (hc : c ≤ 4398046511104) (hd : Nat.blt d n = true)
    (k : ∀ b w1, w.heap.size = b → Blk w1 b e (List.replicate c z) → Keep w w1 [] → w1.heap.size = b + 1 → wpL P ops Q n D ((d, vS b l c) :: F) rest w1) : wpL P ops Q n D F (⟨some d, .makeSlice t x y, T, pos, af, none⟩ :: rest) w := by
  have hbc : (i.bytes : Int) * (c : Int) ≤ 281474976710656 := by
    have : i.bytes * c ≤ 64 * 4398046511104 := Nat.mul_le_mul hb hc
    have h2 : ((i.bytes * c : Nat) : Int) ≤ ((64 * 4398046511104 : Nat) : Int) := Int.ofNat_le.2 this
    simpa using h2
  have hr := run_make (P := P) w t e i z ht hi hz k1 k2 l c (by omega) (by omega) hbc (by omega)
  rw [hs, Nat.mul_one, Int.toNat_natCast, Int.toNat_natCast, madeCells_one z _ hz1] at hr
  refine st (v := vS w.heap.size l c) (w' := w.alloc (.cells (List.replicate c z).toArray e)) ?_ hd (k _ _ rfl (Blk.new w _ e) (Keep.alloc w _ _) (by simp))
  exact fun dst pos af gd ρ hρ => .inl (by simp [execOp, hρ _ _ hx, hρ _ _ hy, hr])

/-! many cells at once -/
theorem run_loadCells {b o : Nat} {t : TypeId} {l : List Value} (hB : Blk w b t l) : ∀ (m j : Nat) (acc : Array Value), o + j + m ≤ l.length → (loadCellsFrom ⟨b, o, none⟩ j m acc).run P w = .ok (acc ++ ((l.drop (o + j)).take m).toArray) w := by
  intro m
  induction m with
  | zero => intro j acc h; simp [loadCellsFrom]
  | succ m ih =>
    intro j acc h
    have hlt : o + j < l.length := by omega
    have hc := hB.cell (List.getElem?_eq_getElem hlt)
    simp only [loadCellsFrom, Sem.run_bind, add_pt, run_load, hc, Result.andThen_ok]
    rw [ih (j + 1) _ (by omega)]
    congr 1
    rw [List.drop_eq_getElem_cons hlt, List.take_succ_cons, show o + j + 1 = o + (j + 1) by omega]
    apply Array.ext'
    simp
theorem y_loadagg {x : Operand} {b o m : Nat} {t t' : TypeId} {l vs : List Value} (hx : ev F x = some (pt b o)) (ht : tOne P t = false) (hu : (P.underlying t).isSome = true) (hs : tSize P t = some m) (hB : Blk w b t' l) (hm : o + m ≤ l.length) (hv : (l.drop o).take m = vs) : Zv P w F (.load t x) T (.agg vs.toArray) w :=
  fun dst pos af gd ρ hρ => .inl (by
    have h1 : (isAgg t).run P w = .ok true w := by
      obtain ⟨d, hd⟩ := Option.isSome_iff_exists.1 hu
      unfold tOne at ht
      rw [hd] at ht
      unfold isAgg
      cases d <;> simp_all [run_underlying hd]
    have h2 := run_loadCells (P := P) hB (o := o) m 0 #[] (by omega)
    simp [execOp, hρ _ _ hx, Instr.loadAt, Instr.sureAddr, loadVar, h1, run_sizeOf hs, loadCells, h2, hv])

/-- the cells from o on are written over -/
def over (l : List Value) (o : Nat) (vs : List Value) : List Value := l.take o ++ vs ++ l.drop (o + vs.length)
theorem over_nil (l : List Value) (o : Nat) : over l o [] = l := by simp [over]
theorem over_cons (l : List Value) (o : Nat) (v : Value) (vs : List Value) (h : o < l.length) : over (l.set o v) (o + 1) vs = over l o (v :: vs) := by
  unfold over
  apply List.ext_getElem?
  intro i
  have e1 : (l.set o v).take (o + 1) = l.take o ++ [v] := by
    rw [List.take_succ_eq_append_getElem (by simpa using h)]
    simp
    rw [List.take_set_of_le (Nat.le_refl _)]
  have e2 : (l.set o v).drop (o + 1 + vs.length) = l.drop (o + (v :: vs).length) := by
    rw [List.drop_set_of_lt (by omega)]
    congr 1
    simp; omega
  rw [e1, e2]
  simp
theorem over_length (l : List Value) (o : Nat) (vs : List Value) (h : o + vs.length ≤ l.length) : (over l o vs).length = l.length := by
  simp [over]; omega
theorem run_storeCells {b o : Nat} {t : TypeId} (vs : List Value) : ∀ (j : Nat) (w : World) (l : List Value), Blk w b t l → o + j + vs.length ≤ l.length → (∀ v ∈ vs, v.oneCell' = true) →
    ∃ w1, (storeCells ⟨b, o, none⟩ vs j).run P w = .ok () w1 ∧ Blk w1 b t (over l (o + j) vs) ∧ Keep w w1 [b] ∧ w1.heap.size = w.heap.size := by
  induction vs with
  | nil => intro j w l hB h h1; exact ⟨w, by simp [storeCells], by rw [over_nil]; exact hB, Keep.refl _ _, rfl⟩
  | cons v r ih =>
    intro j w l hB h h1
    simp only [List.length_cons] at h
    have hlt : o + j < l.length := by omega
    have hc := hB.cell (List.getElem?_eq_getElem hlt)
    obtain ⟨w1, hr, hB1, hK, hs⟩ := ih (j + 1) _ _ (hB.set (o + j) v) (by simp; omega) (fun u hu => h1 u (List.mem_cons_of_mem _ hu))
    refine ⟨w1, ?_, ?_, (Keep.setCell w b (o + j) v).trans hK (fun i hi => .inl hi), by rw [hs]; simp⟩
    · simp only [storeCells, Sem.run_bind, add_pt, run_store _ _ _ _ _ (h1 v (List.mem_cons_self ..)), hc, hB.frozen, Bool.false_eq_true, if_false, Result.andThen_ok]
      exact hr
    · rw [show o + (j + 1) = o + j + 1 by omega, over_cons l (o + j) v r hlt] at hB1
      exact hB1
theorem st_storeagg {dst : Option Tmp} {x y : Operand} {b o m : Nat} {t t' : TypeId} {l vs : List Value} (hx : ev F x = some (pt b o)) (hy : ev F y = some (.agg vs.toArray)) (h1 : ∀ v ∈ vs, v.oneCell' = true) (hsz : tSize P t = some m) (hm : vs.length = m) (hB : Blk w b t' l) (ho : o + m ≤ l.length) (hd : dst = none)
    (k : ∀ w1, Blk w1 b t' (over l o vs) → Keep w w1 [b] → w1.heap.size = w.heap.size → wpL P ops Q n D F rest w1) : wpL P ops Q n D F (⟨dst, .store t x y, T, pos, af, none⟩ :: rest) w := by
  subst hd
  obtain ⟨w1, hr, hB1, hK, hs⟩ := run_storeCells (P := P) (b := b) (o := o) vs 0 w l hB (by omega) h1
  refine st0 (v := undef) (w' := w1) ?_ (k w1 hB1 hK hs)
  exact fun dst pos af gd ρ hρ => .inr ⟨by simp [execOp, hρ _ _ hx, hρ _ _ hy, Instr.storeAt, Instr.sureAddr, storeVar, run_sizeOf hsz, Value.cells, hm, hr], rfl⟩

/-- copy(dst, src): as many as there are in the shorter one -/
theorem st_copy {d : Nat} {x y : Operand} {t1 t2 e : TypeId} {b o c b' o' c' n1 n2 : Nat} {T1 T2 : TypeId} {l l' : List Value} (hx : ev F x = some (.slice (some ⟨b, o, none⟩) n1 c)) (hy : ev F y = some (.slice (some ⟨b', o', none⟩) n2 c')) (ht : P.underlying t1 = some (.slice e)) (he : tSize P e = some 1)
    (hB : Blk w b T1 l) (hB' : Blk w b' T2 l') (h1 : o + min n2 n1 ≤ l.length) (h2 : o' + min n2 n1 ≤ l'.length) (hone : ∀ v ∈ l', v.oneCell' = true) (hd : Nat.blt d n = true)
    (k : ∀ w1, Blk w1 b T1 (over l o ((l'.drop o').take (min n2 n1))) → Keep w w1 [b] → w1.heap.size = w.heap.size → wpL P ops Q n D ((d, vI (min n2 n1 : Nat)) :: F) rest w1) :
    wpL P ops Q n D F (⟨some d, .call ⟨.builtin .copy, #[x, y], #[t1, t2]⟩, T, pos, af, none⟩ :: rest) w := by
  have hlen : ((l'.drop o').take (min n2 n1)).length = min n2 n1 := by simp; omega
  obtain ⟨w1, hr, hB1, hK, hs⟩ := run_storeCells (P := P) (b := b) (o := o) ((l'.drop o').take (min n2 n1)) 0 w l hB (by omega) (fun v hv => hone v (List.mem_of_mem_drop (List.mem_of_mem_take hv)))
  have hl := run_loadCells (P := P) hB' (o := o') (min n2 n1) 0 #[] (by omega)
  refine st (v := vI (min n2 n1 : Nat)) (w' := w1) ?_ hd (k w1 hB1 hK hs)
  exact fun dst pos af gd ρ hρ => .inl (by
    rw [exec_builtin hρ (vals := [.slice (some ⟨b, o, none⟩) n1 c, .slice (some ⟨b', o', none⟩) n2 c']) (by simp [evs, hx, hy])]
    have hl' : (loadCellsFrom ⟨b', o', none⟩ 0 (Nat.min n2 n1) #[]).run P w = .ok ((l'.drop o').take (min n2 n1)).toArray w := by simpa using hl
    simp [builtin, Builtin.copy_, run_underlying ht, Builtin.lenOf, Builtin.firstCells, run_sizeOf he, loadCells, hl', hr, goInt])

end wr
end Go.Proofs.YtbahhdeblppooaaDoor

/- More words for walks: rows of numbers, slices of slices, a deferred call; no statement of the program is proved here. -/
import Derived.Test.YtbahhdeblppooaaDoorK3
import Derived.Recover
set_option linter.unusedVariables false
set_option linter.unusedSimpArgs false
namespace Go.Proofs.YtbahhdeblppooaaDoor
open Go Go.RowKit

abbrev vB (b : Bool) : Value := .bool b

theorem map_getElem {α : Type} (f : α → Value) (d : α) (l : List α) (o : Nat) (ho : o < l.length) : (l.map f)[o]? = some (f (l.getD o d)) := by
  simp [List.getD_eq_getElem?_getD, ho]
theorem map_set' {α : Type} (f : α → Value) (l : List α) (o : Nat) (x : α) : (l.map f).set o (f x) = (l.set o x).map f := by
  rw [List.map_set]

section ops
variable {P : Program} {F : Fr} {w : World} {T : TypeId}
/-- an element of a row of like values -/
theorem y_loadM {α : Type} {f : α → Value} (d : α) {x : Operand} {b o : Nat} {t t' : TypeId} {l : List α} (hx : ev F x = some (pt b o)) (ht : tOne P t = true) (hB : Blk w b t' (l.map f)) (ho : o < l.length) : Zv P w F (.load t x) T (f (l.getD o d)) w :=
  y_loadb hx ht hB (map_getElem f d l o ho)
theorem y_and_i {x y : Operand} {t t' : TypeId} {a b : Nat} (hx : ev F x = some (vI a)) (hy : ev F y = some (vI b)) (h : a < 9223372036854775808) (h2 : b < 9223372036854775808) : Zv P w F (.binOp .and t x y t') T (vI (a &&& b : Nat)) w :=
  fun dst pos af gd ρ hρ => .inl (by
    have e : (BitVec.ofInt IntKind.i64.bits (a : Int) &&& BitVec.ofInt IntKind.i64.bits (b : Int)).toNat = a &&& b := by
      show (BitVec.ofInt 64 (a : Int) &&& BitVec.ofInt 64 (b : Int)).toNat = _
      rw [ofInt64, ofInt64, BitVec.toNat_and, BitVec.toNat_ofNat, BitVec.toNat_ofNat, Nat.mod_eq_of_lt (by omega), Nat.mod_eq_of_lt (by omega)]
    have e2 := wrap_i64 ((a &&& b : Nat) : Int) (by omega) (by have : a &&& b ≤ a := Nat.and_le_left; omega)
    simp only [execOp, hρ _ _ hx, hρ _ _ hy, eqGuard, binOp, Op.intBits, vI]
    simp only [e, e2]
    simp)
/-- xs[l:], l at most the length: where it begins is known if it holds anything -/
theorem y_slice_ln {x lo : Operand} {t e : TypeId} {k : IntKind} {b o n c l : Nat} (hx : ev F x = some (.slice (some ⟨b, o, none⟩) n c)) (hl : ev F lo = some (.int k (l : Int))) (ht : P.underlying t = some (.slice e)) (he : tSize P e = some 1) (h1 : l ≤ n) (h2 : l < c) :
    Zv P w F (.slice t x (some lo) none none) T (.slice (some ⟨b, o + l, none⟩) (n - l) (c - l)) w := by
  have h := y_slice_l (T := T) (w := w) hx hl ht he h1
  rwa [if_neg (by omega)] at h
theorem y_slice_lhn {x lo hi : Operand} {t e : TypeId} {k k' : IntKind} {b o n c l h : Nat} (hx : ev F x = some (.slice (some ⟨b, o, none⟩) n c)) (hl : ev F lo = some (.int k (l : Int))) (hh : ev F hi = some (.int k' (h : Int))) (ht : P.underlying t = some (.slice e)) (he : tSize P e = some 1) (h1 : l ≤ h) (h2 : h ≤ c) (h3 : l < c) :
    Zv P w F (.slice t x (some lo) (some hi) none) T (.slice (some ⟨b, o + l, none⟩) (h - l) (c - l)) w := by
  have h := y_slice_lh (T := T) (w := w) hx hl hh ht he h1 h2
  rwa [if_neg (by omega)] at h

theorem beqBool (a b : Bool) : (a == b) = decide (a = b) := by cases a <;> cases b <;> rfl
theorem bneBool (a b : Bool) : (a != b) = decide (a ≠ b) := by cases a <;> cases b <;> rfl
theorem y_eq_b {x y : Operand} {t t' : TypeId} {a b : Bool} (hx : ev F x = some (.bool a)) (hy : ev F y = some (.bool b)) (ht : P.underlying t = some .bool) : Zv P w F (.binOp .eql t x y t') T (.bool (decide (a = b))) w :=
  fun dst pos af gd ρ hρ => .inl (by
    have h := run_eql_bool (P := P) w t a b ht
    simp only [execOp, hρ _ _ hx, hρ _ _ hy, eqGuard, Sem.run_bind]
    simp [h, beqBool])
theorem y_ne_b {x y : Operand} {t t' : TypeId} {a b : Bool} (hx : ev F x = some (.bool a)) (hy : ev F y = some (.bool b)) (ht : P.underlying t = some .bool) : Zv P w F (.binOp .neq t x y t') T (.bool (decide (a ≠ b))) w :=
  fun dst pos af gd ρ hρ => .inl (by
    have h : (binOp .neq t (.bool a) (.bool b)).run P w = .ok (.bool (a != b)) w := by
      have h0 := run_eql_bool (P := P) w t a b ht
      simp only [binOp, Sem.run_bind] at h0 ⊢
      cases hr : (Op.equal t (.bool a) (.bool b)).run P w with
      | ok r w' => rw [hr] at h0; simp at h0; obtain ⟨h1, rfl⟩ := h0; subst h1; simp [bne]
      | halt h1 w' => rw [hr] at h0; simp at h0
    simp only [execOp, hρ _ _ hx, hρ _ _ hy, eqGuard, Sem.run_bind]
    simp [h, bneBool])
theorem y_max_u {x y : Operand} {t : TypeId} {a b : Nat} (hx : ev F x = some (vU a)) (hy : ev F y = some (vU b)) (ht : P.underlying t = some (.int .u64)) : Zv P w F (.call ⟨.builtin .max, #[x, y], #[t, t]⟩) T (vU (max a b)) w :=
  fun dst pos af gd ρ hρ => .inl (by
    rw [exec_builtin hρ (vals := [vU a, vU b]) (by simp [evs, hx, hy])]
    have h : (if (b : Int) > (a : Int) then (b : Int) else (a : Int)) = ((max a b : Nat) : Int) := by split <;> omega
    simp only [builtin, Builtin.max_, List.foldlM, Builtin.max2, h, Sem.run_bind, Sem.run_pure, Result.andThen_ok])
theorem y_min_i {x y : Operand} {t : TypeId} {a b : Int} (hx : ev F x = some (vI a)) (hy : ev F y = some (vI b)) (ht : P.underlying t = some (.int .i64)) : Zv P w F (.call ⟨.builtin .min, #[x, y], #[t, t]⟩) T (vI (min a b)) w :=
  fun dst pos af gd ρ hρ => .inl (by
    rw [exec_builtin hρ (vals := [vI a, vI b]) (by simp [evs, hx, hy])]
    have h : (if b < a then b else a) = min a b := by split <;> omega
    simp only [builtin, Builtin.min_, List.foldlM, Builtin.min2, h, Sem.run_bind, Sem.run_pure, Result.andThen_ok])
end ops

section wr
variable {P : Program} {ops : Array Oper} {Q : Exit → Act → World → Prop} {n : Nat} {D : List Deferred} {F : Fr} {rest : List Oper} {w : World} {T : TypeId} {pos : String} {af : Array Edge}

/-- a store into a row of like values -/
theorem st_storeM {α : Type} (f : α → Value) {dst : Option Tmp} {x y : Operand} {b o : Nat} {t t' : TypeId} {l : List α} {m : α} (hx : ev F x = some (pt b o)) (hy : ev F y = some (f m)) (h1 : (f m).oneCell' = true) (hsz : tSize P t = some 1) (hB : Blk w b t' (l.map f)) (ho : o < l.length) (hd : dst = none)
    (k : ∀ w1, Blk w1 b t' ((l.set o m).map f) → Keep w w1 [b] → w1.heap.size = w.heap.size → wpL P ops Q n D F rest w1) : wpL P ops Q n D F (⟨dst, .store t x y, T, pos, af, none⟩ :: rest) w :=
  st_store hx hy h1 hsz hB (by simpa using ho) hd fun w1 hB1 => k w1 (by rwa [map_set'] at hB1)

/-- a call is put off -/
theorem st_defer {x : Operand} {f : FuncId} {cap : List Value} (hx : ev F x = some (.func (.func f) #[] cap.toArray))
    (k : wpL P ops Q n ({ target := .fn (.func f) cap.toArray, args := #[] } :: D) F rest w) : wpL P ops Q n D F (⟨none, .defer ⟨.value x, #[], #[]⟩, T, pos, af, none⟩ :: rest) w := by
  intro a ha
  refine wpList_plain rfl fun K hK => ?_
  have h1 := ha.agree x _ hx
  have h2 : (execOp a.eval ⟨none, .defer ⟨.value x, #[], #[]⟩, T, pos, af, none⟩).run P w = .ok (.defer { target := .fn (.func f) cap.toArray, args := #[] }) w := by
    simp [execOp, resolve, h1, Deferred.ofValue]
  unfold Oper.wp
  rw [h2]
  refine hK _ _ (k _ ⟨?_, ha.size, ha.get⟩)
  simp [Act.put, ha.defers]

/-- the end of a function that has put off one call of a closure that finds nothing to recover; its result lies in a cell -/
theorem q_endD {fn : Func} {R : Ending → World → Prop} {e : Exit} {f : FuncId} {cap : List Value} {t b : Nat} {tt tb : TypeId} {v : Value} (he : e = .ret ∨ e = .normal) (hr : fn.results = #[.cell t tt]) (ht : fget F t = some (vP b)) (ho : tOne P tt = true)
    (hfn : IsFn P f) (hc : CallsD P f cap.toArray .returning w fun e u' w' => e = .returned (.tuple #[]) ∧ u' = .returning ∧ w' = w) (hB : Blk w b tb [v]) (hR : R (.returned v) w) :
    qf (bodyPostD P fn R) e n [{ target := .fn (.func f) cap.toArray, args := #[] }] F w := by
  intro a ha
  have hx : bodyPostD P fn R .ret a w := by
    show Leaves P fn a.tmps R a.defers .returning w
    rw [ha.defers]
    refine leaves_cons (f := f) (args := cap.toArray) (by simp) ?_ ?_
    · simp [invoke, run_callv hfn]
    · refine CallsD.mono hc ?_
      rintro e u' w' ⟨rfl, rfl, rfl⟩
      have hg := ha.get t _ ht
      rw [Array.getD_eq_getD_getElem?] at hg
      refine ⟨v, ?_, hR⟩
      simp [results, hr, hg, asAddr, loadVar, run_isAgg ho, hB.cell (o := 0) (v := v) rfl]
  rcases he with rfl | rfl <;> exact hx

theorem go_inD {f : FuncId} {fn : Func} {c : Code} {args : List Value} {R : Value → World → Prop} (hf : P.funcs[f]? = some fn) (hb : fn.body = some c) (hn : fn.ntmps = n) (hle : args.length ≤ n)
    (h : cwp P c (bodyPostD P fn (fun e w' => ∃ v, e = .returned v ∧ R v w')) n [] (frame0 0 args) w) : Cal P f args w R := by
  refine calls_of_wp_defers hf hb (h _ ⟨rfl, by simp [hn]; omega, ?_⟩)
  intro x v hx
  obtain ⟨_, h2⟩ := frame0_get args 0 x v hx
  have hlt : x < args.length := by
    rcases Nat.lt_or_ge x args.length with h | h
    · exact h
    · simp [List.getElem?_eq_none h] at h2
  have h3 : args[x]? = some v := by simpa using h2
  have h4 : args[x] = v := by rw [List.getElem?_eq_getElem hlt] at h3; exact Option.some.inj h3
  simp [Array.getD_eq_getD_getElem?, Array.getElem?_append, hlt, h4]

/-- the end of a function whose one result lies in cells -/
theorem run_loadVar_one {t : TypeId} {b : Nat} {tb : TypeId} {v : Value} (ho : tOne P t = true) (hB : Blk w b tb [v]) : (loadVar t ⟨b, 0, none⟩).run P w = .ok v w := by
  simp [loadVar, run_isAgg ho, hB.cell (o := 0) (v := v) rfl]
theorem run_isAgg' {t : TypeId} (h : tOne P t = false) (hu : (P.underlying t).isSome = true) : (isAgg t).run P w = .ok true w := by
  obtain ⟨d, hd⟩ := Option.isSome_iff_exists.1 hu
  unfold tOne at h
  rw [hd] at h
  unfold isAgg
  cases d <;> simp_all [run_underlying hd]
theorem run_loadVar_agg {t : TypeId} {b m : Nat} {tb : TypeId} {l : List Value} (ht : tOne P t = false) (hu : (P.underlying t).isSome = true) (hs : tSize P t = some m) (hm : l.length = m) (hB : Blk w b tb l) : (loadVar t ⟨b, 0, none⟩).run P w = .ok (.agg l.toArray) w := by
  have h2 := run_loadCells (P := P) hB (o := 0) m 0 #[] (by omega)
  subst hm
  simp [loadVar, run_isAgg' ht hu, run_sizeOf hs, loadCells, h2]
theorem q_endc {fn : Func} {R : Ending → World → Prop} {e : Exit} {t b m : Nat} {tt tb : TypeId} {l : List Value} (he : e = .ret ∨ e = .normal) (hr : fn.results = #[.cell t tt]) (ht : fget F t = some (vP b)) (ha : tOne P tt = false) (hu : (P.underlying tt).isSome = true) (hs : tSize P tt = some m) (hB : Blk w b tb l) (hm : l.length = m)
    (hR : R (.returned (.agg l.toArray)) w) : qf (bodyPost P fn R) e n [] F w := by
  intro a ha'
  have hx : bodyPost P fn R .ret a w := ⟨ha'.defers, .agg l.toArray, by
    have hg := ha'.get t _ ht
    rw [Array.getD_eq_getD_getElem?] at hg
    simp [results, hr, hg, asAddr, run_loadVar_agg ha hu hs hm hB], hR⟩
  rcases he with rfl | rfl <;> exact hx

def evp (F : Fr) : List (Nat × Operand) → Option (List (Nat × Value))
  | [] => some []
  | (i, x) :: r => match ev F x, evp F r with
    | some v, some vs => some ((i, v) :: vs)
    | _, _ => none
theorem Agree.evp {ρ : Operand → Value} {F : Fr} (h : Agree ρ F) : ∀ (l : List (Nat × Operand)) (vs : List (Nat × Value)), evp F l = some vs → (l.map fun (i, x) => (i, ρ x)) = vs := by
  intro l
  induction l with
  | nil => intro vs hv; simp [Proofs.YtbahhdeblppooaaDoor.evp] at hv; simp [hv]
  | cons y r ih =>
    obtain ⟨i, x⟩ := y
    intro vs hv
    simp only [Proofs.YtbahhdeblppooaaDoor.evp] at hv
    cases hx : ev F x with
    | none => simp [hx] at hv
    | some v =>
      cases hr : Proofs.YtbahhdeblppooaaDoor.evp F r with
      | none => simp [hx, hr] at hv
      | some ws =>
        simp only [hx, hr, Option.some.injEq] at hv
        subst hv
        simp [h x v hx]
        simpa using ih ws hr
/-- []T{..} written out -/
theorem st_buildSlice {d : Nat} {t e len m : Nat} {parts : Array (Nat × Operand)} {vs : List (Nat × Value)} {z : Value} (cells : List Value) (ht : P.underlying t = some (.slice e)) (he : tSize P e = some m) (hz : tZero P e = some z) (hp : evp F parts.toList = some vs) (hsm : len * m ≤ 16777216) (hpos : 0 < len * m)
    (hf : Instr.fill (fun i => some (i * m, m)) ((Array.range (len * m)).map (z.cells[· % z.cells.size]!)) vs = some cells.toArray) (hd : Nat.blt d n = true)
    (k : ∀ b w1, w.heap.size = b → Blk w1 b e cells → Keep w w1 [] → w1.heap.size = b + 1 → wpL P ops Q n D ((d, vS b len len) :: F) rest w1) : wpL P ops Q n D F (⟨some d, .buildSlice t len parts, T, pos, af, none⟩ :: rest) w := by
  refine st (v := vS w.heap.size len len) (w' := w.alloc (.cells cells.toArray e)) ?_ hd (k _ _ rfl (Blk.new w cells e) (Keep.alloc w _ _) (by simp))
  refine fun dst pos af gd ρ hρ => .inl ?_
  have e1 : (parts.map fun (i, x) => (i, ρ x)).toList = vs := by
    have := hρ.evp _ _ hp
    simpa using this
  have hn : ¬ (len * m > 2 ^ 24) := by omega
  have h0 : ¬ len * m = 0 := by omega
  simp only [execOp, Instr.buildSlice, Sem.run_bind, run_underlying ht, run_sizeOf he, Result.andThen_ok, if_neg hn, if_neg h0, e1, Sem.run_pure, run_zero hz, hf]
  simp [newRow]
/-- []T{}, empty and not nil -/
theorem st_buildSlice0 {d : Nat} {t e m : Nat} (ht : P.underlying t = some (.slice e)) (he : tSize P e = some m) (hd : Nat.blt d n = true)
    (k : ∀ b w1, w.heap.size = b → Blk w1 b e [] → Keep w w1 [] → w1.heap.size = b + 1 → wpL P ops Q n D ((d, vS b 0 0) :: F) rest w1) : wpL P ops Q n D F (⟨some d, .buildSlice t 0 #[], T, pos, af, none⟩ :: rest) w := by
  refine st (v := vS w.heap.size 0 0) (w' := w.alloc (.cells [].toArray e)) ?_ hd (k _ _ rfl (Blk.new w [] e) (Keep.alloc w _ _) (by simp))
  refine fun dst pos af gd ρ hρ => .inl ?_
  have e0 : (Array.map (fun x => (default : Value)) (Array.range 0)) = #[] := by rw [Array.range_zero']; simp
  simp [execOp, Instr.buildSlice, run_underlying ht, run_sizeOf he, Instr.fill, newRow, e0]

/-- what a part of a row reads as -/
theorem Rd.of_row {w : World} {b o m : Nat} {t : TypeId} {l : List Nat} (hB : Blk w b t (l.map vU)) (h : o + m ≤ l.length) (hm : m ≤ 9223372036854775807) : Rd w (some ⟨b, o, none⟩) m ((l.drop o).take m) := by
  refine ⟨by simp; omega, hm, fun h0 => ⟨_, rfl, hB.lt, fun j hj => ?_⟩⟩
  rw [add_pt]
  have hlt : o + j < l.length := by omega
  refine hB.cell ?_
  rw [List.getElem?_map, List.getElem?_eq_getElem hlt]
  simp [List.getD_eq_getElem?_getD, hj, hlt]
theorem Rd.of_zero {w : World} {A : Option Addr} {m : Nat} {xs : List Nat} (hm : m = 0) (hx : xs.length = 0) : Rd w A m xs := ⟨by omega, by omega, fun h => absurd h (by omega)⟩
end wr
end Go.Proofs.YtbahhdeblppooaaDoor

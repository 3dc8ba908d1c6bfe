/- Texts that were built one by one and are laid together here (a claim has at most 60 files): frames, steps, plain laws, and functions by their contracts; no statement of the program is proved here. -/
import Derived.WalkKit
import Derived.StillTail
import Derived.Deep.Quiet
import Derived.KernelRfl
import Derived.Laws.MakeOwn
import Derived.Laws.BitsLemmas
import Derived.Laws.CopyOwn
import Derived.Laws.OwnMore
import Derived.Below
import Derived.Laws.Cover3
import Derived.Laws.Pointers
import Derived.Recover
import Derived.Laws.AppendOwn
/- Plain words for a walk: frames as association lists, one lemma for each operation of the model that this program uses; no statement of the program is proved here. -/
set_option linter.unusedVariables false
set_option linter.unusedSimpArgs false
namespace Go.Proofs.YtkemlhhpakjojaaDoor
open Go

/-! ### Frames -/
abbrev Fr := List (Nat × Value)

def fget : Fr → Nat → Option Value
  | [], _ => none
  | (d, v) :: r, x => bif Nat.beq d x then some v else fget r x

def ev (F : Fr) : Operand → Option Value
  | .tmp t => fget F t
  | .const v => some v
  | .global g => some (.pointer (some ⟨g, 0, none⟩))
  | .func f => some (.func (.func f) #[] #[])

def evs (F : Fr) : List Operand → Option (List Value)
  | [] => some []
  | x :: r => match ev F x, evs F r with
    | some v, some vs => some (v :: vs)
    | _, _ => none

structure Sat (a : Act) (n : Nat) (D : List Deferred) (F : Fr) : Prop where
  defers : a.defers = D
  size : a.tmps.size = n
  get : ∀ x v, fget F x = some v → a.tmps.getD x undef = v

def Agree (ρ : Operand → Value) (F : Fr) : Prop := ∀ x v, ev F x = some v → ρ x = v

theorem Sat.agree {a : Act} {n : Nat} {D : List Deferred} {F : Fr} (h : Sat a n D F) : Agree a.eval F := by
  intro x v hv
  cases x with
  | tmp t => exact h.get t v hv
  | const c => simpa [ev, Act.eval] using hv
  | global g => simpa [ev, Act.eval] using hv
  | func f => simpa [ev, Act.eval] using hv

theorem Agree.evs {ρ : Operand → Value} {F : Fr} (h : Agree ρ F) : ∀ (l : List Operand) (vs : List Value), evs F l = some vs → l.map ρ = vs := by
  intro l
  induction l with
  | nil => intro vs hv; simp [Proofs.YtkemlhhpakjojaaDoor.evs] at hv; simp [hv]
  | cons x r ih =>
    intro vs hv
    simp only [Proofs.YtkemlhhpakjojaaDoor.evs] at hv
    cases hx : ev F x with
    | none => simp [hx] at hv
    | some v =>
      cases hr : Proofs.YtkemlhhpakjojaaDoor.evs F r with
      | none => simp [hx, hr] at hv
      | some ws =>
        simp only [hx, hr, Option.some.injEq] at hv
        subst hv
        simp [h x v hx, ih ws hr]

theorem Sat.put {a : Act} {n : Nat} {D : List Deferred} {F : Fr} (h : Sat a n D F) {d : Nat} (hd : Nat.blt d n = true) (v : Value) : Sat (a.put (some d) v) n D ((d, v) :: F) := by
  have hd' : d < n := by simpa using hd
  refine ⟨h.defers, by simp [Act.put, h.size], ?_⟩
  intro x u hx
  simp only [fget] at hx
  by_cases e : d = x
  · subst e
    simp at hx
    subst hx
    simp [Act.put, Array.getD_eq_getD_getElem?, Array.getElem?_setIfInBounds, h.size, hd']
  · have hb : Nat.beq d x = false := by
      cases hb : Nat.beq d x with
      | false => rfl
      | true => exact absurd (Nat.eq_of_beq_eq_true hb) e
    rw [hb] at hx
    simp only [cond_false] at hx
    have := h.get x u hx
    simpa [Act.put, Array.getD_eq_getD_getElem?, Array.getElem?_setIfInBounds, e] using this

theorem Sat.put_none {a : Act} {n : Nat} {D : List Deferred} {F : Fr} (h : Sat a n D F) (v : Value) : Sat (a.put none v) n D F := h

/-- What the second frame says, the first one says too: an entry each. -/
def FS : Fr → Fr → Prop
  | [], _ => True
  | (t, v) :: r, F => fget F t = some v ∧ FS r F

theorem FS.get {G F : Fr} (h : FS G F) : ∀ x v, fget G x = some v → fget F x = some v := by
  induction G with
  | nil => intro x v hx; simp [fget] at hx
  | cons p r ih =>
    obtain ⟨t, u⟩ := p
    intro x v hx
    simp only [fget] at hx
    cases hb : Nat.beq t x with
    | true =>
      rw [hb] at hx
      simp only [cond_true, Option.some.injEq] at hx
      have := Nat.eq_of_beq_eq_true hb
      subst this; subst hx
      exact h.1
    | false =>
      rw [hb] at hx
      exact ih h.2 x v hx

theorem Sat.sub {a : Act} {n : Nat} {D : List Deferred} {F G : Fr} (h : Sat a n D F) (hs : FS G F) : Sat a n D G :=
  ⟨h.defers, h.size, fun x v hx => h.get x v (hs.get x v hx)⟩

/-! ### One operation -/
/-- Where the frame says F, the operation answers v and leaves the world w'. -/
def Zv (P : Program) (w : World) (F : Fr) (op : Op) (T : TypeId) (v : Value) (w' : World) : Prop :=
  ∀ dst pos af gd ρ, Agree ρ F → (execOp ρ ⟨dst, op, T, pos, af, gd⟩).run P w = .ok (.value v) w' ∨ ((execOp ρ ⟨dst, op, T, pos, af, gd⟩).run P w = .ok .skip w' ∧ v = undef)

/-- A call that returns, and what holds then. -/
def Cal (P : Program) (f : FuncId) (args : List Value) (w : World) (R : Value → World → Prop) : Prop :=
  Calls P f args.toArray w fun e w' => ∃ v, e = .returned v ∧ R v w'

theorem Cal.mono {P : Program} {f : FuncId} {args : List Value} {w : World} {R R' : Value → World → Prop} (h : Cal P f args w R) (hr : ∀ v w', R v w' → R' v w') : Cal P f args w R' :=
  Calls.mono h fun e w' ⟨v, he, hv⟩ => ⟨v, he, hr v w' hv⟩

def wpL (P : Program) (ops : Array Oper) (Q : Exit → Act → World → Prop) (n : Nat) (D : List Deferred) (F : Fr) (l : List Oper) (w : World) : Prop :=
  ∀ a, Sat a n D F → wpList P ops Q l a w

def wpS (P : Program) (ops : Array Oper) (w : World) (K : Act → Prop) (n : Nat) (D : List Deferred) (F : Fr) (l : List Oper) : Prop :=
  ∀ a, Sat a n D F → wpStill P ops w K l a

def qf (Q : Exit → Act → World → Prop) (e : Exit) (n : Nat) (D : List Deferred) (F : Fr) (w : World) : Prop := ∀ a, Sat a n D F → Q e a w

def cwp (P : Program) (c : Code) (Q : Exit → Act → World → Prop) (n : Nat) (D : List Deferred) (F : Fr) (w : World) : Prop := ∀ a, Sat a n D F → c.wp P Q a w

section steps
variable {P : Program} {ops : Array Oper} {Q : Exit → Act → World → Prop} {n : Nat} {D : List Deferred} {F : Fr} {rest : List Oper} {w w' : World} {op : Op} {T : TypeId} {v : Value} {pos : String} {af : Array Edge}

/-- a step: plain, with a slot -/
theorem st {d : Nat} (h : Zv P w F op T v w') (hd : Nat.blt d n = true) (k : wpL P ops Q n D ((d, v) :: F) rest w') : wpL P ops Q n D F (⟨some d, op, T, pos, af, none⟩ :: rest) w := by
  intro a ha
  refine wpList_plain rfl fun K hK => ?_
  have hk := hK _ _ (k _ (ha.put hd v))
  unfold Oper.wp
  rcases h (some d) pos af none a.eval ha.agree with h | ⟨h, hu⟩
  · rw [h]; exact hk
  · rw [h]; rw [hu] at hk; exact hk

/-- a step: plain, without a slot -/
theorem st0 (h : Zv P w F op T v w') (k : wpL P ops Q n D F rest w') : wpL P ops Q n D F (⟨none, op, T, pos, af, none⟩ :: rest) w := by
  intro a ha
  refine wpList_plain rfl fun K hK => ?_
  have hk := hK _ _ (k _ (ha.put_none v))
  unfold Oper.wp
  rcases h none pos af none a.eval ha.agree with h | ⟨h, hu⟩
  · rw [h]; exact hk
  · rw [h]; rw [hu] at hk; exact hk

theorem wanted_of {a : Act} (ha : Sat a n D F) {o : Oper} {j t : Nat} {b c : Bool} (hg : o.guard = some (j, b)) (hj : ((ops[j]?).bind (·.dst)) = some t) (ht : fget F t = some (.bool c)) :
    Region.wanted o (yielded ops a.tmps) = (c == b) := by
  have hget := ha.get t _ ht
  have hx : a.tmps[t]? = some (.bool c) := by
    rw [Array.getD_eq_getD_getElem?] at hget
    cases hh : a.tmps[t]? with
    | none => rw [hh] at hget; simp [undef] at hget
    | some u => rw [hh] at hget; simpa using hget
  simp only [Region.wanted, hg, yielded, hj, Option.bind_some, hx]
  cases b <;> cases c <;> rfl

/-- a step that is guarded, the guard's word being yes -/
theorem stg {d j t : Nat} {b : Bool} (hj : ((ops[j]?).bind (·.dst)) = some t) (ht : fget F t = some (.bool b)) (h : Zv P w F op T v w') (hd : Nat.blt d n = true) (k : wpL P ops Q n D ((d, v) :: F) rest w') :
    wpL P ops Q n D F (⟨some d, op, T, pos, af, some (j, b)⟩ :: rest) w := by
  intro a ha
  refine wpList_step fun K hK => ?_
  rw [wanted_of ha rfl hj ht]
  have hk := hK _ _ (k _ (ha.put hd v))
  simp only [BEq.rfl, if_true]
  unfold Oper.wp
  rcases h (some d) pos af (some (j, b)) a.eval ha.agree with h | ⟨h, hu⟩
  · rw [h]; exact hk
  · rw [h]; rw [hu] at hk; exact hk

/-- a step that is guarded, the guard's word being no -/
theorem sno {d j t : Nat} {b c : Bool} (hj : ((ops[j]?).bind (·.dst)) = some t) (ht : fget F t = some (.bool c)) (hbc : (c == b) = false) (hd : Nat.blt d n = true) (k : wpL P ops Q n D ((d, undef) :: F) rest w) :
    wpL P ops Q n D F (⟨some d, op, T, pos, af, some (j, b)⟩ :: rest) w := by
  intro a ha
  refine wpList_step fun K hK => ?_
  rw [wanted_of ha rfl hj ht, hbc]
  exact hK _ _ (k _ (ha.put hd undef))
theorem sno0 {j t : Nat} {b c : Bool} (hj : ((ops[j]?).bind (·.dst)) = some t) (ht : fget F t = some (.bool c)) (hbc : (c == b) = false) (k : wpL P ops Q n D F rest w) :
    wpL P ops Q n D F (⟨none, op, T, pos, af, some (j, b)⟩ :: rest) w := by
  intro a ha
  refine wpList_step fun K hK => ?_
  rw [wanted_of ha rfl hj ht, hbc]
  exact hK _ _ (k _ (ha.put_none undef))

theorem unwanted_of {a : Act} (ha : Sat a n D F) {o : Oper} {j t : Nat} {b : Bool} (hg : o.guard = some (j, b)) (hj : ((ops[j]?).bind (·.dst)) = some t) (ht : fget F t = some undef) :
    Region.wanted o (yielded ops a.tmps) = false := by
  have hget := ha.get t _ ht
  simp only [Region.wanted, hg, yielded, hj, Option.bind_some]
  rw [Array.getD_eq_getD_getElem?] at hget
  cases hh : a.tmps[t]? with
  | none => cases b <;> rfl
  | some u =>
    rw [hh] at hget
    simp only [Option.getD_some] at hget
    subst hget
    cases b <;> rfl
/-- the guard itself was passed over -/
theorem snou {d j t : Nat} {b : Bool} (hj : ((ops[j]?).bind (·.dst)) = some t) (ht : fget F t = some undef) (hd : Nat.blt d n = true) (k : wpL P ops Q n D ((d, undef) :: F) rest w) :
    wpL P ops Q n D F (⟨some d, op, T, pos, af, some (j, b)⟩ :: rest) w := by
  intro a ha
  refine wpList_step fun K hK => ?_
  rw [unwanted_of ha rfl hj ht]
  exact hK _ _ (k _ (ha.put hd undef))
theorem ssnou {K : Act → Prop} {d j t : Nat} {b : Bool} (hj : ((ops[j]?).bind (·.dst)) = some t) (ht : fget F t = some undef) (hd : Nat.blt d n = true) (k : wpS P ops w K n D ((d, undef) :: F) rest) :
    wpS P ops w K n D F (⟨some d, op, T, pos, af, some (j, b)⟩ :: rest) := by
  intro a ha
  refine wpStill_step fun K hK => ?_
  rw [unwanted_of ha rfl hj ht]
  exact hK _ (k _ (ha.put hd undef))

/-- the like where the world stays -/
theorem ss {K : Act → Prop} {d : Nat} (h : Zv P w F op T v w) (hd : Nat.blt d n = true) (k : wpS P ops w K n D ((d, v) :: F) rest) : wpS P ops w K n D F (⟨some d, op, T, pos, af, none⟩ :: rest) := by
  intro a ha
  refine wpStill_step fun K hK => ?_
  have hk := hK _ (k _ (ha.put hd v))
  rw [if_pos (by simp [Region.wanted])]
  unfold Oper.still
  rcases h (some d) pos af none a.eval ha.agree with h | ⟨h, hu⟩
  · rw [h]; exact ⟨rfl, hk⟩
  · rw [h]; rw [hu] at hk; exact ⟨rfl, hk⟩
theorem ss0 {K : Act → Prop} (h : Zv P w F op T v w) (k : wpS P ops w K n D F rest) : wpS P ops w K n D F (⟨none, op, T, pos, af, none⟩ :: rest) := by
  intro a ha
  refine wpStill_step fun K hK => ?_
  have hk := hK _ (k _ (ha.put_none v))
  rw [if_pos (by simp [Region.wanted])]
  unfold Oper.still
  rcases h none pos af none a.eval ha.agree with h | ⟨h, hu⟩
  · rw [h]; exact ⟨rfl, hk⟩
  · rw [h]; rw [hu] at hk; exact ⟨rfl, hk⟩
theorem ssg {K : Act → Prop} {d j t : Nat} {b : Bool} (hj : ((ops[j]?).bind (·.dst)) = some t) (ht : fget F t = some (.bool b)) (h : Zv P w F op T v w) (hd : Nat.blt d n = true) (k : wpS P ops w K n D ((d, v) :: F) rest) :
    wpS P ops w K n D F (⟨some d, op, T, pos, af, some (j, b)⟩ :: rest) := by
  intro a ha
  refine wpStill_step fun K hK => ?_
  rw [wanted_of ha rfl hj ht]
  have hk := hK _ (k _ (ha.put hd v))
  simp only [BEq.rfl, if_true]
  unfold Oper.still
  rcases h (some d) pos af (some (j, b)) a.eval ha.agree with h | ⟨h, hu⟩
  · rw [h]; exact ⟨rfl, hk⟩
  · rw [h]; rw [hu] at hk; exact ⟨rfl, hk⟩
theorem ssno {K : Act → Prop} {d j t : Nat} {b c : Bool} (hj : ((ops[j]?).bind (·.dst)) = some t) (ht : fget F t = some (.bool c)) (hbc : (c == b) = false) (hd : Nat.blt d n = true) (k : wpS P ops w K n D ((d, undef) :: F) rest) :
    wpS P ops w K n D F (⟨some d, op, T, pos, af, some (j, b)⟩ :: rest) := by
  intro a ha
  refine wpStill_step fun K hK => ?_
  rw [wanted_of ha rfl hj ht, hbc]
  exact hK _ (k _ (ha.put hd undef))

/-! ### Calls -/
/-- a function of the program that has a body -/
def IsFn (P : Program) (f : FuncId) : Prop := ∃ fn, P.funcs[f]? = some fn ∧ (fn.name == "runtime.NumGoroutine") = false ∧ fn.body.isNone = false

theorem run_callv {f : FuncId} (hfn : IsFn P f) (args : Array Value) (w : World) : (callFunc f args).run P w = .ok (.enter f args) w := by
  obtain ⟨fn, h1, h2, h3⟩ := hfn
  unfold callFunc
  simp only [Sem.run_bind, run_program, Result.andThen_ok, h1, h2, h3, Bool.false_eq_true, if_false, Sem.run_pure]

theorem exec_call {f : FuncId} {x : Operand} {args : Array Operand} {tys : Array TypeId} {vals cap first : List Value} {ρ : Operand → Value} (hρ : Agree ρ F) (hx : ev F x = some (.func (.func f) first.toArray cap.toArray)) (hargs : evs F args.toList = some vals) (hfn : IsFn P f) (dst : Option Tmp) (gd : Option (Nat × Bool)) :
    (execOp ρ ⟨dst, .call ⟨.value x, args, tys⟩, T, pos, af, gd⟩).run P w = .ok (.enter f (first ++ vals ++ cap).toArray) w := by
  have h1 := hρ x _ hx
  have h2 : args.map ρ = vals.toArray := by
    have := hρ.evs args.toList vals hargs
    apply Array.ext'
    simpa using this
  simp [execOp, resolve, h1, h2, Deferred.ofValue, invoke, run_callv hfn]

theorem sc {d : Nat} {f : FuncId} {x : Operand} {args : Array Operand} {tys : Array TypeId} {vals : List Value} {R : Value → World → Prop} (hx : ev F x = some (.func (.func f) #[] #[])) (hargs : evs F args.toList = some vals) (hfn : IsFn P f)
    (hc : Cal P f vals w R) (hd : Nat.blt d n = true) (k : ∀ v w', R v w' → wpL P ops Q n D ((d, v) :: F) rest w') :
    wpL P ops Q n D F (⟨some d, .call ⟨.value x, args, tys⟩, T, pos, af, none⟩ :: rest) w := by
  intro a ha
  refine wpList_plain rfl fun K hK => ?_
  have he := exec_call (P := P) (w := w) (T := T) (pos := pos) (af := af) (tys := tys) (first := []) (cap := []) ha.agree hx hargs hfn (some d) none
  simp only [List.nil_append, List.append_nil] at he
  unfold Oper.wp
  rw [he]
  refine Calls.mono hc ?_
  rintro e w' ⟨v, rfl, hv⟩
  exact hK _ _ (k v w' hv _ (ha.put hd v))
theorem sc0 {f : FuncId} {x : Operand} {args : Array Operand} {tys : Array TypeId} {vals : List Value} {R : Value → World → Prop} (hx : ev F x = some (.func (.func f) #[] #[])) (hargs : evs F args.toList = some vals) (hfn : IsFn P f)
    (hc : Cal P f vals w R) (k : ∀ v w', R v w' → wpL P ops Q n D F rest w') :
    wpL P ops Q n D F (⟨none, .call ⟨.value x, args, tys⟩, T, pos, af, none⟩ :: rest) w := by
  intro a ha
  refine wpList_plain rfl fun K hK => ?_
  have he := exec_call (P := P) (w := w) (T := T) (pos := pos) (af := af) (tys := tys) (first := []) (cap := []) ha.agree hx hargs hfn none none
  simp only [List.nil_append, List.append_nil] at he
  unfold Oper.wp
  rw [he]
  refine Calls.mono hc ?_
  rintro e w' ⟨v, rfl, hv⟩
  exact hK _ _ (k v w' hv _ (ha.put_none v))
/-- a guarded call that is made -/
theorem scg {d j t : Nat} {b : Bool} {f : FuncId} {x : Operand} {args : Array Operand} {tys : Array TypeId} {vals : List Value} {R : Value → World → Prop} (hj : ((ops[j]?).bind (·.dst)) = some t) (ht : fget F t = some (.bool b)) (hx : ev F x = some (.func (.func f) #[] #[])) (hargs : evs F args.toList = some vals) (hfn : IsFn P f)
    (hc : Cal P f vals w R) (hd : Nat.blt d n = true) (k : ∀ v w', R v w' → wpL P ops Q n D ((d, v) :: F) rest w') :
    wpL P ops Q n D F (⟨some d, .call ⟨.value x, args, tys⟩, T, pos, af, some (j, b)⟩ :: rest) w := by
  intro a ha
  refine wpList_step fun K hK => ?_
  rw [wanted_of ha rfl hj ht]
  have he := exec_call (P := P) (w := w) (T := T) (pos := pos) (af := af) (tys := tys) (first := []) (cap := []) ha.agree hx hargs hfn (some d) (some (j, b))
  simp only [List.nil_append, List.append_nil] at he
  simp only [BEq.rfl, if_true]
  unfold Oper.wp
  rw [he]
  refine Calls.mono hc ?_
  rintro e w' ⟨v, rfl, hv⟩
  exact hK _ _ (k v w' hv _ (ha.put hd v))
/-- a call that leaves the world alone, in a region that draws -/
theorem ssc {K : Act → Prop} {d : Nat} {f : FuncId} {x : Operand} {args : Array Operand} {tys : Array TypeId} {vals : List Value} {u : Value} (hx : ev F x = some (.func (.func f) #[] #[])) (hargs : evs F args.toList = some vals) (hfn : IsFn P f)
    (hc : Cal P f vals w (fun v w' => v = u ∧ w = w')) (hd : Nat.blt d n = true) (k : wpS P ops w K n D ((d, u) :: F) rest) :
    wpS P ops w K n D F (⟨some d, .call ⟨.value x, args, tys⟩, T, pos, af, none⟩ :: rest) := by
  intro a ha
  refine wpStill_step fun K hK => ?_
  rw [if_pos (by simp [Region.wanted])]
  have he := exec_call (P := P) (w := w) (T := T) (pos := pos) (af := af) (tys := tys) (first := []) (cap := []) ha.agree hx hargs hfn (some d) none
  simp only [List.nil_append, List.append_nil] at he
  unfold Oper.still
  rw [he]
  refine ⟨rfl, u, Calls.mono hc ?_, hK _ (k _ (ha.put hd u))⟩
  rintro e w' ⟨v, rfl, rfl, rfl⟩
  exact ⟨rfl, rfl⟩

theorem l_nil (h : qf Q .normal n D F w) : wpL P ops Q n D F [] w := fun a ha => wpList_nil (h a ha)
theorem s_nil {K : Act → Prop} (h : ∀ a, Sat a n D F → K a) : wpS P ops w K n D F [] := fun a ha => wpStill_nil (h a ha)

/-! ### Code -/
theorem c_region {id : Nat} {l : List Oper} (h : wpL P l.toArray Q n D F l w) : cwp P (.region id l.toArray false) Q n D F w := fun a ha => wp_region_lit (h a ha)
/-- a region that draws its order and leaves the world alone -/
theorem c_still {id : Nat} {l : List Oper} (hm : P.follows .mixedOrders = true) (hB : Region.lexB .any l.toArray = true) (h : wpS P l.toArray w.drew (fun a' => Q .normal a' w.drew) n D F l) : cwp P (.region id l.toArray true) Q n D F w :=
  fun a ha => wp_region_still_lit hm hB (h a ha)
/-- a region that draws its order: m operations that leave the world alone, then some in one order -/
theorem c_tail {id : Nat} {l : List Oper} (m : Nat) (hm : P.follows .mixedOrders = true) (hB : Region.lexTailB .any l.toArray m = true) (h : wpS P l.toArray w.drew (fun a' => wpList P l.toArray Q (l.drop m) a' w.drew) n D F (l.take m)) : cwp P (.region id l.toArray true) Q n D F w :=
  fun a ha => wp_region_still_tail m hm hB (h a ha)
theorem c_seq {x y : Code} (h : cwp P x (Exit.then (y.wp P Q) Q) n D F w) : cwp P (.seq x y) Q n D F w := fun a ha => wp_seq (h a ha)
theorem c_skip (h : qf Q .normal n D F w) : cwp P .skip Q n D F w := fun a ha => wp_skip (h a ha)
theorem c_label {l : Nat} (h : qf Q .normal n D F w) : cwp P (.label l) Q n D F w := fun a ha => wp_label (h a ha)
theorem c_ret (h : qf Q .ret n D F w) : cwp P .ret Q n D F w := fun a ha => wp_ret (h a ha)
theorem c_exit {id : Nat} (h : qf Q (.exit id) n D F w) : cwp P (.exit id) Q n D F w := fun a ha => wp_exit (h a ha)
theorem c_block {id : Nat} {c : Code} (h : cwp P c (Exit.inBlock id Q) n D F w) : cwp P (.block id c) Q n D F w := fun a ha => wp_block (h a ha)
theorem c_if {p : Prop} [Decidable p] {c : Operand} {x y : Code} (hc : ev F c = some (.bool (decide p))) (ht : p → cwp P x Q n D F w) (hf : ¬ p → cwp P y Q n D F w) : cwp P (.cond c x y) Q n D F w := by
  intro a ha
  have hc' := ha.agree _ _ hc
  by_cases h : p
  · exact wp_cond_true (by rw [hc']; simp [h]) (ht h a ha)
  · exact wp_cond_false (by rw [hc']; simp [h]) (hf h a ha)
theorem c_ifb {b : Bool} {c : Operand} {x y : Code} (hc : ev F c = some (.bool b)) (ht : b = true → cwp P x Q n D F w) (hf : b = false → cwp P y Q n D F w) : cwp P (.cond c x y) Q n D F w := by
  intro a ha
  have hc' := ha.agree _ _ hc
  cases b with
  | true => exact wp_cond_true hc' (ht rfl a ha)
  | false => exact wp_cond_false hc' (hf rfl a ha)
theorem c_true {c : Operand} {x y : Code} {b : Bool} (hc : ev F c = some (.bool b)) (hb : b = true) (ht : cwp P x Q n D F w) : cwp P (.cond c x y) Q n D F w := by
  subst hb; exact fun a ha => wp_cond_true (ha.agree _ _ hc) (ht a ha)
theorem c_false {c : Operand} {x y : Code} {b : Bool} (hc : ev F c = some (.bool b)) (hb : b = false) (hf : cwp P y Q n D F w) : cwp P (.cond c x y) Q n D F w := by
  subst hb; exact fun a ha => wp_cond_false (ha.agree _ _ hc) (hf a ha)

/-! ### Where an ending leads -/
theorem q_then {y : Code} {Q' : Exit → Act → World → Prop} (h : cwp P y Q n D F w) : qf (Exit.then (y.wp P Q) Q') .normal n D F w := h
theorem q_then_ret {k : Act → World → Prop} (h : qf Q .ret n D F w) : qf (Exit.then k Q) .ret n D F w := h
theorem q_then_exit {k : Act → World → Prop} {id : Nat} (h : qf Q (.exit id) n D F w) : qf (Exit.then k Q) (.exit id) n D F w := h
theorem q_block {id : Nat} (h : qf Q .normal n D F w) : qf (Exit.inBlock id Q) .normal n D F w := h
theorem q_block_ret {id : Nat} (h : qf Q .ret n D F w) : qf (Exit.inBlock id Q) .ret n D F w := h
theorem q_block_hit {id : Nat} (h : qf Q .normal n D F w) : qf (Exit.inBlock id Q) (.exit id) n D F w := fun a ha => by simpa [Exit.inBlock] using h a ha
theorem q_block_miss {id id' : Nat} (hne : Nat.beq id' id = false) (h : qf Q (.exit id') n D F w) : qf (Exit.inBlock id Q) (.exit id') n D F w := fun a ha => by
  have : id' ≠ id := fun e => by subst e; simp at hne
  simpa [Exit.inBlock, this] using h a ha

theorem q_end1 {fn : Func} {R : Ending → World → Prop} {e : Exit} {t : Tmp} {v : Value} (he : e = .ret ∨ e = .normal) (hr : fn.results = #[.tmp t]) (hv : fget F t = some v) (hR : R (.returned v) w) : qf (bodyPost P fn R) e n [] F w := by
  intro a ha
  have hx : bodyPost P fn R .ret a w := ⟨ha.defers, v, by rw [results_tmp hr, ha.get t v hv], hR⟩
  rcases he with rfl | rfl <;> exact hx
theorem q_end0 {fn : Func} {R : Ending → World → Prop} {e : Exit} (he : e = .ret ∨ e = .normal) (hr : fn.results = #[]) (hR : R (.returned (.tuple #[])) w) : qf (bodyPost P fn R) e n [] F w := by
  intro a ha
  have hx : bodyPost P fn R .ret a w := ⟨ha.defers, _, by rw [results_none hr], hR⟩
  rcases he with rfl | rfl <;> exact hx
theorem q_end2 {fn : Func} {R : Ending → World → Prop} {e : Exit} {t u : Tmp} {v x : Value} (he : e = .ret ∨ e = .normal) (hr : fn.results = #[.tmp t, .tmp u]) (hv : fget F t = some v) (hx : fget F u = some x) (hR : R (.returned (.tuple #[v, x])) w) : qf (bodyPost P fn R) e n [] F w := by
  intro a ha
  have hx : bodyPost P fn R .ret a w := ⟨ha.defers, _, by rw [results_tmp2 hr, ha.get t v hv, ha.get u x hx], hR⟩
  rcases he with rfl | rfl <;> exact hx
theorem q_end3 {fn : Func} {R : Ending → World → Prop} {e : Exit} {t u s : Tmp} {v x y : Value} (he : e = .ret ∨ e = .normal) (hr : fn.results = #[.tmp t, .tmp u, .tmp s]) (hv : fget F t = some v) (hx : fget F u = some x) (hy : fget F s = some y) (hR : R (.returned (.tuple #[v, x, y])) w) : qf (bodyPost P fn R) e n [] F w := by
  intro a ha
  have hz : bodyPost P fn R .ret a w := ⟨ha.defers, .tuple #[v, x, y], by
    have e1 := ha.get t v hv
    have e2 := ha.get u x hx
    have e3 := ha.get s y hy
    rw [Array.getD_eq_getD_getElem?] at e1 e2 e3
    simp [results, hr, e1, e2, e3], hR⟩
  rcases he with rfl | rfl <;> exact hz

theorem f_weak {e : Exit} {G : Fr} (hs : FS G F) (h : qf Q e n D G w) : qf Q e n D F w := fun a ha => h a (ha.sub hs)
theorem cw_weak {c : Code} {G : Fr} (hs : FS G F) (h : cwp P c Q n D G w) : cwp P c Q n D F w := fun a ha => h a (ha.sub hs)

/-! ### Loops and cuts: a state x of any type says the frame and the world -/
def atX {ι : Type} (G : ι → Fr) (J : ι → World → Prop) (n : Nat) (D : List Deferred) : Act → World → Prop := fun a w => ∃ x, Sat a n D (G x) ∧ J x w
def atL {ι : Type} (G : ι → Fr) (J : ι → World → Prop) (μ : ι → Nat) (m : Nat) (n : Nat) (D : List Deferred) : Act → World → Prop := fun a w => ∃ x, Sat a n D (G x) ∧ J x w ∧ μ x < m

theorem c_loop {ι : Type} {c : Code} (G : ι → Fr) (J : ι → World → Prop) (μ : ι → Nat) (x0 : ι) (h0 : FS (G x0) F) (hJ : J x0 w)
    (round : ∀ x w', J x w' → cwp P c (Exit.then (atL G J μ (μ x) n D) Q) n D (G x) w') : cwp P (.loop c) Q n D F w := by
  intro a ha b k cs
  have key : ∀ m x a w, μ x = m → Sat a n D (G x) → J x w →
      ∃ e a' w', Q e a' w' ∧ Arrives P (lone (b.at a (.code c :: .inLoop c :: k)) cs w) b k cs e a' w' := by
    intro m
    induction m using Nat.strongRecOn with
    | _ m ih =>
      intro x a w hm hs hj
      obtain ⟨e, a₁, w₁, hq, harr⟩ := round x w hj a hs b (.inLoop c :: k) cs
      cases e with
      | normal =>
        obtain ⟨y, hs₁, hj₁, hlt⟩ := hq
        obtain ⟨e₂, a₂, w₂, hq₂, harr₂⟩ := ih (μ y) (hm ▸ hlt) y a₁ w₁ rfl hs₁ hj₁
        exact ⟨e₂, a₂, w₂, hq₂, .of_steps (Steps.trans harr (.one step_inLoop)) harr₂⟩
      | exit id => exact ⟨_, a₁, w₁, hq, .pass (x := .inLoop c) rfl (fun _ _ => .inl (by simp)) harr⟩
      | goto l => exact ⟨_, a₁, w₁, hq, .pass (x := .inLoop c) rfl (fun _ _ => .inl (by simp)) harr⟩
      | ret => exact ⟨_, a₁, w₁, hq, .pass (x := .inLoop c) rfl (fun _ _ => .inl (by simp)) harr⟩
      | panic ch => exact ⟨_, a₁, w₁, hq, .pass (x := .inLoop c) rfl (fun _ _ => .inl (by simp)) harr⟩
      | outgrown => exact ⟨_, a₁, w₁, hq, .pass (x := .inLoop c) rfl (fun _ _ => .inl (by simp)) harr⟩
  obtain ⟨e, a', w', hq, harr⟩ := key _ x0 a w rfl (ha.sub h0) hJ
  exact ⟨e, a', w', hq, .of_steps (.one step_loop) harr⟩

theorem q_round {ι : Type} {G : ι → Fr} {J : ι → World → Prop} {μ : ι → Nat} {m : Nat} {Q' : Exit → Act → World → Prop} (x : ι) (hs : FS (G x) F) (hJ : J x w) (hlt : μ x < m) : qf (Exit.then (atL G J μ m n D) Q') .normal n D F w :=
  fun a ha => ⟨x, ha.sub hs, hJ, hlt⟩

theorem c_cut {ι : Type} {x y : Code} (G : ι → Fr) (J : ι → World → Prop) (h1 : cwp P x (Exit.then (atX G J n D) Q) n D F w) (h2 : ∀ i w', J i w' → cwp P y Q n D (G i) w') : cwp P (.seq x y) Q n D F w := by
  intro a ha
  refine wp_seq (wp_mono (h1 a ha) ?_)
  intro e a' w' hq
  cases e with
  | normal => obtain ⟨i, hs, hj⟩ := hq; exact h2 i w' hj a' hs
  | _ => exact hq

theorem q_meet {ι : Type} {G : ι → Fr} {J : ι → World → Prop} {Q' : Exit → Act → World → Prop} (x : ι) (hs : FS (G x) F) (hJ : J x w) : qf (Exit.then (atX G J n D) Q') .normal n D F w :=
  fun a ha => ⟨x, ha.sub hs, hJ⟩

end steps

def frame0 : Nat → List Value → Fr
  | _, [] => []
  | i, v :: r => (i, v) :: frame0 (i + 1) r

theorem frame0_get (l : List Value) : ∀ (i x : Nat) (v : Value), fget (frame0 i l) x = some v → i ≤ x ∧ l[x - i]? = some v := by
  induction l with
  | nil => intro i x v h; simp [frame0, fget] at h
  | cons u r ih =>
    intro i x v h
    simp only [frame0, fget] at h
    cases hb : Nat.beq i x with
    | true =>
      rw [hb] at h
      have := Nat.eq_of_beq_eq_true hb
      subst this
      simpa using h
    | false =>
      rw [hb] at h
      have hne : i ≠ x := fun e => by subst e; simp at hb
      obtain ⟨h1, h2⟩ := ih (i + 1) x v h
      refine ⟨by omega, ?_⟩
      rw [show x - i = (x - (i + 1)) + 1 by omega]
      simpa using h2

/-- into a function: its arguments are the first slots -/
theorem go_in' {P : Program} {f : FuncId} {fn : Func} {c : Code} {n : Nat} {args : List Value} {w : World} {R : Value → World → Prop} (hf : P.funcs[f]? = some fn) (hb : fn.body = some c) (hn : fn.ntmps = n) (hle : args.length ≤ n)
    (h : cwp P c (bodyPost P fn (fun e w' => ∃ v, e = .returned v ∧ R v w')) n [] (frame0 0 args) w) : Cal P f args w R := by
  refine calls_of_wp hf hb (h _ ⟨rfl, by simp [hn]; omega, ?_⟩)
  intro x v hx
  obtain ⟨_, h2⟩ := frame0_get args 0 x v hx
  have hlt : x < args.length := by
    rcases Nat.lt_or_ge x args.length with h | h
    · exact h
    · simp [List.getElem?_eq_none h] at h2
  have h3 : args[x]? = some v := by simpa using h2
  have h4 : args[x] = v := by rw [List.getElem?_eq_getElem hlt] at h3; exact Option.some.inj h3
  simp [Array.getD_eq_getD_getElem?, Array.getElem?_append, hlt, h4]

end Go.Proofs.YtkemlhhpakjojaaDoor

/- One lemma for each operation: what it answers, in numbers; no statement of the program is proved here. -/
set_option linter.unusedVariables false
set_option linter.unusedSimpArgs false
namespace Go.Proofs.YtkemlhhpakjojaaDoor
open Go

abbrev vU (m : Nat) : Value := .int .u64 (m : Int)
abbrev vI (z : Int) : Value := .int .i64 z
abbrev v8 (m : Nat) : Value := .int .u8 (m : Int)
abbrev vP (b : Nat) : Value := .pointer (some ⟨b, 0, none⟩)
abbrev pt (b o : Nat) : Value := .pointer (some ⟨b, o, none⟩)
abbrev vS (b n c : Nat) : Value := .slice (some ⟨b, 0, none⟩) n c
abbrev vT (l : List Value) : Value := .tuple l.toArray

def M64 : Nat := 18446744073709551616

/-- turned round, in 64 bits -/
def nt (m : Nat) : Nat := m ^^^ 18446744073709551615

/-! ### Facts on types -/
def tOne (P : Program) (t : TypeId) : Bool := match P.underlying t with
  | some (.struct _) | some (.array _ _) => false
  | some _ => true
  | none => false
def tSize (P : Program) (t : TypeId) : Option Nat := (P.info? t).map (·.size)

section ops
variable {P : Program} {F : Fr} {w : World} {T : TypeId}

theorem run_isAgg {t : TypeId} (h : tOne P t = true) : (isAgg t).run P w = .ok false w := by
  unfold tOne at h
  unfold isAgg
  cases hd : P.underlying t with
  | none => simp [hd] at h
  | some d => rw [hd] at h; cases d <;> simp_all [run_underlying hd]

theorem run_sizeOf {t : TypeId} {n : Nat} (h : tSize P t = some n) : (sizeOf t).run P w = .ok n w := by
  unfold tSize at h
  cases hi : P.info? t with
  | none => simp [hi] at h
  | some i =>
    simp only [hi, Option.map_some, Option.some.injEq] at h
    simp [sizeOf, typeInfo, hi, h]

/-! ### What moves -/
theorem y_move {x : Operand} {v : Value} (hx : ev F x = some v) : Zv P w F (.move x) T v w := fun dst pos af gd ρ hρ => .inl (by simp [execOp, hρ _ _ hx])
theorem y_assign {x : Operand} {v : Value} (hx : ev F x = some v) : Zv P w F (.assign x) T v w := fun dst pos af gd ρ hρ => .inl (by simp [execOp, hρ _ _ hx])
theorem y_pick {c a b : Operand} {t : Bool} {va vb : Value} (hc : ev F c = some (.bool t)) (ha : ev F a = some va) (hb : ev F b = some vb) : Zv P w F (.pick c a b) T (bif t then va else vb) w :=
  fun dst pos af gd ρ hρ => .inl (by cases t <;> simp [execOp, hρ _ _ hc, hρ _ _ ha, hρ _ _ hb, asBool])
theorem y_pickT {c a b : Operand} {va : Value} (hc : ev F c = some (.bool true)) (ha : ev F a = some va) : Zv P w F (.pick c a b) T va w :=
  fun dst pos af gd ρ hρ => .inl (by simp [execOp, hρ _ _ hc, hρ _ _ ha, asBool])
theorem y_pickF {c a b : Operand} {vb : Value} (hc : ev F c = some (.bool false)) (hb : ev F b = some vb) : Zv P w F (.pick c a b) T vb w :=
  fun dst pos af gd ρ hρ => .inl (by simp [execOp, hρ _ _ hc, hρ _ _ hb, asBool])
theorem y_nil {x : Operand} {a : Addr} (hx : ev F x = some (.pointer (some a))) : Zv P w F (.nilCheck x) T (.pointer (some a)) w := fun dst pos af gd ρ hρ => .inl (by simp [execOp, hρ _ _ hx])
theorem y_nilf {x : Operand} {f : FuncId} {fs cs : Array Value} (hx : ev F x = some (.func (.func f) fs cs)) : Zv P w F (.nilCheck x) T (.func (.func f) fs cs) w := fun dst pos af gd ρ hρ => .inl (by simp [execOp, hρ _ _ hx])
theorem y_extract {x : Operand} {l : List Value} {i : Nat} {v : Value} (hx : ev F x = some (.tuple l.toArray)) (hv : l[i]? = some v) : Zv P w F (.extract x i) T v w :=
  fun dst pos af gd ρ hρ => .inl (by simp [execOp, hρ _ _ hx, Instr.extract, hv])
theorem y_not {x : Operand} {b : Bool} {t : TypeId} (hx : ev F x = some (.bool b)) : Zv P w F (.unOp .not t x) T (.bool (!b)) w := fun dst pos af gd ρ hρ => .inl (by simp [execOp, hρ _ _ hx, Op.unary])
theorem y_makeFunc {fn : Fn} {first captured : Array Operand} {fs cs : List Value} (h1 : evs F first.toList = some fs) (h2 : evs F captured.toList = some cs) : Zv P w F (.makeFunc fn first captured) T (.func fn fs.toArray cs.toArray) w :=
  fun dst pos af gd ρ hρ => .inl (by
    have e1 : first.map ρ = fs.toArray := by apply Array.ext'; simpa using hρ.evs _ _ h1
    have e2 : captured.map ρ = cs.toArray := by apply Array.ext'; simpa using hρ.evs _ _ h2
    simp [execOp, Instr.makeFunc, e1, e2])

/-! ### Numbers -/
theorem wrap_u64 (z : Int) (h0 : 0 ≤ z) (h : z < 18446744073709551616) : IntKind.u64.wrap z = z := by rw [IntKind.wrap_u64]; omega
theorem wrap_i64 (z : Int) (h0 : -9223372036854775808 ≤ z) (h : z < 9223372036854775808) : IntKind.i64.wrap z = z := by rw [IntKind.wrap_i64]; omega

theorem y_arith {op : BinOp} {k : IntKind} {x y : Operand} {t t' : TypeId} {a b r : Int} (hx : ev F x = some (.int k a)) (hy : ev F y = some (.int k b)) (hr : ∀ ρ : Operand → Value, (binOp op t (.int k a) (.int k b)).run P w = .ok (.int k r) w) (hop : op = .add ∨ op = .sub ∨ op = .mul ∨ op = .quo ∨ op = .rem ∨ op = .and ∨ op = .or ∨ op = .xor ∨ op = .andNot) :
    Zv P w F (.binOp op t x y t') T (.int k r) w := fun dst pos af gd ρ hρ => .inl (by
  have h := hr ρ
  rcases hop with rfl | rfl | rfl | rfl | rfl | rfl | rfl | rfl | rfl <;> simp [execOp, hρ _ _ hx, hρ _ _ hy, eqGuard, h])

theorem y_add_u {x y : Operand} {t t' : TypeId} {a b : Nat} (hx : ev F x = some (vU a)) (hy : ev F y = some (vU b)) (h : a + b < 18446744073709551616) : Zv P w F (.binOp .add t x y t') T (vU (a + b)) w :=
  fun dst pos af gd ρ hρ => .inl (by
    have e := wrap_u64 ((a : Int) + b) (by omega) (by omega)
    simp [execOp, hρ _ _ hx, hρ _ _ hy, eqGuard, binOp, Op.intArith, e])
theorem y_sub_u {x y : Operand} {t t' : TypeId} {a b : Nat} (hx : ev F x = some (vU a)) (hy : ev F y = some (vU b)) (h : b ≤ a) (h2 : a < 18446744073709551616) : Zv P w F (.binOp .sub t x y t') T (vU (a - b)) w :=
  fun dst pos af gd ρ hρ => .inl (by
    have e := wrap_u64 ((a : Int) - b) (by omega) (by omega)
    have e2 : ((a - b : Nat) : Int) = (a : Int) - b := by omega
    simp [execOp, hρ _ _ hx, hρ _ _ hy, eqGuard, binOp, Op.intArith, e, vU, e2])
/-- a difference that may lie below 0 -/
theorem y_subw_u {x y : Operand} {t t' : TypeId} {a b : Nat} (hx : ev F x = some (vU a)) (hy : ev F y = some (vU b)) (h : a < 18446744073709551616) (h2 : b < 18446744073709551616) : Zv P w F (.binOp .sub t x y t') T (vU ((a + (18446744073709551616 - b)) % 18446744073709551616)) w :=
  fun dst pos af gd ρ hρ => .inl (by
    have e : IntKind.u64.wrap ((a : Int) - b) = ((((a + (18446744073709551616 - b)) % 18446744073709551616) : Nat) : Int) := by rw [IntKind.wrap_u64]; omega
    simp only [execOp, hρ _ _ hx, hρ _ _ hy, eqGuard, binOp, Op.intArith, vU]
    simp [e])
theorem y_addw_u {x y : Operand} {t t' : TypeId} {a b : Nat} (hx : ev F x = some (vU a)) (hy : ev F y = some (vU b)) : Zv P w F (.binOp .add t x y t') T (vU ((a + b) % 18446744073709551616)) w :=
  fun dst pos af gd ρ hρ => .inl (by
    have e : IntKind.u64.wrap ((a : Int) + b) = ((((a + b) % 18446744073709551616) : Nat) : Int) := by rw [IntKind.wrap_u64]; omega
    simp only [execOp, hρ _ _ hx, hρ _ _ hy, eqGuard, binOp, Op.intArith, vU]
    simp [e])
theorem y_mul_u {x y : Operand} {t t' : TypeId} {a b : Nat} (hx : ev F x = some (vU a)) (hy : ev F y = some (vU b)) (h : a * b < 18446744073709551616) : Zv P w F (.binOp .mul t x y t') T (vU (a * b)) w :=
  fun dst pos af gd ρ hρ => .inl (by
    have e0 : ((a * b : Nat) : Int) = (a : Int) * b := by simp
    have e := wrap_u64 ((a : Int) * b) (by rw [← e0]; omega) (by rw [← e0]; omega)
    simp [execOp, hρ _ _ hx, hρ _ _ hy, eqGuard, binOp, Op.intArith, e])
theorem y_mulw_u {x y : Operand} {t t' : TypeId} {a b : Nat} (hx : ev F x = some (vU a)) (hy : ev F y = some (vU b)) : Zv P w F (.binOp .mul t x y t') T (vU ((a * b) % 18446744073709551616)) w :=
  fun dst pos af gd ρ hρ => .inl (by
    have e0 : ((a * b : Nat) : Int) = (a : Int) * b := by simp
    have e : IntKind.u64.wrap ((a : Int) * b) = ((((a * b) % 18446744073709551616) : Nat) : Int) := by rw [← e0, IntKind.wrap_u64]; omega
    simp only [execOp, hρ _ _ hx, hρ _ _ hy, eqGuard, binOp, Op.intArith, vU]
    simp [e])
theorem y_quo_u {x y : Operand} {t t' : TypeId} {a b : Nat} (hx : ev F x = some (vU a)) (hy : ev F y = some (vU b)) (hb : 0 < b) (h : a < 18446744073709551616) : Zv P w F (.binOp .quo t x y t') T (vU (a / b)) w :=
  fun dst pos af gd ρ hρ => .inl (by
    have hb' : ¬ (b : Int) = 0 := by omega
    have hle : a / b ≤ a := Nat.div_le_self _ _
    have e0 : (a : Int).tdiv (b : Int) = ((a / b : Nat) : Int) := by simp
    have e := wrap_u64 (((a / b : Nat) : Int)) (Int.natCast_nonneg _) (by have := Int.ofNat_le.2 hle; omega)
    have hb2 : ¬ b = 0 := by omega
    simp only [execOp, hρ _ _ hx, hρ _ _ hy, eqGuard, binOp, Op.intDiv, vU]
    simp only [if_neg hb', e0, e]
    simp)
theorem y_rem_u {x y : Operand} {t t' : TypeId} {a b : Nat} (hx : ev F x = some (vU a)) (hy : ev F y = some (vU b)) (hb : 0 < b) : Zv P w F (.binOp .rem t x y t') T (vU (a % b)) w :=
  fun dst pos af gd ρ hρ => .inl (by
    have hb' : ¬ (b : Int) = 0 := by omega
    have e0 : (a : Int).tmod (b : Int) = ((a % b : Nat) : Int) := (Int.tmod_eq_emod_of_nonneg (by omega)).trans (by simp)
    simp only [execOp, hρ _ _ hx, hρ _ _ hy, eqGuard, binOp, Op.intDiv, vU]
    simp only [if_neg hb', e0]
    simp)
theorem y_add_i {x y : Operand} {t t' : TypeId} {a b : Int} (hx : ev F x = some (vI a)) (hy : ev F y = some (vI b)) (h0 : -9223372036854775808 ≤ a + b) (h : a + b < 9223372036854775808) : Zv P w F (.binOp .add t x y t') T (vI (a + b)) w :=
  fun dst pos af gd ρ hρ => .inl (by simp [execOp, hρ _ _ hx, hρ _ _ hy, eqGuard, binOp, Op.intArith, wrap_i64 _ h0 h])
theorem y_add_in {x y : Operand} {t t' : TypeId} {a b : Nat} (hx : ev F x = some (vI (a : Nat))) (hy : ev F y = some (vI (b : Nat))) (h : a + b < 9223372036854775808) : Zv P w F (.binOp .add t x y t') T (vI ((a + b : Nat) : Int)) w := by
  have := y_add_i (P := P) (w := w) (T := T) (t := t) (t' := t') hx hy (by omega) (by omega)
  simpa using this
theorem y_mul_in {x y : Operand} {t t' : TypeId} {a b : Nat} (hx : ev F x = some (vI (a : Nat))) (hy : ev F y = some (vI (b : Nat))) (h : a * b < 9223372036854775808) : Zv P w F (.binOp .mul t x y t') T (vI ((a * b : Nat) : Int)) w :=
  fun dst pos af gd ρ hρ => .inl (by
    have e0 : ((a * b : Nat) : Int) = (a : Int) * b := by simp
    have e := wrap_i64 ((a : Int) * b) (by rw [← e0]; omega) (by rw [← e0]; omega)
    simp [execOp, hρ _ _ hx, hρ _ _ hy, eqGuard, binOp, Op.intArith, e])
theorem y_sub_i {x y : Operand} {t t' : TypeId} {a b : Int} (hx : ev F x = some (vI a)) (hy : ev F y = some (vI b)) (h0 : -9223372036854775808 ≤ a - b) (h : a - b < 9223372036854775808) : Zv P w F (.binOp .sub t x y t') T (vI (a - b)) w :=
  fun dst pos af gd ρ hρ => .inl (by simp [execOp, hρ _ _ hx, hρ _ _ hy, eqGuard, binOp, Op.intArith, wrap_i64 _ h0 h])
theorem y_mul_i {x y : Operand} {t t' : TypeId} {a b : Int} (hx : ev F x = some (vI a)) (hy : ev F y = some (vI b)) (h0 : -9223372036854775808 ≤ a * b) (h : a * b < 9223372036854775808) : Zv P w F (.binOp .mul t x y t') T (vI (a * b)) w :=
  fun dst pos af gd ρ hρ => .inl (by simp [execOp, hρ _ _ hx, hρ _ _ hy, eqGuard, binOp, Op.intArith, wrap_i64 _ h0 h])
theorem y_quo_i {x y : Operand} {t t' : TypeId} {a b : Nat} (hx : ev F x = some (vI a)) (hy : ev F y = some (vI b)) (hb : 0 < b) (h : a < 9223372036854775808) : Zv P w F (.binOp .quo t x y t') T (vI ((a / b : Nat) : Int)) w :=
  fun dst pos af gd ρ hρ => .inl (by
    have hb' : ¬ (b : Int) = 0 := by omega
    have hle : a / b ≤ a := Nat.div_le_self _ _
    have e0 : (a : Int).tdiv (b : Int) = ((a / b : Nat) : Int) := by simp
    have e := wrap_i64 (((a / b : Nat) : Int)) (by have := Int.natCast_nonneg (a / b); omega) (by have := Int.ofNat_le.2 hle; omega)
    simp only [execOp, hρ _ _ hx, hρ _ _ hy, eqGuard, binOp, Op.intDiv, vI]
    simp only [if_neg hb', e0, e]
    simp)
theorem y_rem_i {x y : Operand} {t t' : TypeId} {a b : Nat} (hx : ev F x = some (vI a)) (hy : ev F y = some (vI b)) (hb : 0 < b) : Zv P w F (.binOp .rem t x y t') T (vI ((a % b : Nat) : Int)) w :=
  fun dst pos af gd ρ hρ => .inl (by
    have hb' : ¬ (b : Int) = 0 := by omega
    have e0 : (a : Int).tmod (b : Int) = ((a % b : Nat) : Int) := (Int.tmod_eq_emod_of_nonneg (by omega)).trans (by simp)
    simp only [execOp, hρ _ _ hx, hρ _ _ hy, eqGuard, binOp, Op.intDiv, vI]
    simp only [if_neg hb', e0]
    simp)

theorem ofInt64 (a : Nat) : BitVec.ofInt 64 (a : Int) = BitVec.ofNat 64 a := by simp
theorem and_lt64 {a : Nat} (b : Nat) (h : a < 18446744073709551616) : a &&& b < 18446744073709551616 := Nat.lt_of_le_of_lt Nat.and_le_left h
theorem or_lt64 {a b : Nat} (h : a < 18446744073709551616) (h2 : b < 18446744073709551616) : a ||| b < 18446744073709551616 := Nat.or_lt_two_pow (n := 64) h h2
theorem xor_lt64 {a b : Nat} (h : a < 18446744073709551616) (h2 : b < 18446744073709551616) : a ^^^ b < 18446744073709551616 := Nat.xor_lt_two_pow (n := 64) h h2
theorem nt_lt {a : Nat} (h : a < 18446744073709551616) : nt a < 18446744073709551616 := xor_lt64 h (by decide)
theorem shl_lt64 (a k : Nat) : (a <<< k) % 18446744073709551616 < 18446744073709551616 := Nat.mod_lt _ (by decide)
theorem shr_lt64 {a : Nat} (k : Nat) (h : a < 18446744073709551616) : a >>> k < 18446744073709551616 := Nat.lt_of_le_of_lt (Nat.shiftRight_le _ _) h

theorem y_and {x y : Operand} {t t' : TypeId} {a b : Nat} (hx : ev F x = some (vU a)) (hy : ev F y = some (vU b)) (h : a < 18446744073709551616) (h2 : b < 18446744073709551616) : Zv P w F (.binOp .and t x y t') T (vU (a &&& b)) w :=
  fun dst pos af gd ρ hρ => .inl (by
    have e : (BitVec.ofInt IntKind.u64.bits (a : Int) &&& BitVec.ofInt IntKind.u64.bits (b : Int)).toNat = a &&& b := by
      show (BitVec.ofInt 64 (a : Int) &&& BitVec.ofInt 64 (b : Int)).toNat = _
      rw [ofInt64, ofInt64, BitVec.toNat_and, BitVec.toNat_ofNat, BitVec.toNat_ofNat, Nat.mod_eq_of_lt h, Nat.mod_eq_of_lt h2]
    have e2 := wrap_u64 ((a &&& b : Nat) : Int) (by omega) (by have := and_lt64 b h; omega)
    simp only [execOp, hρ _ _ hx, hρ _ _ hy, eqGuard, binOp, Op.intBits, vU]
    simp only [e, e2]
    simp)
theorem y_or {x y : Operand} {t t' : TypeId} {a b : Nat} (hx : ev F x = some (vU a)) (hy : ev F y = some (vU b)) (h : a < 18446744073709551616) (h2 : b < 18446744073709551616) : Zv P w F (.binOp .or t x y t') T (vU (a ||| b)) w :=
  fun dst pos af gd ρ hρ => .inl (by
    have e : (BitVec.ofInt IntKind.u64.bits (a : Int) ||| BitVec.ofInt IntKind.u64.bits (b : Int)).toNat = a ||| b := by
      show (BitVec.ofInt 64 (a : Int) ||| BitVec.ofInt 64 (b : Int)).toNat = _
      rw [ofInt64, ofInt64, BitVec.toNat_or, BitVec.toNat_ofNat, BitVec.toNat_ofNat, Nat.mod_eq_of_lt h, Nat.mod_eq_of_lt h2]
    have e2 := wrap_u64 ((a ||| b : Nat) : Int) (by omega) (by have := or_lt64 h h2; omega)
    simp only [execOp, hρ _ _ hx, hρ _ _ hy, eqGuard, binOp, Op.intBits, vU]
    simp only [e, e2]
    simp)
theorem y_xor {x y : Operand} {t t' : TypeId} {a b : Nat} (hx : ev F x = some (vU a)) (hy : ev F y = some (vU b)) (h : a < 18446744073709551616) (h2 : b < 18446744073709551616) : Zv P w F (.binOp .xor t x y t') T (vU (a ^^^ b)) w :=
  fun dst pos af gd ρ hρ => .inl (by
    have e : (BitVec.ofInt IntKind.u64.bits (a : Int) ^^^ BitVec.ofInt IntKind.u64.bits (b : Int)).toNat = a ^^^ b := by
      show (BitVec.ofInt 64 (a : Int) ^^^ BitVec.ofInt 64 (b : Int)).toNat = _
      rw [ofInt64, ofInt64, BitVec.toNat_xor, BitVec.toNat_ofNat, BitVec.toNat_ofNat, Nat.mod_eq_of_lt h, Nat.mod_eq_of_lt h2]
    have e2 := wrap_u64 ((a ^^^ b : Nat) : Int) (by omega) (by have := xor_lt64 h h2; omega)
    simp only [execOp, hρ _ _ hx, hρ _ _ hy, eqGuard, binOp, Op.intBits, vU]
    simp only [e, e2]
    simp)
theorem not_toNat {b : Nat} (h : b < 18446744073709551616) : (~~~ (BitVec.ofNat 64 b)).toNat = nt b := by
  unfold nt
  rw [BitVec.toNat_not, BitVec.toNat_ofNat, Nat.mod_eq_of_lt h]
  apply Nat.eq_of_testBit_eq
  intro i
  rw [show (2 ^ 64 - 1 - b) = 2 ^ 64 - (b + 1) by omega, Nat.testBit_two_pow_sub_succ (by simpa using h), Nat.testBit_xor, show (18446744073709551615 : Nat) = 2 ^ 64 - 1 by decide, Nat.testBit_two_pow_sub_one]
  by_cases hi : i < 64
  · simp [hi]
  · have : b.testBit i = false := Nat.testBit_lt_two_pow (Nat.lt_of_lt_of_le h (by simpa using Nat.pow_le_pow_right (n := 2) (by decide) (show 64 ≤ i by omega)))
    simp [hi, this]
theorem y_andNot {x y : Operand} {t t' : TypeId} {a b : Nat} (hx : ev F x = some (vU a)) (hy : ev F y = some (vU b)) (h : a < 18446744073709551616) (h2 : b < 18446744073709551616) : Zv P w F (.binOp .andNot t x y t') T (vU (a &&& nt b)) w :=
  fun dst pos af gd ρ hρ => .inl (by
    have e : (BitVec.ofInt IntKind.u64.bits (a : Int) &&& ~~~ BitVec.ofInt IntKind.u64.bits (b : Int)).toNat = a &&& nt b := by
      show (BitVec.ofInt 64 (a : Int) &&& ~~~ BitVec.ofInt 64 (b : Int)).toNat = _
      rw [ofInt64, ofInt64, BitVec.toNat_and, not_toNat h2, BitVec.toNat_ofNat, Nat.mod_eq_of_lt h]
    have e2 := wrap_u64 ((a &&& nt b : Nat) : Int) (by omega) (by have := and_lt64 (nt b) h; omega)
    simp only [execOp, hρ _ _ hx, hρ _ _ hy, eqGuard, binOp, Op.intBits, vU]
    simp only [e, e2]
    simp)
theorem y_compl {x : Operand} {t : TypeId} {a : Nat} (hx : ev F x = some (vU a)) (h : a < 18446744073709551616) : Zv P w F (.unOp .xor t x) T (vU (nt a)) w :=
  fun dst pos af gd ρ hρ => .inl (by
    have e : (BitVec.ofInt IntKind.u64.bits (if IntKind.u64.signed then -1 else IntKind.u64.max) ^^^ BitVec.ofInt IntKind.u64.bits (a : Int)).toNat = nt a := by
      show (BitVec.ofInt 64 18446744073709551615 ^^^ BitVec.ofInt 64 (a : Int)).toNat = _
      rw [ofInt64, BitVec.toNat_xor, BitVec.toNat_ofNat, Nat.mod_eq_of_lt h, Nat.xor_comm]
      rfl
    have e2 := wrap_u64 ((nt a : Nat) : Int) (by omega) (by have := nt_lt h; omega)
    simp only [execOp, hρ _ _ hx, Op.unary, Op.intBits, vU]
    simp only [e, e2]
    simp)
/-- the wrapping negative of an unsigned number -/
theorem y_neg_u {x : Operand} {t : TypeId} {a : Nat} (hx : ev F x = some (vU a)) (h : a < 18446744073709551616) : Zv P w F (.unOp .neg t x) T (vU ((18446744073709551616 - a) % 18446744073709551616)) w :=
  fun dst pos af gd ρ hρ => .inl (by
    have e : IntKind.u64.wrap (0 - (a : Int)) = ((((18446744073709551616 - a) % 18446744073709551616) : Nat) : Int) := by rw [IntKind.wrap_u64]; omega
    simp only [execOp, hρ _ _ hx, Op.unary, Op.intArith, vU, e]
    simp)

theorem shl_val (a k : Nat) : IntKind.u64.wrap ((a : Int) * 2 ^ min k 64) = (((a <<< k) % 18446744073709551616 : Nat) : Int) := by
  rw [IntKind.wrap_u64]
  have e0 : ((a : Int) * 2 ^ min k 64) = ((a * 2 ^ min k 64 : Nat) : Int) := by simp
  rw [e0]
  have e1 : (a * 2 ^ min k 64) % 18446744073709551616 = (a <<< k) % 18446744073709551616 := by
    rw [Nat.shiftLeft_eq]
    rcases Nat.le_total k 64 with h | h
    · rw [Nat.min_eq_left h]
    · rw [Nat.min_eq_right h]
      obtain ⟨j, rfl⟩ : ∃ j, k = 64 + j := ⟨k - 64, by omega⟩
      rw [Nat.pow_add]
      have : (2 : Nat) ^ 64 = 18446744073709551616 := by decide
      rw [this, Nat.mul_comm 18446744073709551616 (2 ^ j), ← Nat.mul_assoc, Nat.mul_mod_left, Nat.mul_mod_left]
  rw [← e1]
  omega
theorem shr_val {a : Nat} (k : Nat) (h : a < 18446744073709551616) : Int.fdiv (a : Int) (2 ^ min k 64) = ((a >>> k : Nat) : Int) := by
  have e0 : ((2 : Int) ^ min k 64) = ((2 ^ min k 64 : Nat) : Int) := by simp
  rw [e0, Int.fdiv_eq_ediv_of_nonneg _ (Int.natCast_nonneg _)]
  have e1 : a / 2 ^ min k 64 = a >>> k := by
    rw [Nat.shiftRight_eq_div_pow]
    rcases Nat.le_total k 64 with h' | h'
    · rw [Nat.min_eq_left h']
    · rw [Nat.min_eq_right h', Nat.div_eq_of_lt (by simpa using h), Nat.div_eq_of_lt (Nat.lt_of_lt_of_le h (by simpa using Nat.pow_le_pow_right (n := 2) (by decide) h'))]
  rw [← e1]
  simp
theorem y_shl {x y : Operand} {t t' : TypeId} {k' : IntKind} {a k : Nat} (hx : ev F x = some (vU a)) (hy : ev F y = some (.int k' (k : Int))) : Zv P w F (.binOp .shl t x y t') T (vU ((a <<< k) % 18446744073709551616)) w :=
  fun dst pos af gd ρ hρ => .inl (by
    have h0 : ¬ ((k : Int) < 0) := by omega
    have e := shl_val a k
    simp only [execOp, hρ _ _ hx, hρ _ _ hy, eqGuard, binOp, Op.shift, if_neg h0, Int.toNat_natCast, vU]
    have hb : IntKind.u64.bits = 64 := rfl
    rw [hb, e]
    simp)
theorem y_shr {x y : Operand} {t t' : TypeId} {k' : IntKind} {a k : Nat} (hx : ev F x = some (vU a)) (hy : ev F y = some (.int k' (k : Int))) (h : a < 18446744073709551616) : Zv P w F (.binOp .shr t x y t') T (vU (a >>> k)) w :=
  fun dst pos af gd ρ hρ => .inl (by
    have h0 : ¬ ((k : Int) < 0) := by omega
    have e := shr_val k h
    simp only [execOp, hρ _ _ hx, hρ _ _ hy, eqGuard, binOp, Op.shift, if_neg h0, Int.toNat_natCast, vU]
    have hb : IntKind.u64.bits = 64 := rfl
    rw [hb, e]
    simp)
/-- shifts of an int that is not negative, by a small count -/
theorem y_shr_i {x y : Operand} {t t' : TypeId} {k' : IntKind} {a k : Nat} (hx : ev F x = some (vI a)) (hy : ev F y = some (.int k' (k : Int))) (hk : k ≤ 64) : Zv P w F (.binOp .shr t x y t') T (vI ((a / 2 ^ k : Nat) : Int)) w :=
  fun dst pos af gd ρ hρ => .inl (by
    have h0 : ¬ ((k : Int) < 0) := by omega
    have e : Int.fdiv (a : Int) (2 ^ min k 64) = ((a / 2 ^ k : Nat) : Int) := by
      rw [Nat.min_eq_left hk]
      have e0 : ((2 : Int) ^ k) = ((2 ^ k : Nat) : Int) := by simp
      rw [e0, Int.fdiv_eq_ediv_of_nonneg _ (Int.natCast_nonneg _)]
      simp
    simp only [execOp, hρ _ _ hx, hρ _ _ hy, eqGuard, binOp, Op.shift, if_neg h0, Int.toNat_natCast, vI]
    have hb : IntKind.i64.bits = 64 := rfl
    rw [hb, e]
    simp)
theorem y_shl_i {x y : Operand} {t t' : TypeId} {k' : IntKind} {a : Int} {k : Nat} (hx : ev F x = some (vI a)) (hy : ev F y = some (.int k' (k : Int))) (hk : k ≤ 64) (h0 : -9223372036854775808 ≤ a * 2 ^ k) (h : a * 2 ^ k < 9223372036854775808) : Zv P w F (.binOp .shl t x y t') T (vI (a * 2 ^ k)) w :=
  fun dst pos af gd ρ hρ => .inl (by
    have hn : ¬ ((k : Int) < 0) := by omega
    simp only [execOp, hρ _ _ hx, hρ _ _ hy, eqGuard, binOp, Op.shift, if_neg hn, Int.toNat_natCast, vI]
    have hb : IntKind.i64.bits = 64 := rfl
    rw [hb, Nat.min_eq_left hk, wrap_i64 _ h0 h]
    simp)

/-! tests -/
theorem y_lt_u {x y : Operand} {t t' : TypeId} {a b : Nat} (hx : ev F x = some (vU a)) (hy : ev F y = some (vU b)) : Zv P w F (.binOp .lss t x y t') T (.bool (decide (a < b))) w :=
  fun dst pos af gd ρ hρ => .inl (by simp [execOp, hρ _ _ hx, hρ _ _ hy, eqGuard, binOp, Op.intCmp])
theorem y_le_u {x y : Operand} {t t' : TypeId} {a b : Nat} (hx : ev F x = some (vU a)) (hy : ev F y = some (vU b)) : Zv P w F (.binOp .leq t x y t') T (.bool (decide (a ≤ b))) w :=
  fun dst pos af gd ρ hρ => .inl (by simp [execOp, hρ _ _ hx, hρ _ _ hy, eqGuard, binOp, Op.intCmp])
theorem y_gt_u {x y : Operand} {t t' : TypeId} {a b : Nat} (hx : ev F x = some (vU a)) (hy : ev F y = some (vU b)) : Zv P w F (.binOp .gtr t x y t') T (.bool (decide (b < a))) w :=
  fun dst pos af gd ρ hρ => .inl (by simp [execOp, hρ _ _ hx, hρ _ _ hy, eqGuard, binOp, Op.intCmp])
theorem y_ge_u {x y : Operand} {t t' : TypeId} {a b : Nat} (hx : ev F x = some (vU a)) (hy : ev F y = some (vU b)) : Zv P w F (.binOp .geq t x y t') T (.bool (decide (b ≤ a))) w :=
  fun dst pos af gd ρ hρ => .inl (by simp [execOp, hρ _ _ hx, hρ _ _ hy, eqGuard, binOp, Op.intCmp])
theorem beqInt (a b : Int) : (a == b) = decide (a = b) := by
  by_cases h : a = b <;> simp [h]
theorem bneInt (a b : Int) : (a != b) = decide (a ≠ b) := by
  by_cases h : a = b <;> simp [h]
theorem y_eq_u {x y : Operand} {t t' : TypeId} {a b : Nat} (hx : ev F x = some (vU a)) (hy : ev F y = some (vU b)) : Zv P w F (.binOp .eql t x y t') T (.bool (decide (a = b))) w :=
  fun dst pos af gd ρ hρ => .inl (by
    have e : ((a : Int) == (b : Int)) = decide (a = b) := by rw [beqInt]; exact decide_eq_decide.2 Int.ofNat_inj
    simp [execOp, hρ _ _ hx, hρ _ _ hy, eqGuard, binOp, Op.intCmp, e])
theorem y_ne_u {x y : Operand} {t t' : TypeId} {a b : Nat} (hx : ev F x = some (vU a)) (hy : ev F y = some (vU b)) : Zv P w F (.binOp .neq t x y t') T (.bool (decide (a ≠ b))) w :=
  fun dst pos af gd ρ hρ => .inl (by
    have e : ((a : Int) != (b : Int)) = decide (a ≠ b) := by rw [bneInt]; exact decide_eq_decide.2 (not_congr Int.ofNat_inj)
    simp [execOp, hρ _ _ hx, hρ _ _ hy, eqGuard, binOp, Op.intCmp, e])
theorem y_lt_i {x y : Operand} {t t' : TypeId} {a b : Int} (hx : ev F x = some (vI a)) (hy : ev F y = some (vI b)) : Zv P w F (.binOp .lss t x y t') T (.bool (decide (a < b))) w :=
  fun dst pos af gd ρ hρ => .inl (by simp [execOp, hρ _ _ hx, hρ _ _ hy, eqGuard, binOp, Op.intCmp])
theorem y_le_i {x y : Operand} {t t' : TypeId} {a b : Int} (hx : ev F x = some (vI a)) (hy : ev F y = some (vI b)) : Zv P w F (.binOp .leq t x y t') T (.bool (decide (a ≤ b))) w :=
  fun dst pos af gd ρ hρ => .inl (by simp [execOp, hρ _ _ hx, hρ _ _ hy, eqGuard, binOp, Op.intCmp])
theorem y_gt_i {x y : Operand} {t t' : TypeId} {a b : Int} (hx : ev F x = some (vI a)) (hy : ev F y = some (vI b)) : Zv P w F (.binOp .gtr t x y t') T (.bool (decide (b < a))) w :=
  fun dst pos af gd ρ hρ => .inl (by simp [execOp, hρ _ _ hx, hρ _ _ hy, eqGuard, binOp, Op.intCmp])
theorem y_ge_i {x y : Operand} {t t' : TypeId} {a b : Int} (hx : ev F x = some (vI a)) (hy : ev F y = some (vI b)) : Zv P w F (.binOp .geq t x y t') T (.bool (decide (b ≤ a))) w :=
  fun dst pos af gd ρ hρ => .inl (by simp [execOp, hρ _ _ hx, hρ _ _ hy, eqGuard, binOp, Op.intCmp])
theorem y_eq_i {x y : Operand} {t t' : TypeId} {a b : Int} (hx : ev F x = some (vI a)) (hy : ev F y = some (vI b)) : Zv P w F (.binOp .eql t x y t') T (.bool (decide (a = b))) w :=
  fun dst pos af gd ρ hρ => .inl (by simp [execOp, hρ _ _ hx, hρ _ _ hy, eqGuard, binOp, Op.intCmp, beqInt])
theorem y_ne_i {x y : Operand} {t t' : TypeId} {a b : Int} (hx : ev F x = some (vI a)) (hy : ev F y = some (vI b)) : Zv P w F (.binOp .neq t x y t') T (.bool (decide (a ≠ b))) w :=
  fun dst pos af gd ρ hρ => .inl (by simp [execOp, hρ _ _ hx, hρ _ _ hy, eqGuard, binOp, Op.intCmp, bneInt])

/-! from one kind to another -/
theorem y_conv {x : Operand} {s t : TypeId} {k k' : IntKind} {z : Int} (hx : ev F x = some (.int k z)) (hs : (P.underlying s).isSome = true) (ht : P.underlying t = some (.int k')) : Zv P w F (.convert s t x) T (.int k' (k'.wrap z)) w :=
  fun dst pos af gd ρ hρ => .inl (by
    obtain ⟨d, hd⟩ := Option.isSome_iff_exists.1 hs
    simp [execOp, hρ _ _ hx, convert, run_underlying ht, run_underlying hd, Conv.intToInt])
theorem y_conv_ui {x : Operand} {s t : TypeId} {m : Nat} (hx : ev F x = some (vU m)) (hs : (P.underlying s).isSome = true) (ht : P.underlying t = some (.int .i64)) (h : m < 9223372036854775808) : Zv P w F (.convert s t x) T (vI m) w := by
  have := y_conv (T := T) (w := w) hx hs ht
  rwa [wrap_i64 _ (by omega) (by omega)] at this
theorem y_conv_iu {x : Operand} {s t : TypeId} {z : Int} {m : Nat} (hx : ev F x = some (vI z)) (hs : (P.underlying s).isSome = true) (ht : P.underlying t = some (.int .u64)) (hz : z = (m : Int)) (h : m < 18446744073709551616) : Zv P w F (.convert s t x) T (vU m) w := by
  have := y_conv (T := T) (w := w) hx hs ht
  subst hz
  rwa [wrap_u64 _ (by omega) (by omega)] at this
theorem y_conv_uu {x : Operand} {s t : TypeId} {m : Nat} (hx : ev F x = some (vU m)) (hs : (P.underlying s).isSome = true) (ht : P.underlying t = some (.int .u64)) (h : m < 18446744073709551616) : Zv P w F (.convert s t x) T (vU m) w := by
  have := y_conv (T := T) (w := w) hx hs ht
  rwa [wrap_u64 _ (by omega) (by omega)] at this
theorem y_conv_ii {x : Operand} {s t : TypeId} {z : Int} (hx : ev F x = some (vI z)) (hs : (P.underlying s).isSome = true) (ht : P.underlying t = some (.int .i64)) (h0 : -9223372036854775808 ≤ z) (h : z < 9223372036854775808) : Zv P w F (.convert s t x) T (vI z) w := by
  have := y_conv (T := T) (w := w) hx hs ht
  rwa [wrap_i64 _ h0 h] at this
theorem y_conv_u8 {x : Operand} {s t : TypeId} {m : Nat} (hx : ev F x = some (vU m)) (hs : (P.underlying s).isSome = true) (ht : P.underlying t = some (.int .u8)) : Zv P w F (.convert s t x) T (v8 (m % 256)) w := by
  have := y_conv (T := T) (w := w) hx hs ht
  have e : IntKind.u8.wrap (m : Int) = ((m % 256 : Nat) : Int) := by rw [IntKind.wrap_u8]; omega
  rwa [e] at this
theorem y_conv_8u {x : Operand} {s t : TypeId} {m : Nat} (hx : ev F x = some (v8 m)) (hs : (P.underlying s).isSome = true) (ht : P.underlying t = some (.int .u64)) (h : m < 256) : Zv P w F (.convert s t x) T (vU m) w := by
  have := y_conv (T := T) (w := w) hx hs ht
  rwa [wrap_u64 _ (by omega) (by omega)] at this
theorem y_conv_8i {x : Operand} {s t : TypeId} {m : Nat} (hx : ev F x = some (v8 m)) (hs : (P.underlying s).isSome = true) (ht : P.underlying t = some (.int .i64)) (h : m < 256) : Zv P w F (.convert s t x) T (vI m) w := by
  have := y_conv (T := T) (w := w) hx hs ht
  rwa [wrap_i64 _ (by omega) (by omega)] at this

end ops

section cmp
variable {P : Program} {ops : Array Oper} {Q : Exit → Act → World → Prop} {n : Nat} {D : List Deferred} {F : Fr} {rest : List Oper} {w : World} {op : Op} {T : TypeId} {pos : String} {af : Array Edge} {p : Prop} [Decidable p] {d : Nat}
/-- a test: the walk parts -/
theorem st_if (h : Zv P w F op T (.bool (decide p)) w) (hd : Nat.blt d n = true) (ht : p → wpL P ops Q n D ((d, .bool true) :: F) rest w) (hf : ¬ p → wpL P ops Q n D ((d, .bool false) :: F) rest w) : wpL P ops Q n D F (⟨some d, op, T, pos, af, none⟩ :: rest) w := by
  by_cases hp : p
  · exact st (v := .bool true) (by simpa [hp] using h) hd (ht hp)
  · exact st (v := .bool false) (by simpa [hp] using h) hd (hf hp)
theorem st_t (h : Zv P w F op T (.bool (decide p)) w) (hp : p) (hd : Nat.blt d n = true) (ht : wpL P ops Q n D ((d, .bool true) :: F) rest w) : wpL P ops Q n D F (⟨some d, op, T, pos, af, none⟩ :: rest) w :=
  st (v := .bool true) (by simpa [hp] using h) hd ht
theorem st_f (h : Zv P w F op T (.bool (decide p)) w) (hp : ¬ p) (hd : Nat.blt d n = true) (ht : wpL P ops Q n D ((d, .bool false) :: F) rest w) : wpL P ops Q n D F (⟨some d, op, T, pos, af, none⟩ :: rest) w :=
  st (v := .bool false) (by simpa [hp] using h) hd ht
theorem stg_if {j t : Nat} {b : Bool} (hj : ((ops[j]?).bind (·.dst)) = some t) (hg : fget F t = some (.bool b)) (h : Zv P w F op T (.bool (decide p)) w) (hd : Nat.blt d n = true) (ht : p → wpL P ops Q n D ((d, .bool true) :: F) rest w) (hf : ¬ p → wpL P ops Q n D ((d, .bool false) :: F) rest w) : wpL P ops Q n D F (⟨some d, op, T, pos, af, some (j, b)⟩ :: rest) w := by
  by_cases hp : p
  · exact stg (v := .bool true) hj hg (by simpa [hp] using h) hd (ht hp)
  · exact stg (v := .bool false) hj hg (by simpa [hp] using h) hd (hf hp)
theorem stg_t {j t : Nat} {b : Bool} (hj : ((ops[j]?).bind (·.dst)) = some t) (hg : fget F t = some (.bool b)) (h : Zv P w F op T (.bool (decide p)) w) (hp : p) (hd : Nat.blt d n = true) (ht : wpL P ops Q n D ((d, .bool true) :: F) rest w) : wpL P ops Q n D F (⟨some d, op, T, pos, af, some (j, b)⟩ :: rest) w :=
  stg (v := .bool true) hj hg (by simpa [hp] using h) hd ht
theorem stg_f {j t : Nat} {b : Bool} (hj : ((ops[j]?).bind (·.dst)) = some t) (hg : fget F t = some (.bool b)) (h : Zv P w F op T (.bool (decide p)) w) (hp : ¬ p) (hd : Nat.blt d n = true) (ht : wpL P ops Q n D ((d, .bool false) :: F) rest w) : wpL P ops Q n D F (⟨some d, op, T, pos, af, some (j, b)⟩ :: rest) w :=
  stg (v := .bool false) hj hg (by simpa [hp] using h) hd ht
theorem ss_if {K : Act → Prop} (h : Zv P w F op T (.bool (decide p)) w) (hd : Nat.blt d n = true) (ht : p → wpS P ops w K n D ((d, .bool true) :: F) rest) (hf : ¬ p → wpS P ops w K n D ((d, .bool false) :: F) rest) : wpS P ops w K n D F (⟨some d, op, T, pos, af, none⟩ :: rest) := by
  by_cases hp : p
  · exact ss (v := .bool true) (by simpa [hp] using h) hd (ht hp)
  · exact ss (v := .bool false) (by simpa [hp] using h) hd (hf hp)
theorem ss_t {K : Act → Prop} (h : Zv P w F op T (.bool (decide p)) w) (hp : p) (hd : Nat.blt d n = true) (ht : wpS P ops w K n D ((d, .bool true) :: F) rest) : wpS P ops w K n D F (⟨some d, op, T, pos, af, none⟩ :: rest) :=
  ss (v := .bool true) (by simpa [hp] using h) hd ht
theorem ss_f {K : Act → Prop} (h : Zv P w F op T (.bool (decide p)) w) (hp : ¬ p) (hd : Nat.blt d n = true) (ht : wpS P ops w K n D ((d, .bool false) :: F) rest) : wpS P ops w K n D F (⟨some d, op, T, pos, af, none⟩ :: rest) :=
  ss (v := .bool false) (by simpa [hp] using h) hd ht
end cmp
end Go.Proofs.YtkemlhhpakjojaaDoor

/- Blocks of memory and the operations that read and write them; no statement of the program is proved here. -/
set_option linter.unusedVariables false
set_option linter.unusedSimpArgs false
namespace Go.Proofs.YtkemlhhpakjojaaDoor
open Go Go.RowKit

/-- a block of cells, none of them frozen -/
def Blk (w : World) (b : Nat) (t : TypeId) (l : List Value) : Prop := w.heap[b]? = some (.cells l.toArray t (0, 0))

/-- what has become of a world: old blocks are as they were, but for those of the list -/
structure Keep (w w' : World) (L : List Nat) : Prop where
  os : w'.os = w.os
  tape : w'.tape = w.tape
  output : w'.output = w.output
  size : w.heap.size ≤ w'.heap.size
  same : ∀ i, i < w.heap.size → i ∉ L → w'.heap[i]? = w.heap[i]?

theorem Keep.refl (w : World) (L : List Nat) : Keep w w L := ⟨rfl, rfl, rfl, Nat.le_refl _, fun _ _ _ => rfl⟩
theorem Keep.drew (w : World) (L : List Nat) : Keep w w.drew L := ⟨rfl, rfl, rfl, Nat.le_refl _, fun _ _ _ => rfl⟩
theorem Keep.mono {w w' : World} {L L' : List Nat} (h : Keep w w' L) (hL : ∀ i, i ∈ L → i ∈ L' ∨ w.heap.size ≤ i) : Keep w w' L' :=
  ⟨h.os, h.tape, h.output, h.size, fun i hi hn => h.same i hi fun hm => (hL i hm).elim hn (fun hge => absurd hi (Nat.not_lt.2 hge))⟩
theorem Keep.trans {w w1 w2 : World} {L L' : List Nat} (h : Keep w w1 L) (k : Keep w1 w2 L') (hL : ∀ i, i ∈ L' → i ∈ L ∨ w.heap.size ≤ i) : Keep w w2 L :=
  ⟨k.os.trans h.os, k.tape.trans h.tape, k.output.trans h.output, Nat.le_trans h.size k.size, fun i hi hn =>
    (k.same i (Nat.lt_of_lt_of_le hi h.size) (fun hm => (hL i hm).elim hn (fun hge => absurd hi (Nat.not_lt.2 hge)))).trans (h.same i hi hn)⟩
/-- the like, both lists kept -/
theorem Keep.trans' {w w1 w2 : World} {L L' : List Nat} (h : Keep w w1 L) (k : Keep w1 w2 L') : Keep w w2 (L ++ L') :=
  Keep.trans (h.mono fun i hi => .inl (List.mem_append_left _ hi)) k fun i hi => .inl (List.mem_append_right _ hi)
theorem Keep.below {w w' : World} {L : List Nat} {B : Nat} (h : Keep w w' L) (hB : B ≤ w.heap.size) (hL : ∀ i, i ∈ L → B ≤ i) : Below B w w' :=
  ⟨h.os, h.tape, h.output, h.size, fun i hi => h.same i (Nat.lt_of_lt_of_le hi hB) fun hm => absurd (hL i hm) (Nat.not_le.2 hi)⟩

theorem Blk.lt {w : World} {b : Nat} {t : TypeId} {l : List Value} (h : Blk w b t l) : b < w.heap.size := by
  rcases Nat.lt_or_ge b w.heap.size with h' | h'
  · exact h'
  · unfold Blk at h; rw [Array.getElem?_eq_none h'] at h; cases h
theorem Blk.keep {w w' : World} {b : Nat} {t : TypeId} {l : List Value} {L : List Nat} (h : Blk w b t l) (k : Keep w w' L) (hn : b ∉ L) : Blk w' b t l := (k.same b h.lt hn).trans h
theorem Blk.drew {w : World} {b : Nat} {t : TypeId} {l : List Value} (h : Blk w b t l) : Blk w.drew b t l := h
theorem Blk.eq {w : World} {b : Nat} {t t' : TypeId} {l l' : List Value} (h : Blk w b t l) (h' : Blk w b t' l') : l = l' ∧ t = t' := by
  unfold Blk at h h'
  rw [h] at h'
  simp at h'
  exact ⟨h'.1, h'.2⟩
theorem Blk.cell {w : World} {b o : Nat} {t : TypeId} {l : List Value} {v : Value} (h : Blk w b t l) (hv : l[o]? = some v) : w.cell? ⟨b, o, none⟩ = some v := by
  unfold Blk at h
  simp [World.cell?, h, hv]
theorem Blk.frozen {w : World} {b : Nat} {t : TypeId} {l : List Value} (h : Blk w b t l) (o : Nat) : w.frozen? ⟨b, o, none⟩ = false := by
  unfold Blk at h
  simp [World.frozen?, h]
theorem Blk.shape {w : World} {b : Nat} {t : TypeId} {l : List Value} (h : Blk w b t l) : w.shape? b = some (t, l.length) := by
  unfold Blk at h
  simp [World.shape?, h]
theorem Blk.set {w : World} {b : Nat} {t : TypeId} {l : List Value} (h : Blk w b t l) (o : Nat) (v : Value) : Blk (w.setCell ⟨b, o, none⟩ v) b t (l.set o v) := by
  unfold Blk at *
  simp [World.setCell, Array.getElem?_modify, h]
theorem Keep.setCell (w : World) (b o : Nat) (v : Value) : Keep w (w.setCell ⟨b, o, none⟩ v) [b] :=
  ⟨rfl, rfl, rfl, by simp, fun i _ hn => Below.heap_setCell w _ v i (by simpa using hn)⟩
theorem Blk.new (w : World) (l : List Value) (t : TypeId) : Blk (w.alloc (.cells l.toArray t)) w.heap.size t l := heap_alloc_new w _
theorem Keep.alloc (w : World) (o : Obj) (L : List Nat) : Keep w (w.alloc o) L :=
  ⟨rfl, rfl, rfl, by simp, fun i hi _ => Below.heap_alloc w o i hi⟩

theorem add_pt (b o j : Nat) : (⟨b, o, none⟩ : Addr).add j = ⟨b, o + j, none⟩ := by unfold Addr.add; split <;> simp_all

/-! ### A slice of unsigned numbers that is only read -/
def Rd (w : World) (A : Option Addr) (n : Nat) (xs : List Nat) : Prop :=
  xs.length = n ∧ n ≤ 9223372036854775807 ∧ (0 < n → ∃ ad, A = some ad ∧ ad.block < w.heap.size ∧ ∀ j, j < n → w.cell? (ad.add j) = some (vU (xs.getD j 0)))
theorem Rd.keep {w w' : World} {A : Option Addr} {n : Nat} {xs : List Nat} {L : List Nat} (h : Rd w A n xs) (k : Keep w w' L) (hn : ∀ i, i ∈ L → w.heap.size ≤ i) : Rd w' A n xs :=
  ⟨h.1, h.2.1, fun h0 => by
    obtain ⟨ad, h1, h2, h3⟩ := h.2.2 h0
    refine ⟨ad, h1, Nat.lt_of_lt_of_le h2 k.size, fun j hj => ?_⟩
    rw [← h3 j hj]
    refine World.cell?_of_block (k.same _ ?_ ?_)
    · unfold Addr.add; split <;> exact h2
    · intro hm
      have := hn _ hm
      have e : (ad.add j).block = ad.block := by unfold Addr.add; split <;> rfl
      omega⟩

section ops
variable {P : Program} {F : Fr} {w : World} {T : TypeId}

/-! ### Reading -/
theorem y_load {x : Operand} {ad : Addr} {t : TypeId} {v : Value} (hx : ev F x = some (.pointer (some ad))) (ht : tOne P t = true) (hc : w.cell? ad = some v) : Zv P w F (.load t x) T v w :=
  fun dst pos af gd ρ hρ => .inl (by simp [execOp, hρ _ _ hx, Instr.loadAt, Instr.sureAddr, loadVar, run_isAgg ht, hc])
/-- a cell of a block -/
theorem y_loadb {x : Operand} {b o : Nat} {t t' : TypeId} {l : List Value} {v : Value} (hx : ev F x = some (pt b o)) (ht : tOne P t = true) (hB : Blk w b t' l) (hv : l[o]? = some v) : Zv P w F (.load t x) T v w :=
  y_load hx ht (hB.cell hv)

theorem y_fieldAddr {x : Operand} {s : TypeId} {fs : Array Field} {i : Nat} {f : Field} {b o n : Nat} (hx : ev F x = some (pt b o)) (hs : P.underlying s = some (.struct fs)) (hf : fs[i]? = some f) (hsz : tSize P f.type = some n) (hn : (n == 0) = false) :
    Zv P w F (.fieldAddr s x i) T (pt b (o + f.offset)) w :=
  fun dst pos af gd ρ hρ => .inl (by
    have hn' : ¬ n = 0 := by simpa using hn
    simp [execOp, hρ _ _ hx, Instr.fieldAt, run_underlying hs, hf, Instr.sureAddr, fieldPlace, run_sizeOf hsz, hn', add_pt])

theorem y_index {x y : Operand} {t e : TypeId} {k : IntKind} {b o n c : Nat} {i : Nat} (hx : ev F x = some (.slice (some ⟨b, o, none⟩) n c)) (hy : ev F y = some (.int k (i : Int))) (ht : P.underlying t = some (.slice e)) (he : tSize P e = some 1) (hi : i < n) :
    Zv P w F (.indexAddr t x y) T (pt b (o + i)) w :=
  fun dst pos af gd ρ hρ => .inl (by
    have h1 : (0 : Int) ≤ (i : Int) ∧ (i : Int) < (n : Int) := by omega
    simp [execOp, hρ _ _ hx, hρ _ _ hy, Instr.indexAt, asIntOf, run_underlying ht, run_sizeOf he, hi, add_pt])
theorem y_index0 {x y : Operand} {t e : TypeId} {k : IntKind} {b n c : Nat} {i : Nat} (hx : ev F x = some (vS b n c)) (hy : ev F y = some (.int k (i : Int))) (ht : P.underlying t = some (.slice e)) (he : tSize P e = some 1) (hi : i < n) :
    Zv P w F (.indexAddr t x y) T (pt b i) w := by
  have := y_index (T := T) (w := w) hx hy ht he hi
  rwa [Nat.zero_add] at this
/-- in a slice whose address is not looked into -/
theorem y_indexA {x y : Operand} {t e : TypeId} {k : IntKind} {ad : Addr} {n c : Nat} {i : Nat} (hx : ev F x = some (.slice (some ad) n c)) (hy : ev F y = some (.int k (i : Int))) (ht : P.underlying t = some (.slice e)) (he : tSize P e = some 1) (hi : i < n) :
    Zv P w F (.indexAddr t x y) T (.pointer (some (ad.add i))) w :=
  fun dst pos af gd ρ hρ => .inl (by
    have h1 : (0 : Int) ≤ (i : Int) ∧ (i : Int) < (n : Int) := by omega
    simp [execOp, hρ _ _ hx, hρ _ _ hy, Instr.indexAt, asIntOf, run_underlying ht, run_sizeOf he, hi])

theorem y_field {x : Operand} {s : TypeId} {fs : Array Field} {i : Nat} {f : Field} {l : List Value} {v : Value} (hx : ev F x = some (.agg l.toArray)) (hs : P.underlying s = some (.struct fs)) (hf : fs[i]? = some f) (h1 : tOne P f.type = true) (hv : l[f.offset]? = some v) :
    Zv P w F (.field s x i) T v w :=
  fun dst pos af gd ρ hρ => .inl (by simp [execOp, hρ _ _ hx, Instr.field, run_underlying hs, hf, asAgg, part, run_isAgg h1, hv])

theorem exec_builtin {b : Builtin} {args : Array Operand} {tys : Array TypeId} {vals : List Value} {ρ : Operand → Value} (hρ : Agree ρ F) (hargs : evs F args.toList = some vals) (dst : Option Tmp) (pos : String) (af : Array Edge) (gd : Option (Nat × Bool)) :
    (execOp ρ ⟨dst, .call ⟨.builtin b, args, tys⟩, T, pos, af, gd⟩).run P w = (builtin b tys T (args.map fun | .const _ => true | _ => false) vals.toArray).run P w := by
  have h2 : args.map ρ = vals.toArray := by
    apply Array.ext'
    simpa using hρ.evs args.toList vals hargs
  simp only [execOp, resolve, invoke, h2, Sem.run_bind, Sem.run_pure, Result.andThen_ok]
  rfl

theorem y_len {x : Operand} {t : TypeId} {e : TypeId} {A : Option Addr} {n c : Nat} (hx : ev F x = some (.slice A n c)) (ht : P.underlying t = some (.slice e)) : Zv P w F (.call ⟨.builtin .len, #[x], #[t]⟩) T (vI n) w :=
  fun dst pos af gd ρ hρ => .inl (by
    rw [exec_builtin hρ (vals := [.slice A n c]) (by simp [evs, hx])]
    simp [builtin, Builtin.len_, run_underlying ht, goInt])
theorem y_cap {x : Operand} {t : TypeId} {e : TypeId} {A : Option Addr} {n c : Nat} (hx : ev F x = some (.slice A n c)) (ht : P.underlying t = some (.slice e)) : Zv P w F (.call ⟨.builtin .cap, #[x], #[t]⟩) T (vI c) w :=
  fun dst pos af gd ρ hρ => .inl (by
    rw [exec_builtin hρ (vals := [.slice A n c]) (by simp [evs, hx])]
    simp [builtin, Builtin.cap_, run_underlying ht, goInt])

/-! slices of slices: one by one what stands there -/
theorem run_bound {k : IntKind} {i y : Nat} {c : BoundsCode} (h : i ≤ y) : (Instr.sliceBound (.int k (i : Int)) y c).run P w = .ok i w := by
  have h1 : (0 : Int) ≤ (i : Int) ∧ (i : Int) ≤ (y : Int) := by omega
  simp [Instr.sliceBound, asIntOf, h]
theorem run_sliceAt {t e : TypeId} {A : Option Addr} {n c : Nat} {lo hi mx : Option Value} (ht : P.underlying t = some (.slice e)) : (Instr.sliceAt t (.slice A n c) lo hi mx).run P w = (Instr.slice t (.slice A n c) lo hi mx).run P w := by
  simp [Instr.sliceAt, run_underlying ht]
/-- xs[l:h] -/
theorem y_slice_lh {x lo hi : Operand} {t e : TypeId} {k k' : IntKind} {b o n c l h : Nat} (hx : ev F x = some (.slice (some ⟨b, o, none⟩) n c)) (hl : ev F lo = some (.int k (l : Int))) (hh : ev F hi = some (.int k' (h : Int))) (ht : P.underlying t = some (.slice e)) (he : tSize P e = some 1) (h1 : l ≤ h) (h2 : h ≤ c) :
    Zv P w F (.slice t x (some lo) (some hi) none) T (.slice (some (if c = l then ⟨b, o, none⟩ else ⟨b, o + l, none⟩)) (h - l) (c - l)) w :=
  fun dst pos af gd ρ hρ => .inl (by
    simp only [execOp, hρ _ _ hx, hρ _ _ hl, hρ _ _ hh, Option.map_some, Option.map_none, Sem.run_bind, run_sliceAt ht, Instr.slice, Instr.sliceBounds, run_underlying ht, Result.andThen_ok, run_bound h1, run_bound h2, Sem.run_pure, run_sizeOf he, Option.isSome_none, Nat.mul_one, add_pt]
    simp
    split <;> rfl)
/-- xs[l:] -/
theorem y_slice_l {x lo : Operand} {t e : TypeId} {k : IntKind} {b o n c l : Nat} (hx : ev F x = some (.slice (some ⟨b, o, none⟩) n c)) (hl : ev F lo = some (.int k (l : Int))) (ht : P.underlying t = some (.slice e)) (he : tSize P e = some 1) (h1 : l ≤ n) :
    Zv P w F (.slice t x (some lo) none none) T (.slice (some (if c = l then ⟨b, o, none⟩ else ⟨b, o + l, none⟩)) (n - l) (c - l)) w :=
  fun dst pos af gd ρ hρ => .inl (by
    simp only [execOp, hρ _ _ hx, hρ _ _ hl, Option.map_some, Option.map_none, Sem.run_bind, run_sliceAt ht, Instr.slice, Instr.sliceBounds, run_underlying ht, Result.andThen_ok, run_bound h1, Sem.run_pure, run_sizeOf he, Option.isSome_none, Nat.mul_one, add_pt]
    simp
    split <;> rfl)
/-- xs[:h] -/
theorem y_slice_h {x hi : Operand} {t e : TypeId} {k : IntKind} {A : Option Addr} {n c h : Nat} (hx : ev F x = some (.slice A n c)) (hh : ev F hi = some (.int k (h : Int))) (ht : P.underlying t = some (.slice e)) (he : tSize P e = some 1) (h1 : h ≤ c) :
    Zv P w F (.slice t x none (some hi) none) T (.slice A h c) w :=
  fun dst pos af gd ρ hρ => .inl (by
    simp only [execOp, hρ _ _ hx, hρ _ _ hh, Option.map_some, Option.map_none, Sem.run_bind, run_sliceAt ht, Instr.slice, Instr.sliceBounds, run_underlying ht, Result.andThen_ok, run_bound h1, Sem.run_pure, run_sizeOf he, Option.isSome_none, Nat.mul_one]
    cases A <;> simp [Addr.add])

/-! a slice or a pointer held against nil -/
theorem y_snil_eq {x y : Operand} {t t' e : TypeId} {b : Option Addr} {n c : Nat} (hx : ev F x = some (.slice b n c)) (hy : ev F y = some (.slice none 0 0)) (ht : P.underlying t = some (.slice e)) : Zv P w F (.binOp .eql t x y t') T (.bool b.isNone) w :=
  fun dst pos af gd ρ hρ => .inl (by
    have h := run_equal_slice_nil (P := P) w t e b n c ht
    simp only [execOp, hρ _ _ hx, hρ _ _ hy, eqGuard, binOp, Sem.run_bind]
    simp [h])
theorem y_snil_ne {x y : Operand} {t t' e : TypeId} {b : Option Addr} {n c : Nat} (hx : ev F x = some (.slice b n c)) (hy : ev F y = some (.slice none 0 0)) (ht : P.underlying t = some (.slice e)) : Zv P w F (.binOp .neq t x y t') T (.bool (!b.isNone)) w :=
  fun dst pos af gd ρ hρ => .inl (by
    have h := run_equal_slice_nil (P := P) w t e b n c ht
    simp only [execOp, hρ _ _ hx, hρ _ _ hy, eqGuard, binOp, Sem.run_bind]
    simp [h])
theorem y_pnil_eq {x y : Operand} {t t' : TypeId} {b : Option Addr} (hx : ev F x = some (.pointer b)) (hy : ev F y = some (.pointer none)) (ht : P.underlying t = some (.pointer (P.pointee t))) : Zv P w F (.binOp .eql t x y t') T (.bool b.isNone) w :=
  fun dst pos af gd ρ hρ => .inl (by
    have h := run_equal_pointer_nil (P := P) w t b ht
    simp only [execOp, hρ _ _ hx, hρ _ _ hy, eqGuard, binOp, Sem.run_bind]
    simp [h])
theorem y_pnil_ne {x y : Operand} {t t' : TypeId} {b : Option Addr} (hx : ev F x = some (.pointer b)) (hy : ev F y = some (.pointer none)) (ht : P.underlying t = some (.pointer (P.pointee t))) : Zv P w F (.binOp .neq t x y t') T (.bool (!b.isNone)) w :=
  fun dst pos af gd ρ hρ => .inl (by
    have h := run_equal_pointer_nil (P := P) w t b ht
    simp only [execOp, hρ _ _ hx, hρ _ _ hy, eqGuard, binOp, Sem.run_bind]
    simp [h])

/-! ### Writing -/
theorem cells_one {v : Value} (h : v.oneCell' = true) : v.cells = #[v] := by cases v <;> simp_all [Value.oneCell', Value.cells]
theorem z_store {x y : Operand} {ad : Addr} {t : TypeId} {v u : Value} (hx : ev F x = some (.pointer (some ad))) (hy : ev F y = some v) (h1 : v.oneCell' = true) (hsz : tSize P t = some 1) (hc : w.cell? ad = some u) (hf : w.frozen? ad = false) :
    Zv P w F (.store t x y) T undef (w.setCell ad v) :=
  fun dst pos af gd ρ hρ => .inr ⟨by
    have h0 : ad.add 0 = ad := by simp [Addr.add]
    simp [execOp, hρ _ _ hx, hρ _ _ hy, Instr.storeAt, Instr.sureAddr, storeVar, run_sizeOf hsz, cells_one h1, storeCells, h0, run_store _ _ _ _ _ h1, hc, hf], rfl⟩

end ops

section wr
variable {P : Program} {ops : Array Oper} {Q : Exit → Act → World → Prop} {n : Nat} {D : List Deferred} {F : Fr} {rest : List Oper} {w : World} {T : TypeId} {pos : String} {af : Array Edge}

/-- a store into a block -/
theorem st_store {dst : Option Tmp} {x y : Operand} {b o : Nat} {t t' : TypeId} {l : List Value} {v : Value} (hx : ev F x = some (pt b o)) (hy : ev F y = some v) (h1 : v.oneCell' = true) (hsz : tSize P t = some 1) (hB : Blk w b t' l) (ho : o < l.length) (hd : dst = none)
    (k : ∀ w1, Blk w1 b t' (l.set o v) → Keep w w1 [b] → w1.heap.size = w.heap.size → wpL P ops Q n D F rest w1) : wpL P ops Q n D F (⟨dst, .store t x y, T, pos, af, none⟩ :: rest) w := by
  subst hd
  exact st0 (z_store hx hy h1 hsz (hB.cell (List.getElem?_eq_getElem ho)) (hB.frozen o)) (k _ (hB.set o v) (Keep.setCell w b o v) (by simp))

/-- a value in a new block -/
theorem st_box {d : Nat} {x : Operand} {E : TypeId} {v : Value} (l : List Value) (hx : ev F x = some v) (hl : v.cells = l.toArray) (hd : Nat.blt d n = true)
    (k : ∀ b w1, w.heap.size = b → Blk w1 b E l → Keep w w1 [] → w1.heap.size = b + 1 → wpL P ops Q n D ((d, vP b) :: F) rest w1) : wpL P ops Q n D F (⟨some d, .box E x, T, pos, af, none⟩ :: rest) w := by
  refine st (v := vP w.heap.size) (w' := w.alloc (.cells l.toArray E)) ?_ hd (k _ _ rfl (Blk.new w l E) (Keep.alloc w _ _) (by simp))
  exact fun dst pos af gd ρ hρ => .inl (by simp [execOp, hρ _ _ hx, Instr.box, newVar, newRow, hl])

def tZero (P : Program) (t : TypeId) : Option Value := (P.info? t).bind (·.zero)
theorem run_zero {t : TypeId} {z : Value} (h : tZero P t = some z) : (zeroValue t).run P w = .ok z w := by
  unfold tZero at h
  cases hi : P.info? t with
  | none => simp [hi] at h
  | some i =>
    simp only [hi, Option.bind_some] at h
    simp [zeroValue, typeInfo, hi, h]

/-- a new variable -/
theorem st_alloc {d : Nat} {E : TypeId} {z : Value} (l : List Value) (hz : tZero P E = some z) (hl : z.cells = l.toArray) (hd : Nat.blt d n = true)
    (k : ∀ b w1, w.heap.size = b → Blk w1 b E l → Keep w w1 [] → w1.heap.size = b + 1 → wpL P ops Q n D ((d, vP b) :: F) rest w1) : wpL P ops Q n D F (⟨some d, .alloc E, T, pos, af, none⟩ :: rest) w := by
  refine st (v := vP w.heap.size) (w' := w.alloc (.cells l.toArray E)) ?_ hd (k _ _ rfl (Blk.new w l E) (Keep.alloc w _ _) (by simp))
  exact fun dst pos af gd ρ hρ => .inl (by simp [execOp, Instr.alloc, run_zero hz, newVar, newRow, hl])

theorem madeCells_one (z : Value) (m : Nat) (hz : z.oneCell' = true) : madeCells z.cells m = (List.replicate m z).toArray := by
  rw [cells_one hz]
  apply Array.ext
  · simp [madeCells]
  · intro i h1 h2
    simp [madeCells, Nat.mod_one]

/-- make([]E, l, c) where E is of one cell -/
theorem st_make {d : Nat} {x y : Operand} {t e : TypeId} {k1 k2 : IntKind} {z : Value} {i : TypeInfo} {l c : Nat} (hx : ev F x = some (.int k1 (l : Int))) (hy : ev F y = some (.int k2 (c : Int))) (ht : P.underlying t = some (.slice e)) (hi : P.info? e = some i) (hz : i.zero = some z) (hz1 : z.oneCell' = true) (hs : i.size = 1) (hb : i.bytes ≤ 64)
    (hlc : l ≤ c) (hc : c ≤ 4398046511104) (hd : Nat.blt d n = true)
    (k : ∀ b w1, w.heap.size = b → Blk w1 b e (List.replicate c z) → Keep w w1 [] → w1.heap.size = b + 1 → wpL P ops Q n D ((d, vS b l c) :: F) rest w1) : wpL P ops Q n D F (⟨some d, .makeSlice t x y, T, pos, af, none⟩ :: rest) w := by
  have hbc : (i.bytes : Int) * (c : Int) ≤ 281474976710656 := by
    have : i.bytes * c ≤ 64 * 4398046511104 := Nat.mul_le_mul hb hc
    have h2 : ((i.bytes * c : Nat) : Int) ≤ ((64 * 4398046511104 : Nat) : Int) := Int.ofNat_le.2 this
    simpa using h2
  have hr := run_make (P := P) w t e i z ht hi hz k1 k2 l c (by omega) (by omega) hbc (by omega)
  rw [hs, Nat.mul_one, Int.toNat_natCast, Int.toNat_natCast, madeCells_one z _ hz1] at hr
  refine st (v := vS w.heap.size l c) (w' := w.alloc (.cells (List.replicate c z).toArray e)) ?_ hd (k _ _ rfl (Blk.new w _ e) (Keep.alloc w _ _) (by simp))
  exact fun dst pos af gd ρ hρ => .inl (by simp [execOp, hρ _ _ hx, hρ _ _ hy, hr])

/-! many cells at once -/
theorem run_loadCells {b o : Nat} {t : TypeId} {l : List Value} (hB : Blk w b t l) : ∀ (m j : Nat) (acc : Array Value), o + j + m ≤ l.length → (loadCellsFrom ⟨b, o, none⟩ j m acc).run P w = .ok (acc ++ ((l.drop (o + j)).take m).toArray) w := by
  intro m
  induction m with
  | zero => intro j acc h; simp [loadCellsFrom]
  | succ m ih =>
    intro j acc h
    have hlt : o + j < l.length := by omega
    have hc := hB.cell (List.getElem?_eq_getElem hlt)
    simp only [loadCellsFrom, Sem.run_bind, add_pt, run_load, hc, Result.andThen_ok]
    rw [ih (j + 1) _ (by omega)]
    congr 1
    rw [List.drop_eq_getElem_cons hlt, List.take_succ_cons, show o + j + 1 = o + (j + 1) by omega]
    apply Array.ext'
    simp
theorem y_loadagg {x : Operand} {b o m : Nat} {t t' : TypeId} {l vs : List Value} (hx : ev F x = some (pt b o)) (ht : tOne P t = false) (hu : (P.underlying t).isSome = true) (hs : tSize P t = some m) (hB : Blk w b t' l) (hm : o + m ≤ l.length) (hv : (l.drop o).take m = vs) : Zv P w F (.load t x) T (.agg vs.toArray) w :=
  fun dst pos af gd ρ hρ => .inl (by
    have h1 : (isAgg t).run P w = .ok true w := by
      obtain ⟨d, hd⟩ := Option.isSome_iff_exists.1 hu
      unfold tOne at ht
      rw [hd] at ht
      unfold isAgg
      cases d <;> simp_all [run_underlying hd]
    have h2 := run_loadCells (P := P) hB (o := o) m 0 #[] (by omega)
    simp [execOp, hρ _ _ hx, Instr.loadAt, Instr.sureAddr, loadVar, h1, run_sizeOf hs, loadCells, h2, hv])

/-- the cells from o on are written over -/
def over (l : List Value) (o : Nat) (vs : List Value) : List Value := l.take o ++ vs ++ l.drop (o + vs.length)
theorem over_nil (l : List Value) (o : Nat) : over l o [] = l := by simp [over]
theorem over_cons (l : List Value) (o : Nat) (v : Value) (vs : List Value) (h : o < l.length) : over (l.set o v) (o + 1) vs = over l o (v :: vs) := by
  unfold over
  apply List.ext_getElem?
  intro i
  have e1 : (l.set o v).take (o + 1) = l.take o ++ [v] := by
    rw [List.take_succ_eq_append_getElem (by simpa using h)]
    simp
    rw [List.take_set_of_le (Nat.le_refl _)]
  have e2 : (l.set o v).drop (o + 1 + vs.length) = l.drop (o + (v :: vs).length) := by
    rw [List.drop_set_of_lt (by omega)]
    congr 1
    simp; omega
  rw [e1, e2]
  simp
theorem over_length (l : List Value) (o : Nat) (vs : List Value) (h : o + vs.length ≤ l.length) : (over l o vs).length = l.length := by
  simp [over]; omega
theorem run_storeCells {b o : Nat} {t : TypeId} (vs : List Value) : ∀ (j : Nat) (w : World) (l : List Value), Blk w b t l → o + j + vs.length ≤ l.length → (∀ v ∈ vs, v.oneCell' = true) →
    ∃ w1, (storeCells ⟨b, o, none⟩ vs j).run P w = .ok () w1 ∧ Blk w1 b t (over l (o + j) vs) ∧ Keep w w1 [b] ∧ w1.heap.size = w.heap.size := by
  induction vs with
  | nil => intro j w l hB h h1; exact ⟨w, by simp [storeCells], by rw [over_nil]; exact hB, Keep.refl _ _, rfl⟩
  | cons v r ih =>
    intro j w l hB h h1
    simp only [List.length_cons] at h
    have hlt : o + j < l.length := by omega
    have hc := hB.cell (List.getElem?_eq_getElem hlt)
    obtain ⟨w1, hr, hB1, hK, hs⟩ := ih (j + 1) _ _ (hB.set (o + j) v) (by simp; omega) (fun u hu => h1 u (List.mem_cons_of_mem _ hu))
    refine ⟨w1, ?_, ?_, (Keep.setCell w b (o + j) v).trans hK (fun i hi => .inl hi), by rw [hs]; simp⟩
    · simp only [storeCells, Sem.run_bind, add_pt, run_store _ _ _ _ _ (h1 v (List.mem_cons_self ..)), hc, hB.frozen, Bool.false_eq_true, if_false, Result.andThen_ok]
      exact hr
    · rw [show o + (j + 1) = o + j + 1 by omega, over_cons l (o + j) v r hlt] at hB1
      exact hB1
theorem st_storeagg {dst : Option Tmp} {x y : Operand} {b o m : Nat} {t t' : TypeId} {l vs : List Value} (hx : ev F x = some (pt b o)) (hy : ev F y = some (.agg vs.toArray)) (h1 : ∀ v ∈ vs, v.oneCell' = true) (hsz : tSize P t = some m) (hm : vs.length = m) (hB : Blk w b t' l) (ho : o + m ≤ l.length) (hd : dst = none)
    (k : ∀ w1, Blk w1 b t' (over l o vs) → Keep w w1 [b] → w1.heap.size = w.heap.size → wpL P ops Q n D F rest w1) : wpL P ops Q n D F (⟨dst, .store t x y, T, pos, af, none⟩ :: rest) w := by
  subst hd
  obtain ⟨w1, hr, hB1, hK, hs⟩ := run_storeCells (P := P) (b := b) (o := o) vs 0 w l hB (by omega) h1
  refine st0 (v := undef) (w' := w1) ?_ (k w1 hB1 hK hs)
  exact fun dst pos af gd ρ hρ => .inr ⟨by simp [execOp, hρ _ _ hx, hρ _ _ hy, Instr.storeAt, Instr.sureAddr, storeVar, run_sizeOf hsz, Value.cells, hm, hr], rfl⟩

/-- copy(dst, src): as many as there are in the shorter one -/
theorem st_copy {d : Nat} {x y : Operand} {t1 t2 e : TypeId} {b o c b' o' c' n1 n2 : Nat} {T1 T2 : TypeId} {l l' : List Value} (hx : ev F x = some (.slice (some ⟨b, o, none⟩) n1 c)) (hy : ev F y = some (.slice (some ⟨b', o', none⟩) n2 c')) (ht : P.underlying t1 = some (.slice e)) (he : tSize P e = some 1)
    (hB : Blk w b T1 l) (hB' : Blk w b' T2 l') (h1 : o + min n2 n1 ≤ l.length) (h2 : o' + min n2 n1 ≤ l'.length) (hone : ∀ v ∈ l', v.oneCell' = true) (hd : Nat.blt d n = true)
    (k : ∀ w1, Blk w1 b T1 (over l o ((l'.drop o').take (min n2 n1))) → Keep w w1 [b] → w1.heap.size = w.heap.size → wpL P ops Q n D ((d, vI (min n2 n1 : Nat)) :: F) rest w1) :
    wpL P ops Q n D F (⟨some d, .call ⟨.builtin .copy, #[x, y], #[t1, t2]⟩, T, pos, af, none⟩ :: rest) w := by
  have hlen : ((l'.drop o').take (min n2 n1)).length = min n2 n1 := by simp; omega
  obtain ⟨w1, hr, hB1, hK, hs⟩ := run_storeCells (P := P) (b := b) (o := o) ((l'.drop o').take (min n2 n1)) 0 w l hB (by omega) (fun v hv => hone v (List.mem_of_mem_drop (List.mem_of_mem_take hv)))
  have hl := run_loadCells (P := P) hB' (o := o') (min n2 n1) 0 #[] (by omega)
  refine st (v := vI (min n2 n1 : Nat)) (w' := w1) ?_ hd (k w1 hB1 hK hs)
  exact fun dst pos af gd ρ hρ => .inl (by
    rw [exec_builtin hρ (vals := [.slice (some ⟨b, o, none⟩) n1 c, .slice (some ⟨b', o', none⟩) n2 c']) (by simp [evs, hx, hy])]
    have hl' : (loadCellsFrom ⟨b', o', none⟩ 0 (Nat.min n2 n1) #[]).run P w = .ok ((l'.drop o').take (min n2 n1)).toArray w := by simpa using hl
    simp [builtin, Builtin.copy_, run_underlying ht, Builtin.lenOf, Builtin.firstCells, run_sizeOf he, loadCells, hl', hr, goInt])

end wr
end Go.Proofs.YtkemlhhpakjojaaDoor

/- More words for walks: rows of numbers, slices of slices, a deferred call; no statement of the program is proved here. -/
set_option linter.unusedVariables false
set_option linter.unusedSimpArgs false
namespace Go.Proofs.YtkemlhhpakjojaaDoor
open Go Go.RowKit

abbrev vB (b : Bool) : Value := .bool b

theorem map_getElem {α : Type} (f : α → Value) (d : α) (l : List α) (o : Nat) (ho : o < l.length) : (l.map f)[o]? = some (f (l.getD o d)) := by
  simp [List.getD_eq_getElem?_getD, ho]
theorem map_set' {α : Type} (f : α → Value) (l : List α) (o : Nat) (x : α) : (l.map f).set o (f x) = (l.set o x).map f := by
  rw [List.map_set]

section ops
variable {P : Program} {F : Fr} {w : World} {T : TypeId}
/-- an element of a row of like values -/
theorem y_loadM {α : Type} {f : α → Value} (d : α) {x : Operand} {b o : Nat} {t t' : TypeId} {l : List α} (hx : ev F x = some (pt b o)) (ht : tOne P t = true) (hB : Blk w b t' (l.map f)) (ho : o < l.length) : Zv P w F (.load t x) T (f (l.getD o d)) w :=
  y_loadb hx ht hB (map_getElem f d l o ho)
theorem y_and_i {x y : Operand} {t t' : TypeId} {a b : Nat} (hx : ev F x = some (vI a)) (hy : ev F y = some (vI b)) (h : a < 9223372036854775808) (h2 : b < 9223372036854775808) : Zv P w F (.binOp .and t x y t') T (vI (a &&& b : Nat)) w :=
  fun dst pos af gd ρ hρ => .inl (by
    have e : (BitVec.ofInt IntKind.i64.bits (a : Int) &&& BitVec.ofInt IntKind.i64.bits (b : Int)).toNat = a &&& b := by
      show (BitVec.ofInt 64 (a : Int) &&& BitVec.ofInt 64 (b : Int)).toNat = _
      rw [ofInt64, ofInt64, BitVec.toNat_and, BitVec.toNat_ofNat, BitVec.toNat_ofNat, Nat.mod_eq_of_lt (by omega), Nat.mod_eq_of_lt (by omega)]
    have e2 := wrap_i64 ((a &&& b : Nat) : Int) (by omega) (by have : a &&& b ≤ a := Nat.and_le_left; omega)
    simp only [execOp, hρ _ _ hx, hρ _ _ hy, eqGuard, binOp, Op.intBits, vI]
    simp only [e, e2]
    simp)
/-- xs[l:], l at most the length: where it begins is known if it holds anything -/
theorem y_slice_ln {x lo : Operand} {t e : TypeId} {k : IntKind} {b o n c l : Nat} (hx : ev F x = some (.slice (some ⟨b, o, none⟩) n c)) (hl : ev F lo = some (.int k (l : Int))) (ht : P.underlying t = some (.slice e)) (he : tSize P e = some 1) (h1 : l ≤ n) (h2 : l < c) :
    Zv P w F (.slice t x (some lo) none none) T (.slice (some ⟨b, o + l, none⟩) (n - l) (c - l)) w := by
  have h := y_slice_l (T := T) (w := w) hx hl ht he h1
  rwa [if_neg (by omega)] at h
theorem y_slice_lhn {x lo hi : Operand} {t e : TypeId} {k k' : IntKind} {b o n c l h : Nat} (hx : ev F x = some (.slice (some ⟨b, o, none⟩) n c)) (hl : ev F lo = some (.int k (l : Int))) (hh : ev F hi = some (.int k' (h : Int))) (ht : P.underlying t = some (.slice e)) (he : tSize P e = some 1) (h1 : l ≤ h) (h2 : h ≤ c) (h3 : l < c) :
    Zv P w F (.slice t x (some lo) (some hi) none) T (.slice (some ⟨b, o + l, none⟩) (h - l) (c - l)) w := by
  have h := y_slice_lh (T := T) (w := w) hx hl hh ht he h1 h2
  rwa [if_neg (by omega)] at h

theorem beqBool (a b : Bool) : (a == b) = decide (a = b) := by cases a <;> cases b <;> rfl
theorem bneBool (a b : Bool) : (a != b) = decide (a ≠ b) := by cases a <;> cases b <;> rfl
theorem y_eq_b {x y : Operand} {t t' : TypeId} {a b : Bool} (hx : ev F x = some (.bool a)) (hy : ev F y = some (.bool b)) (ht : P.underlying t = some .bool) : Zv P w F (.binOp .eql t x y t') T (.bool (decide (a = b))) w :=
  fun dst pos af gd ρ hρ => .inl (by
    have h := run_eql_bool (P := P) w t a b ht
    simp only [execOp, hρ _ _ hx, hρ _ _ hy, eqGuard, Sem.run_bind]
    simp [h, beqBool])
theorem y_ne_b {x y : Operand} {t t' : TypeId} {a b : Bool} (hx : ev F x = some (.bool a)) (hy : ev F y = some (.bool b)) (ht : P.underlying t = some .bool) : Zv P w F (.binOp .neq t x y t') T (.bool (decide (a ≠ b))) w :=
  fun dst pos af gd ρ hρ => .inl (by
    have h : (binOp .neq t (.bool a) (.bool b)).run P w = .ok (.bool (a != b)) w := by
      have h0 := run_eql_bool (P := P) w t a b ht
      simp only [binOp, Sem.run_bind] at h0 ⊢
      cases hr : (Op.equal t (.bool a) (.bool b)).run P w with
      | ok r w' => rw [hr] at h0; simp at h0; obtain ⟨h1, rfl⟩ := h0; subst h1; simp [bne]
      | halt h1 w' => rw [hr] at h0; simp at h0
    simp only [execOp, hρ _ _ hx, hρ _ _ hy, eqGuard, Sem.run_bind]
    simp [h, bneBool])
theorem y_max_u {x y : Operand} {t : TypeId} {a b : Nat} (hx : ev F x = some (vU a)) (hy : ev F y = some (vU b)) (ht : P.underlying t = some (.int .u64)) : Zv P w F (.call ⟨.builtin .max, #[x, y], #[t, t]⟩) T (vU (max a b)) w :=
  fun dst pos af gd ρ hρ => .inl (by
    rw [exec_builtin hρ (vals := [vU a, vU b]) (by simp [evs, hx, hy])]
    have h : (if (b : Int) > (a : Int) then (b : Int) else (a : Int)) = ((max a b : Nat) : Int) := by split <;> omega
    simp only [builtin, Builtin.max_, List.foldlM, Builtin.max2, h, Sem.run_bind, Sem.run_pure, Result.andThen_ok])
theorem y_min_i {x y : Operand} {t : TypeId} {a b : Int} (hx : ev F x = some (vI a)) (hy : ev F y = some (vI b)) (ht : P.underlying t = some (.int .i64)) : Zv P w F (.call ⟨.builtin .min, #[x, y], #[t, t]⟩) T (vI (min a b)) w :=
  fun dst pos af gd ρ hρ => .inl (by
    rw [exec_builtin hρ (vals := [vI a, vI b]) (by simp [evs, hx, hy])]
    have h : (if b < a then b else a) = min a b := by split <;> omega
    simp only [builtin, Builtin.min_, List.foldlM, Builtin.min2, h, Sem.run_bind, Sem.run_pure, Result.andThen_ok])
end ops

section wr
variable {P : Program} {ops : Array Oper} {Q : Exit → Act → World → Prop} {n : Nat} {D : List Deferred} {F : Fr} {rest : List Oper} {w : World} {T : TypeId} {pos : String} {af : Array Edge}

/-- a store into a row of like values -/
theorem st_storeM {α : Type} (f : α → Value) {dst : Option Tmp} {x y : Operand} {b o : Nat} {t t' : TypeId} {l : List α} {m : α} (hx : ev F x = some (pt b o)) (hy : ev F y = some (f m)) (h1 : (f m).oneCell' = true) (hsz : tSize P t = some 1) (hB : Blk w b t' (l.map f)) (ho : o < l.length) (hd : dst = none)
    (k : ∀ w1, Blk w1 b t' ((l.set o m).map f) → Keep w w1 [b] → w1.heap.size = w.heap.size → wpL P ops Q n D F rest w1) : wpL P ops Q n D F (⟨dst, .store t x y, T, pos, af, none⟩ :: rest) w :=
  st_store hx hy h1 hsz hB (by simpa using ho) hd fun w1 hB1 => k w1 (by rwa [map_set'] at hB1)

/-- a call is put off -/
theorem st_defer {x : Operand} {f : FuncId} {cap : List Value} (hx : ev F x = some (.func (.func f) #[] cap.toArray))
    (k : wpL P ops Q n ({ target := .fn (.func f) cap.toArray, args := #[] } :: D) F rest w) : wpL P ops Q n D F (⟨none, .defer ⟨.value x, #[], #[]⟩, T, pos, af, none⟩ :: rest) w := by
  intro a ha
  refine wpList_plain rfl fun K hK => ?_
  have h1 := ha.agree x _ hx
  have h2 : (execOp a.eval ⟨none, .defer ⟨.value x, #[], #[]⟩, T, pos, af, none⟩).run P w = .ok (.defer { target := .fn (.func f) cap.toArray, args := #[] }) w := by
    simp [execOp, resolve, h1, Deferred.ofValue]
  unfold Oper.wp
  rw [h2]
  refine hK _ _ (k _ ⟨?_, ha.size, ha.get⟩)
  simp [Act.put, ha.defers]

/-- the end of a function that has put off one call of a closure that finds nothing to recover; its result lies in a cell -/
theorem q_endD {fn : Func} {R : Ending → World → Prop} {e : Exit} {f : FuncId} {cap : List Value} {t b : Nat} {tt tb : TypeId} {v : Value} (he : e = .ret ∨ e = .normal) (hr : fn.results = #[.cell t tt]) (ht : fget F t = some (vP b)) (ho : tOne P tt = true)
    (hfn : IsFn P f) (hc : CallsD P f cap.toArray .returning w fun e u' w' => e = .returned (.tuple #[]) ∧ u' = .returning ∧ w' = w) (hB : Blk w b tb [v]) (hR : R (.returned v) w) :
    qf (bodyPostD P fn R) e n [{ target := .fn (.func f) cap.toArray, args := #[] }] F w := by
  intro a ha
  have hx : bodyPostD P fn R .ret a w := by
    show Leaves P fn a.tmps R a.defers .returning w
    rw [ha.defers]
    refine leaves_cons (f := f) (args := cap.toArray) (by simp) ?_ ?_
    · simp [invoke, run_callv hfn]
    · refine CallsD.mono hc ?_
      rintro e u' w' ⟨rfl, rfl, rfl⟩
      have hg := ha.get t _ ht
      rw [Array.getD_eq_getD_getElem?] at hg
      refine ⟨v, ?_, hR⟩
      simp [results, hr, hg, asAddr, loadVar, run_isAgg ho, hB.cell (o := 0) (v := v) rfl]
  rcases he with rfl | rfl <;> exact hx

theorem go_inD {f : FuncId} {fn : Func} {c : Code} {args : List Value} {R : Value → World → Prop} (hf : P.funcs[f]? = some fn) (hb : fn.body = some c) (hn : fn.ntmps = n) (hle : args.length ≤ n)
    (h : cwp P c (bodyPostD P fn (fun e w' => ∃ v, e = .returned v ∧ R v w')) n [] (frame0 0 args) w) : Cal P f args w R := by
  refine calls_of_wp_defers hf hb (h _ ⟨rfl, by simp [hn]; omega, ?_⟩)
  intro x v hx
  obtain ⟨_, h2⟩ := frame0_get args 0 x v hx
  have hlt : x < args.length := by
    rcases Nat.lt_or_ge x args.length with h | h
    · exact h
    · simp [List.getElem?_eq_none h] at h2
  have h3 : args[x]? = some v := by simpa using h2
  have h4 : args[x] = v := by rw [List.getElem?_eq_getElem hlt] at h3; exact Option.some.inj h3
  simp [Array.getD_eq_getD_getElem?, Array.getElem?_append, hlt, h4]

/-- the end of a function whose one result lies in cells -/
theorem run_loadVar_one {t : TypeId} {b : Nat} {tb : TypeId} {v : Value} (ho : tOne P t = true) (hB : Blk w b tb [v]) : (loadVar t ⟨b, 0, none⟩).run P w = .ok v w := by
  simp [loadVar, run_isAgg ho, hB.cell (o := 0) (v := v) rfl]
theorem run_isAgg' {t : TypeId} (h : tOne P t = false) (hu : (P.underlying t).isSome = true) : (isAgg t).run P w = .ok true w := by
  obtain ⟨d, hd⟩ := Option.isSome_iff_exists.1 hu
  unfold tOne at h
  rw [hd] at h
  unfold isAgg
  cases d <;> simp_all [run_underlying hd]
theorem run_loadVar_agg {t : TypeId} {b m : Nat} {tb : TypeId} {l : List Value} (ht : tOne P t = false) (hu : (P.underlying t).isSome = true) (hs : tSize P t = some m) (hm : l.length = m) (hB : Blk w b tb l) : (loadVar t ⟨b, 0, none⟩).run P w = .ok (.agg l.toArray) w := by
  have h2 := run_loadCells (P := P) hB (o := 0) m 0 #[] (by omega)
  subst hm
  simp [loadVar, run_isAgg' ht hu, run_sizeOf hs, loadCells, h2]
theorem q_endc {fn : Func} {R : Ending → World → Prop} {e : Exit} {t b m : Nat} {tt tb : TypeId} {l : List Value} (he : e = .ret ∨ e = .normal) (hr : fn.results = #[.cell t tt]) (ht : fget F t = some (vP b)) (ha : tOne P tt = false) (hu : (P.underlying tt).isSome = true) (hs : tSize P tt = some m) (hB : Blk w b tb l) (hm : l.length = m)
    (hR : R (.returned (.agg l.toArray)) w) : qf (bodyPost P fn R) e n [] F w := by
  intro a ha'
  have hx : bodyPost P fn R .ret a w := ⟨ha'.defers, .agg l.toArray, by
    have hg := ha'.get t _ ht
    rw [Array.getD_eq_getD_getElem?] at hg
    simp [results, hr, hg, asAddr, run_loadVar_agg ha hu hs hm hB], hR⟩
  rcases he with rfl | rfl <;> exact hx

def evp (F : Fr) : List (Nat × Operand) → Option (List (Nat × Value))
  | [] => some []
  | (i, x) :: r => match ev F x, evp F r with
    | some v, some vs => some ((i, v) :: vs)
    | _, _ => none
theorem Agree.evp {ρ : Operand → Value} {F : Fr} (h : Agree ρ F) : ∀ (l : List (Nat × Operand)) (vs : List (Nat × Value)), evp F l = some vs → (l.map fun (i, x) => (i, ρ x)) = vs := by
  intro l
  induction l with
  | nil => intro vs hv; simp [Proofs.YtkemlhhpakjojaaDoor.evp] at hv; simp [hv]
  | cons y r ih =>
    obtain ⟨i, x⟩ := y
    intro vs hv
    simp only [Proofs.YtkemlhhpakjojaaDoor.evp] at hv
    cases hx : ev F x with
    | none => simp [hx] at hv
    | some v =>
      cases hr : Proofs.YtkemlhhpakjojaaDoor.evp F r with
      | none => simp [hx, hr] at hv
      | some ws =>
        simp only [hx, hr, Option.some.injEq] at hv
        subst hv
        simp [h x v hx]
        simpa using ih ws hr
/-- []T{..} written out -/
theorem st_buildSlice {d : Nat} {t e len m : Nat} {parts : Array (Nat × Operand)} {vs : List (Nat × Value)} {z : Value} (cells : List Value) (ht : P.underlying t = some (.slice e)) (he : tSize P e = some m) (hz : tZero P e = some z) (hp : evp F parts.toList = some vs) (hsm : len * m ≤ 16777216) (hpos : 0 < len * m)
    (hf : Instr.fill (fun i => some (i * m, m)) ((Array.range (len * m)).map (z.cells[· % z.cells.size]!)) vs = some cells.toArray) (hd : Nat.blt d n = true)
    (k : ∀ b w1, w.heap.size = b → Blk w1 b e cells → Keep w w1 [] → w1.heap.size = b + 1 → wpL P ops Q n D ((d, vS b len len) :: F) rest w1) : wpL P ops Q n D F (⟨some d, .buildSlice t len parts, T, pos, af, none⟩ :: rest) w := by
  refine st (v := vS w.heap.size len len) (w' := w.alloc (.cells cells.toArray e)) ?_ hd (k _ _ rfl (Blk.new w cells e) (Keep.alloc w _ _) (by simp))
  refine fun dst pos af gd ρ hρ => .inl ?_
  have e1 : (parts.map fun (i, x) => (i, ρ x)).toList = vs := by
    have := hρ.evp _ _ hp
    simpa using this
  have hn : ¬ (len * m > 2 ^ 24) := by omega
  have h0 : ¬ len * m = 0 := by omega
  simp only [execOp, Instr.buildSlice, Sem.run_bind, run_underlying ht, run_sizeOf he, Result.andThen_ok, if_neg hn, if_neg h0, e1, Sem.run_pure, run_zero hz, hf]
  simp [newRow]
/-- []T{}, empty and not nil -/
theorem st_buildSlice0 {d : Nat} {t e m : Nat} (ht : P.underlying t = some (.slice e)) (he : tSize P e = some m) (hd : Nat.blt d n = true)
    (k : ∀ b w1, w.heap.size = b → Blk w1 b e [] → Keep w w1 [] → w1.heap.size = b + 1 → wpL P ops Q n D ((d, vS b 0 0) :: F) rest w1) : wpL P ops Q n D F (⟨some d, .buildSlice t 0 #[], T, pos, af, none⟩ :: rest) w := by
  refine st (v := vS w.heap.size 0 0) (w' := w.alloc (.cells [].toArray e)) ?_ hd (k _ _ rfl (Blk.new w [] e) (Keep.alloc w _ _) (by simp))
  refine fun dst pos af gd ρ hρ => .inl ?_
  have e0 : (Array.map (fun x => (default : Value)) (Array.range 0)) = #[] := by rw [Array.range_zero']; simp
  simp [execOp, Instr.buildSlice, run_underlying ht, run_sizeOf he, Instr.fill, newRow, e0]

/-- what a part of a row reads as -/
theorem Rd.of_row {w : World} {b o m : Nat} {t : TypeId} {l : List Nat} (hB : Blk w b t (l.map vU)) (h : o + m ≤ l.length) (hm : m ≤ 9223372036854775807) : Rd w (some ⟨b, o, none⟩) m ((l.drop o).take m) := by
  refine ⟨by simp; omega, hm, fun h0 => ⟨_, rfl, hB.lt, fun j hj => ?_⟩⟩
  rw [add_pt]
  have hlt : o + j < l.length := by omega
  refine hB.cell ?_
  rw [List.getElem?_map, List.getElem?_eq_getElem hlt]
  simp [List.getD_eq_getElem?_getD, hj, hlt]
theorem Rd.of_zero {w : World} {A : Option Addr} {m : Nat} {xs : List Nat} (hm : m = 0) (hx : xs.length = 0) : Rd w A m xs := ⟨by omega, by omega, fun h => absurd h (by omega)⟩
end wr
end Go.Proofs.YtkemlhhpakjojaaDoor

/- A slice of numbers that the call itself makes by appending; no statement of the program is proved here. -/
set_option linter.unusedVariables false
set_option linter.unusedSimpArgs false
namespace Go.Proofs.YtkemlhhpakjojaaDoor
open Go Go.RowKit

/-- v is a slice whose elements are xs, its row among the blocks from base on -/
def Ow (w : World) (base : Nat) (e : TypeId) (v : Value) (xs : List Value) : Prop :=
  (v = .slice none 0 0 ∧ xs = []) ∨ ∃ b c tail, v = vS b xs.length c ∧ base ≤ b ∧ Blk w b e (xs ++ tail) ∧ c = xs.length + tail.length ∧ c ≤ maxLen

theorem Ow.nil (w : World) (base : Nat) (e : TypeId) : Ow w base e (.slice none 0 0) [] := .inl ⟨rfl, rfl⟩
theorem Ow.empty {w : World} {base b : Nat} {e : TypeId} (hB : Blk w b e []) (hb : base ≤ b) : Ow w base e (vS b 0 0) [] :=
  .inr ⟨b, 0, [], rfl, hb, hB, rfl, by simp [maxLen]⟩
theorem Ow.keep {w w' : World} {base : Nat} {e : TypeId} {v : Value} {xs : List Value} {L : List Nat} (h : Ow w base e v xs) (k : Keep w w' L) (hL : ∀ i, i ∈ L → i < base ∨ w.heap.size ≤ i) : Ow w' base e v xs := by
  rcases h with h | ⟨b, c, tail, h1, h2, h3, h4, h5⟩
  · exact .inl h
  · refine .inr ⟨b, c, tail, h1, h2, h3.keep k ?_, h4, h5⟩
    intro hm
    have := hL b hm
    have := h3.lt
    omega
theorem Ow.form {w : World} {base : Nat} {e : TypeId} {v : Value} {xs : List Value} (h : Ow w base e v xs) : ∃ A c, v = .slice A xs.length c := by
  rcases h with ⟨rfl, rfl⟩ | ⟨b, c, tail, rfl, _⟩
  · exact ⟨none, 0, rfl⟩
  · exact ⟨_, c, rfl⟩
theorem Ow.rd {w : World} {base : Nat} {e : TypeId} {v : Value} {xs : List Nat} (h : Ow w base e v (xs.map vU)) : ∃ A c, v = .slice A xs.length c ∧ Rd w A xs.length xs := by
  rcases h with ⟨rfl, h2⟩ | ⟨b, c, tail, rfl, _, hB, hc, hm⟩
  · have : xs = [] := by simpa using h2
    subst this
    exact ⟨none, 0, rfl, rfl, by simp, fun h => absurd h (by simp)⟩
  · refine ⟨some ⟨b, 0, none⟩, c, by simp, rfl, ?_, fun h0 => ⟨_, rfl, hB.lt, fun j hj => ?_⟩⟩
    · simp only [List.length_map] at hc; unfold maxLen at hm; omega
    · rw [add_pt, Nat.zero_add]
      refine hB.cell ?_
      rw [List.getElem?_append_left (by simpa using hj), List.getElem?_map, List.getElem?_eq_getElem hj]
      simp [List.getD_eq_getElem?_getD, hj]
theorem Ow.owns {w : World} {base : Nat} {e : TypeId} {v : Value} {xs : List Value} (h : Ow w base e v xs) : w.ownsRow base e 1 v xs.length xs := by
  rcases h with ⟨rfl, rfl⟩ | ⟨b, c, tail, rfl, h2, h3, h4, h5⟩
  · exact World.ownsRow_nil w base e 1
  · exact ⟨by simp, .inr ⟨b, c, (xs ++ tail).toArray, rfl, h2, h3, by omega, h5, by simp; omega, by simp⟩⟩
theorem Ow.of {w : World} {base n : Nat} {e : TypeId} {v : Value} {xs : List Value} (h : w.ownsRow base e 1 v n xs) : Ow w base e v xs := by
  obtain ⟨h1, h⟩ := h
  rw [Nat.mul_one] at h1
  subst h1
  rcases h with ⟨rfl, h2⟩ | ⟨g, cap, cur, rfl, h2, h3, h4, h5, h6, h7⟩
  · exact .inl ⟨rfl, List.eq_nil_of_length_eq_zero h2⟩
  · rw [Nat.mul_one] at h6 h7
    refine .inr ⟨g, cap, cur.toList.drop xs.length, rfl, h2, ?_, ?_, h5⟩
    · have e1 : xs ++ cur.toList.drop xs.length = cur.toList := by
        have h8 := List.take_append_drop xs.length cur.toList
        rw [h7] at h8
        exact h8
      rw [e1]
      exact h3
    · simp; omega

section
variable {P : Program} {ops : Array Oper} {Q : Exit → Act → World → Prop} {n : Nat} {D : List Deferred} {F : Fr} {rest : List Oper} {w : World} {T : TypeId} {pos : String} {af : Array Edge}
/-- append(xs, y): y has been laid in a row of its own -/
theorem st_append1 {d : Nat} {x y : Operand} {t e : TypeId} {i : TypeInfo} {z u v : Value} {base b1 c1 : Nat} {xs : List Value} {T1 : TypeId} (hx : ev F x = some v) (hy : ev F y = some (vS b1 1 c1)) (ht : P.underlying t = some (.slice e)) (hi : P.info? e = some i) (hz : i.zero = some z) (hs : i.size = 1) (hb : i.bytes ≤ 64) (hz1 : z.oneCell' = true) (hu : u.oneCell' = true)
    (hO : Ow w base e v xs) (hB : Blk w b1 T1 [u]) (hlen : xs.length ≤ 1000000) (hbase : base ≤ w.heap.size) (hd : Nat.blt d n = true)
    (k : ∀ v' w1 L, Ow w1 base e v' (xs ++ [u]) → Keep w w1 L → (∀ i, i ∈ L → base ≤ i) → wpL P ops Q n D ((d, v') :: F) rest w1) : wpL P ops Q n D F (⟨some d, .call ⟨.builtin .append, #[x, y], #[t, t]⟩, T, pos, af, none⟩ :: rest) w := by
  have hnews : ∀ j u', [u][j]? = some u' → w.cell? ((⟨b1, 0, none⟩ : Addr).add j) = some u' := by
    intro j u' hj
    rw [add_pt, Nat.zero_add]
    exact hB.cell hj
  obtain ⟨v', w1, hr, hO', hg, _⟩ := run_append_own (P := P) w base t T e i z 1 i.bytes ht hi hz hs rfl (by rw [cells_one hz1]; rfl) (by omega) v xs.length xs hO.owns ⟨b1, 0, none⟩ 1 c1 [u] rfl hnews (by simpa using hu) (by unfold maxLen; omega)
    (by have : (xs.length + 1) * i.bytes ≤ 1000001 * 64 := Nat.mul_le_mul (by omega) hb; omega) hbase
  have hlt : ∀ i, i ∈ v.ownBlock.toList → base ≤ i := fun i hi => (hO.owns.lt i (by simpa using hi)).1
  refine st (v := v') (w' := w1) ?_ hd (k v' w1 v.ownBlock.toList (Ow.of hO') ⟨hg.os, hg.tape, hg.output, hg.size, fun i hi hn => hg.block i hi (fun e => hn (by simp [← e]))⟩ hlt)
  exact fun dst pos af gd ρ hρ => .inl (by
    rw [exec_builtin hρ (vals := [v, vS b1 1 c1]) (by simp [evs, hx, hy])]
    simp [builtin, hr])
end
end Go.Proofs.YtkemlhhpakjojaaDoor

/- append of a slice to one that the call has made itself; no statement of the program is proved here. -/
set_option linter.unusedVariables false
set_option linter.unusedSimpArgs false
namespace Go.Proofs.YtkemlhhpakjojaaDoor
open Go Go.RowKit
section
variable {P : Program} {ops : Array Oper} {Q : Exit → Act → World → Prop} {n : Nat} {D : List Deferred} {F : Fr} {rest : List Oper} {w : World} {T : TypeId} {pos : String} {af : Array Edge}
theorem st_appendL {d : Nat} {x y : Operand} {t e : TypeId} {i : TypeInfo} {z v : Value} {base m c1 : Nat} {ad : Addr} {xs news : List Value} (hx : ev F x = some v) (hy : ev F y = some (.slice (some ad) m c1)) (ht : P.underlying t = some (.slice e)) (hi : P.info? e = some i) (hz : i.zero = some z) (hs : i.size = 1) (hb : i.bytes ≤ 64) (hz1 : z.oneCell' = true)
    (hl : news.length = m) (hnews : ∀ j u', news[j]? = some u' → w.cell? (ad.add j) = some u') (hu : ∀ u ∈ news, u.oneCell' = true)
    (hO : Ow w base e v xs) (hlen : xs.length ≤ 1000000) (hm : m ≤ 1000000) (hbase : base ≤ w.heap.size) (hd : Nat.blt d n = true)
    (k : ∀ v' w1 L, Ow w1 base e v' (xs ++ news) → Keep w w1 L → (∀ i, i ∈ L → base ≤ i) → wpL P ops Q n D ((d, v') :: F) rest w1) : wpL P ops Q n D F (⟨some d, .call ⟨.builtin .append, #[x, y], #[t, t]⟩, T, pos, af, none⟩ :: rest) w := by
  obtain ⟨v', w1, hr, hO', hg, _⟩ := run_append_own (P := P) w base t T e i z 1 i.bytes ht hi hz hs rfl (by rw [cells_one hz1]; rfl) (by omega) v xs.length xs hO.owns ad m c1 news (by omega) hnews hu (by unfold maxLen; omega)
    (by have : (xs.length + m) * i.bytes ≤ 2000000 * 64 := Nat.mul_le_mul (by omega) hb; omega) hbase
  have hlt : ∀ i, i ∈ v.ownBlock.toList → base ≤ i := fun i hi => (hO.owns.lt i (by simpa using hi)).1
  refine st (v := v') (w' := w1) ?_ hd (k v' w1 v.ownBlock.toList (Ow.of hO') ⟨hg.os, hg.tape, hg.output, hg.size, fun i hi hn => hg.block i hi (fun e => hn (by simp [← e]))⟩ hlt)
  exact fun dst pos af gd ρ hρ => .inl (by
    rw [exec_builtin hρ (vals := [v, .slice (some ad) m c1]) (by simp [evs, hx, hy])]
    simp [builtin, hr])
end
end Go.Proofs.YtkemlhhpakjojaaDoor

/- Plain words for a walk: frames as association lists, one lemma for each operation of the model that this program uses; no statement of the program is proved here. -/
import Derived.WalkKit
import Derived.StillTail
import Derived.Deep.Quiet
import Derived.KernelRfl
import Derived.Laws.MakeOwn
import Derived.Laws.BitsLemmas
set_option linter.unusedVariables false
set_option linter.unusedSimpArgs false
namespace Go.Proofs.YtbahhdeblppooaaDoor
open Go

/-! ### Frames -/
abbrev Fr := List (Nat × Value)

def fget : Fr → Nat → Option Value
  | [], _ => none
  | (d, v) :: r, x => bif Nat.beq d x then some v else fget r x

def ev (F : Fr) : Operand → Option Value
  | .tmp t => fget F t
  | .const v => some v
  | .global g => some (.pointer (some ⟨g, 0, none⟩))
  | .func f => some (.func (.func f) #[] #[])

def evs (F : Fr) : List Operand → Option (List Value)
  | [] => some []
  | x :: r => match ev F x, evs F r with
    | some v, some vs => some (v :: vs)
    | _, _ => none

structure Sat (a : Act) (n : Nat) (D : List Deferred) (F : Fr) : Prop where
  defers : a.defers = D
  size : a.tmps.size = n
  get : ∀ x v, fget F x = some v → a.tmps.getD x undef = v

def Agree (ρ : Operand → Value) (F : Fr) : Prop := ∀ x v, ev F x = some v → ρ x = v

theorem Sat.agree {a : Act} {n : Nat} {D : List Deferred} {F : Fr} (h : Sat a n D F) : Agree a.eval F := by
  intro x v hv
  cases x with
  | tmp t => exact h.get t v hv
  | const c => simpa [ev, Act.eval] using hv
  | global g => simpa [ev, Act.eval] using hv
  | func f => simpa [ev, Act.eval] using hv

theorem Agree.evs {ρ : Operand → Value} {F : Fr} (h : Agree ρ F) : ∀ (l : List Operand) (vs : List Value), evs F l = some vs → l.map ρ = vs := by
  intro l
  induction l with
  | nil => intro vs hv; simp [Proofs.YtbahhdeblppooaaDoor.evs] at hv; simp [hv]
  | cons x r ih =>
    intro vs hv
    simp only [Proofs.YtbahhdeblppooaaDoor.evs] at hv
    cases hx : ev F x with
    | none => simp [hx] at hv
    | some v =>
      cases hr : Proofs.YtbahhdeblppooaaDoor.evs F r with
      | none => simp [hx, hr] at hv
      | some ws =>
        simp only [hx, hr, Option.some.injEq] at hv
        subst hv
        simp [h x v hx, ih ws hr]

theorem Sat.put {a : Act} {n : Nat} {D : List Deferred} {F : Fr} (h : Sat a n D F) {d : Nat} (hd : Nat.blt d n = true) (v : Value) : Sat (a.put (some d) v) n D ((d, v) :: F) := by
  have hd' : d < n := by simpa using hd
  refine ⟨h.defers, by simp [Act.put, h.size], ?_⟩
  intro x u hx
  simp only [fget] at hx
  by_cases e : d = x
  · subst e
    simp at hx
    subst hx
    simp [Act.put, Array.getD_eq_getD_getElem?, Array.getElem?_setIfInBounds, h.size, hd']
  · have hb : Nat.beq d x = false := by
      cases hb : Nat.beq d x with
      | false => rfl
      | true => exact absurd (Nat.eq_of_beq_eq_true hb) e
    rw [hb] at hx
    simp only [cond_false] at hx
    have := h.get x u hx
    simpa [Act.put, Array.getD_eq_getD_getElem?, Array.getElem?_setIfInBounds, e] using this

theorem Sat.put_none {a : Act} {n : Nat} {D : List Deferred} {F : Fr} (h : Sat a n D F) (v : Value) : Sat (a.put none v) n D F := h

/-- What the second frame says, the first one says too: an entry each. -/
def FS : Fr → Fr → Prop
  | [], _ => True
  | (t, v) :: r, F => fget F t = some v ∧ FS r F

theorem FS.get {G F : Fr} (h : FS G F) : ∀ x v, fget G x = some v → fget F x = some v := by
  induction G with
  | nil => intro x v hx; simp [fget] at hx
  | cons p r ih =>
    obtain ⟨t, u⟩ := p
    intro x v hx
    simp only [fget] at hx
    cases hb : Nat.beq t x with
    | true =>
      rw [hb] at hx
      simp only [cond_true, Option.some.injEq] at hx
      have := Nat.eq_of_beq_eq_true hb
      subst this; subst hx
      exact h.1
    | false =>
      rw [hb] at hx
      exact ih h.2 x v hx

theorem Sat.sub {a : Act} {n : Nat} {D : List Deferred} {F G : Fr} (h : Sat a n D F) (hs : FS G F) : Sat a n D G :=
  ⟨h.defers, h.size, fun x v hx => h.get x v (hs.get x v hx)⟩

/-! ### One operation -/
/-- Where the frame says F, the operation answers v and leaves the world w'. -/
def Zv (P : Program) (w : World) (F : Fr) (op : Op) (T : TypeId) (v : Value) (w' : World) : Prop :=
  ∀ dst pos af gd ρ, Agree ρ F → (execOp ρ ⟨dst, op, T, pos, af, gd⟩).run P w = .ok (.value v) w' ∨ ((execOp ρ ⟨dst, op, T, pos, af, gd⟩).run P w = .ok .skip w' ∧ v = undef)

/-- A call that returns, and what holds then. -/
def Cal (P : Program) (f : FuncId) (args : List Value) (w : World) (R : Value → World → Prop) : Prop :=
  Calls P f args.toArray w fun e w' => ∃ v, e = .returned v ∧ R v w'

theorem Cal.mono {P : Program} {f : FuncId} {args : List Value} {w : World} {R R' : Value → World → Prop} (h : Cal P f args w R) (hr : ∀ v w', R v w' → R' v w') : Cal P f args w R' :=
  Calls.mono h fun e w' ⟨v, he, hv⟩ => ⟨v, he, hr v w' hv⟩

def wpL (P : Program) (ops : Array Oper) (Q : Exit → Act → World → Prop) (n : Nat) (D : List Deferred) (F : Fr) (l : List Oper) (w : World) : Prop :=
  ∀ a, Sat a n D F → wpList P ops Q l a w

def wpS (P : Program) (ops : Array Oper) (w : World) (K : Act → Prop) (n : Nat) (D : List Deferred) (F : Fr) (l : List Oper) : Prop :=
  ∀ a, Sat a n D F → wpStill P ops w K l a

def qf (Q : Exit → Act → World → Prop) (e : Exit) (n : Nat) (D : List Deferred) (F : Fr) (w : World) : Prop := ∀ a, Sat a n D F → Q e a w

def cwp (P : Program) (c : Code) (Q : Exit → Act → World → Prop) (n : Nat) (D : List Deferred) (F : Fr) (w : World) : Prop := ∀ a, Sat a n D F → c.wp P Q a w

section steps
variable {P : Program} {ops : Array Oper} {Q : Exit → Act → World → Prop} {n : Nat} {D : List Deferred} {F : Fr} {rest : List Oper} {w w' : World} {op : Op} {T : TypeId} {v : Value} {pos : String} {af : Array Edge}

/-- a step: plain, with a slot -/
theorem st {d : Nat} (h : Zv P w F op T v w') (hd : Nat.blt d n = true) (k : wpL P ops Q n D ((d, v) :: F) rest w') : wpL P ops Q n D F (⟨some d, op, T, pos, af, none⟩ :: rest) w := by
  intro a ha
  refine wpList_plain rfl fun K hK => ?_
  have hk := hK _ _ (k _ (ha.put hd v))
  unfold Oper.wp
  rcases h (some d) pos af none a.eval ha.agree with h | ⟨h, hu⟩
  · rw [h]; exact hk
  · rw [h]; rw [hu] at hk; exact hk

/-- a step: plain, without a slot -/
theorem st0 (h : Zv P w F op T v w') (k : wpL P ops Q n D F rest w') : wpL P ops Q n D F (⟨none, op, T, pos, af, none⟩ :: rest) w := by
  intro a ha
  refine wpList_plain rfl fun K hK => ?_
  have hk := hK _ _ (k _ (ha.put_none v))
  unfold Oper.wp
  rcases h none pos af none a.eval ha.agree with h | ⟨h, hu⟩
  · rw [h]; exact hk
  · rw [h]; rw [hu] at hk; exact hk

theorem wanted_of {a : Act} (ha : Sat a n D F) {o : Oper} {j t : Nat} {b c : Bool} (hg : o.guard = some (j, b)) (hj : ((ops[j]?).bind (·.dst)) = some t) (ht : fget F t = some (.bool c)) :
    Region.wanted o (yielded ops a.tmps) = (c == b) := by
  have hget := ha.get t _ ht
  have hx : a.tmps[t]? = some (.bool c) := by
    rw [Array.getD_eq_getD_getElem?] at hget
    cases hh : a.tmps[t]? with
    | none => rw [hh] at hget; simp [undef] at hget
    | some u => rw [hh] at hget; simpa using hget
  simp only [Region.wanted, hg, yielded, hj, Option.bind_some, hx]
  cases b <;> cases c <;> rfl

/-- a step that is guarded, the guard's word being yes -/
theorem stg {d j t : Nat} {b : Bool} (hj : ((ops[j]?).bind (·.dst)) = some t) (ht : fget F t = some (.bool b)) (h : Zv P w F op T v w') (hd : Nat.blt d n = true) (k : wpL P ops Q n D ((d, v) :: F) rest w') :
    wpL P ops Q n D F (⟨some d, op, T, pos, af, some (j, b)⟩ :: rest) w := by
  intro a ha
  refine wpList_step fun K hK => ?_
  rw [wanted_of ha rfl hj ht]
  have hk := hK _ _ (k _ (ha.put hd v))
  simp only [BEq.rfl, if_true]
  unfold Oper.wp
  rcases h (some d) pos af (some (j, b)) a.eval ha.agree with h | ⟨h, hu⟩
  · rw [h]; exact hk
  · rw [h]; rw [hu] at hk; exact hk

/-- a step that is guarded, the guard's word being no -/
theorem sno {d j t : Nat} {b c : Bool} (hj : ((ops[j]?).bind (·.dst)) = some t) (ht : fget F t = some (.bool c)) (hbc : (c == b) = false) (hd : Nat.blt d n = true) (k : wpL P ops Q n D ((d, undef) :: F) rest w) :
    wpL P ops Q n D F (⟨some d, op, T, pos, af, some (j, b)⟩ :: rest) w := by
  intro a ha
  refine wpList_step fun K hK => ?_
  rw [wanted_of ha rfl hj ht, hbc]
  exact hK _ _ (k _ (ha.put hd undef))
theorem sno0 {j t : Nat} {b c : Bool} (hj : ((ops[j]?).bind (·.dst)) = some t) (ht : fget F t = some (.bool c)) (hbc : (c == b) = false) (k : wpL P ops Q n D F rest w) :
    wpL P ops Q n D F (⟨none, op, T, pos, af, some (j, b)⟩ :: rest) w := by
  intro a ha
  refine wpList_step fun K hK => ?_
  rw [wanted_of ha rfl hj ht, hbc]
  exact hK _ _ (k _ (ha.put_none undef))

theorem unwanted_of {a : Act} (ha : Sat a n D F) {o : Oper} {j t : Nat} {b : Bool} (hg : o.guard = some (j, b)) (hj : ((ops[j]?).bind (·.dst)) = some t) (ht : fget F t = some undef) :
    Region.wanted o (yielded ops a.tmps) = false := by
  have hget := ha.get t _ ht
  simp only [Region.wanted, hg, yielded, hj, Option.bind_some]
  rw [Array.getD_eq_getD_getElem?] at hget
  cases hh : a.tmps[t]? with
  | none => cases b <;> rfl
  | some u =>
    rw [hh] at hget
    simp only [Option.getD_some] at hget
    subst hget
    cases b <;> rfl
/-- the guard itself was passed over -/
theorem snou {d j t : Nat} {b : Bool} (hj : ((ops[j]?).bind (·.dst)) = some t) (ht : fget F t = some undef) (hd : Nat.blt d n = true) (k : wpL P ops Q n D ((d, undef) :: F) rest w) :
    wpL P ops Q n D F (⟨some d, op, T, pos, af, some (j, b)⟩ :: rest) w := by
  intro a ha
  refine wpList_step fun K hK => ?_
  rw [unwanted_of ha rfl hj ht]
  exact hK _ _ (k _ (ha.put hd undef))
theorem ssnou {K : Act → Prop} {d j t : Nat} {b : Bool} (hj : ((ops[j]?).bind (·.dst)) = some t) (ht : fget F t = some undef) (hd : Nat.blt d n = true) (k : wpS P ops w K n D ((d, undef) :: F) rest) :
    wpS P ops w K n D F (⟨some d, op, T, pos, af, some (j, b)⟩ :: rest) := by
  intro a ha
  refine wpStill_step fun K hK => ?_
  rw [unwanted_of ha rfl hj ht]
  exact hK _ (k _ (ha.put hd undef))

/-- the like where the world stays -/
theorem ss {K : Act → Prop} {d : Nat} (h : Zv P w F op T v w) (hd : Nat.blt d n = true) (k : wpS P ops w K n D ((d, v) :: F) rest) : wpS P ops w K n D F (⟨some d, op, T, pos, af, none⟩ :: rest) := by
  intro a ha
  refine wpStill_step fun K hK => ?_
  have hk := hK _ (k _ (ha.put hd v))
  rw [if_pos (by simp [Region.wanted])]
  unfold Oper.still
  rcases h (some d) pos af none a.eval ha.agree with h | ⟨h, hu⟩
  · rw [h]; exact ⟨rfl, hk⟩
  · rw [h]; rw [hu] at hk; exact ⟨rfl, hk⟩
theorem ss0 {K : Act → Prop} (h : Zv P w F op T v w) (k : wpS P ops w K n D F rest) : wpS P ops w K n D F (⟨none, op, T, pos, af, none⟩ :: rest) := by
  intro a ha
  refine wpStill_step fun K hK => ?_
  have hk := hK _ (k _ (ha.put_none v))
  rw [if_pos (by simp [Region.wanted])]
  unfold Oper.still
  rcases h none pos af none a.eval ha.agree with h | ⟨h, hu⟩
  · rw [h]; exact ⟨rfl, hk⟩
  · rw [h]; rw [hu] at hk; exact ⟨rfl, hk⟩
theorem ssg {K : Act → Prop} {d j t : Nat} {b : Bool} (hj : ((ops[j]?).bind (·.dst)) = some t) (ht : fget F t = some (.bool b)) (h : Zv P w F op T v w) (hd : Nat.blt d n = true) (k : wpS P ops w K n D ((d, v) :: F) rest) :
    wpS P ops w K n D F (⟨some d, op, T, pos, af, some (j, b)⟩ :: rest) := by
  intro a ha
  refine wpStill_step fun K hK => ?_
  rw [wanted_of ha rfl hj ht]
  have hk := hK _ (k _ (ha.put hd v))
  simp only [BEq.rfl, if_true]
  unfold Oper.still
  rcases h (some d) pos af (some (j, b)) a.eval ha.agree with h | ⟨h, hu⟩
  · rw [h]; exact ⟨rfl, hk⟩
  · rw [h]; rw [hu] at hk; exact ⟨rfl, hk⟩
theorem ssno {K : Act → Prop} {d j t : Nat} {b c : Bool} (hj : ((ops[j]?).bind (·.dst)) = some t) (ht : fget F t = some (.bool c)) (hbc : (c == b) = false) (hd : Nat.blt d n = true) (k : wpS P ops w K n D ((d, undef) :: F) rest) :
    wpS P ops w K n D F (⟨some d, op, T, pos, af, some (j, b)⟩ :: rest) := by
  intro a ha
  refine wpStill_step fun K hK => ?_
  rw [wanted_of ha rfl hj ht, hbc]
  exact hK _ (k _ (ha.put hd undef))

/-! ### Calls -/
/-- a function of the program that has a body -/
def IsFn (P : Program) (f : FuncId) : Prop := ∃ fn, P.funcs[f]? = some fn ∧ (fn.name == "runtime.NumGoroutine") = false ∧ fn.body.isNone = false

theorem run_callv {f : FuncId} (hfn : IsFn P f) (args : Array Value) (w : World) : (callFunc f args).run P w = .ok (.enter f args) w := by
  obtain ⟨fn, h1, h2, h3⟩ := hfn
  unfold callFunc
  simp only [Sem.run_bind, run_program, Result.andThen_ok, h1, h2, h3, Bool.false_eq_true, if_false, Sem.run_pure]

theorem exec_call {f : FuncId} {x : Operand} {args : Array Operand} {tys : Array TypeId} {vals cap first : List Value} {ρ : Operand → Value} (hρ : Agree ρ F) (hx : ev F x = some (.func (.func f) first.toArray cap.toArray)) (hargs : evs F args.toList = some vals) (hfn : IsFn P f) (dst : Option Tmp) (gd : Option (Nat × Bool)) :
    (execOp ρ ⟨dst, .call ⟨.value x, args, tys⟩, T, pos, af, gd⟩).run P w = .ok (.enter f (first ++ vals ++ cap).toArray) w := by
  have h1 := hρ x _ hx
  have h2 : args.map ρ = vals.toArray := by
    have := hρ.evs args.toList vals hargs
    apply Array.ext'
    simpa using this
  simp [execOp, resolve, h1, h2, Deferred.ofValue, invoke, run_callv hfn]

theorem sc {d : Nat} {f : FuncId} {x : Operand} {args : Array Operand} {tys : Array TypeId} {vals : List Value} {R : Value → World → Prop} (hx : ev F x = some (.func (.func f) #[] #[])) (hargs : evs F args.toList = some vals) (hfn : IsFn P f)
    (hc : Cal P f vals w R) (hd : Nat.blt d n = true) (k : ∀ v w', R v w' → wpL P ops Q n D ((d, v) :: F) rest w') :
    wpL P ops Q n D F (⟨some d, .call ⟨.value x, args, tys⟩, T, pos, af, none⟩ :: rest) w := by
  intro a ha
  refine wpList_plain rfl fun K hK => ?_
  have he := exec_call (P := P) (w := w) (T := T) (pos := pos) (af := af) (tys := tys) (first := []) (cap := []) ha.agree hx hargs hfn (some d) none
  simp only [List.nil_append, List.append_nil] at he
  unfold Oper.wp
  rw [he]
  refine Calls.mono hc ?_
  rintro e w' ⟨v, rfl, hv⟩
  exact hK _ _ (k v w' hv _ (ha.put hd v))
theorem sc0 {f : FuncId} {x : Operand} {args : Array Operand} {tys : Array TypeId} {vals : List Value} {R : Value → World → Prop} (hx : ev F x = some (.func (.func f) #[] #[])) (hargs : evs F args.toList = some vals) (hfn : IsFn P f)
    (hc : Cal P f vals w R) (k : ∀ v w', R v w' → wpL P ops Q n D F rest w') :
    wpL P ops Q n D F (⟨none, .call ⟨.value x, args, tys⟩, T, pos, af, none⟩ :: rest) w := by
  intro a ha
  refine wpList_plain rfl fun K hK => ?_
  have he := exec_call (P := P) (w := w) (T := T) (pos := pos) (af := af) (tys := tys) (first := []) (cap := []) ha.agree hx hargs hfn none none
  simp only [List.nil_append, List.append_nil] at he
  unfold Oper.wp
  rw [he]
  refine Calls.mono hc ?_
  rintro e w' ⟨v, rfl, hv⟩
  exact hK _ _ (k v w' hv _ (ha.put_none v))
/-- a guarded call that is made -/
theorem scg {d j t : Nat} {b : Bool} {f : FuncId} {x : Operand} {args : Array Operand} {tys : Array TypeId} {vals : List Value} {R : Value → World → Prop} (hj : ((ops[j]?).bind (·.dst)) = some t) (ht : fget F t = some (.bool b)) (hx : ev F x = some (.func (.func f) #[] #[])) (hargs : evs F args.toList = some vals) (hfn : IsFn P f)
    (hc : Cal P f vals w R) (hd : Nat.blt d n = true) (k : ∀ v w', R v w' → wpL P ops Q n D ((d, v) :: F) rest w') :
    wpL P ops Q n D F (⟨some d, .call ⟨.value x, args, tys⟩, T, pos, af, some (j, b)⟩ :: rest) w := by
  intro a ha
  refine wpList_step fun K hK => ?_
  rw [wanted_of ha rfl hj ht]
  have he := exec_call (P := P) (w := w) (T := T) (pos := pos) (af := af) (tys := tys) (first := []) (cap := []) ha.agree hx hargs hfn (some d) (some (j, b))
  simp only [List.nil_append, List.append_nil] at he
  simp only [BEq.rfl, if_true]
  unfold Oper.wp
  rw [he]
  refine Calls.mono hc ?_
  rintro e w' ⟨v, rfl, hv⟩
  exact hK _ _ (k v w' hv _ (ha.put hd v))
/-- a call that leaves the world alone, in a region that draws -/
theorem ssc {K : Act → Prop} {d : Nat} {f : FuncId} {x : Operand} {args : Array Operand} {tys : Array TypeId} {vals : List Value} {u : Value} (hx : ev F x = some (.func (.func f) #[] #[])) (hargs : evs F args.toList = some vals) (hfn : IsFn P f)
    (hc : Cal P f vals w (fun v w' => v = u ∧ w = w')) (hd : Nat.blt d n = true) (k : wpS P ops w K n D ((d, u) :: F) rest) :
    wpS P ops w K n D F (⟨some d, .call ⟨.value x, args, tys⟩, T, pos, af, none⟩ :: rest) := by
  intro a ha
  refine wpStill_step fun K hK => ?_
  rw [if_pos (by simp [Region.wanted])]
  have he := exec_call (P := P) (w := w) (T := T) (pos := pos) (af := af) (tys := tys) (first := []) (cap := []) ha.agree hx hargs hfn (some d) none
  simp only [List.nil_append, List.append_nil] at he
  unfold Oper.still
  rw [he]
  refine ⟨rfl, u, Calls.mono hc ?_, hK _ (k _ (ha.put hd u))⟩
  rintro e w' ⟨v, rfl, rfl, rfl⟩
  exact ⟨rfl, rfl⟩

theorem l_nil (h : qf Q .normal n D F w) : wpL P ops Q n D F [] w := fun a ha => wpList_nil (h a ha)
theorem s_nil {K : Act → Prop} (h : ∀ a, Sat a n D F → K a) : wpS P ops w K n D F [] := fun a ha => wpStill_nil (h a ha)

/-! ### Code -/
theorem c_region {id : Nat} {l : List Oper} (h : wpL P l.toArray Q n D F l w) : cwp P (.region id l.toArray false) Q n D F w := fun a ha => wp_region_lit (h a ha)
/-- a region that draws its order and leaves the world alone -/
theorem c_still {id : Nat} {l : List Oper} (hm : P.follows .mixedOrders = true) (hB : Region.lexB .any l.toArray = true) (h : wpS P l.toArray w.drew (fun a' => Q .normal a' w.drew) n D F l) : cwp P (.region id l.toArray true) Q n D F w :=
  fun a ha => wp_region_still_lit hm hB (h a ha)
/-- a region that draws its order: m operations that leave the world alone, then some in one order -/
theorem c_tail {id : Nat} {l : List Oper} (m : Nat) (hm : P.follows .mixedOrders = true) (hB : Region.lexTailB .any l.toArray m = true) (h : wpS P l.toArray w.drew (fun a' => wpList P l.toArray Q (l.drop m) a' w.drew) n D F (l.take m)) : cwp P (.region id l.toArray true) Q n D F w :=
  fun a ha => wp_region_still_tail m hm hB (h a ha)
theorem c_seq {x y : Code} (h : cwp P x (Exit.then (y.wp P Q) Q) n D F w) : cwp P (.seq x y) Q n D F w := fun a ha => wp_seq (h a ha)
theorem c_skip (h : qf Q .normal n D F w) : cwp P .skip Q n D F w := fun a ha => wp_skip (h a ha)
theorem c_label {l : Nat} (h : qf Q .normal n D F w) : cwp P (.label l) Q n D F w := fun a ha => wp_label (h a ha)
theorem c_ret (h : qf Q .ret n D F w) : cwp P .ret Q n D F w := fun a ha => wp_ret (h a ha)
theorem c_exit {id : Nat} (h : qf Q (.exit id) n D F w) : cwp P (.exit id) Q n D F w := fun a ha => wp_exit (h a ha)
theorem c_block {id : Nat} {c : Code} (h : cwp P c (Exit.inBlock id Q) n D F w) : cwp P (.block id c) Q n D F w := fun a ha => wp_block (h a ha)
theorem c_if {p : Prop} [Decidable p] {c : Operand} {x y : Code} (hc : ev F c = some (.bool (decide p))) (ht : p → cwp P x Q n D F w) (hf : ¬ p → cwp P y Q n D F w) : cwp P (.cond c x y) Q n D F w := by
  intro a ha
  have hc' := ha.agree _ _ hc
  by_cases h : p
  · exact wp_cond_true (by rw [hc']; simp [h]) (ht h a ha)
  · exact wp_cond_false (by rw [hc']; simp [h]) (hf h a ha)
theorem c_ifb {b : Bool} {c : Operand} {x y : Code} (hc : ev F c = some (.bool b)) (ht : b = true → cwp P x Q n D F w) (hf : b = false → cwp P y Q n D F w) : cwp P (.cond c x y) Q n D F w := by
  intro a ha
  have hc' := ha.agree _ _ hc
  cases b with
  | true => exact wp_cond_true hc' (ht rfl a ha)
  | false => exact wp_cond_false hc' (hf rfl a ha)
theorem c_true {c : Operand} {x y : Code} {b : Bool} (hc : ev F c = some (.bool b)) (hb : b = true) (ht : cwp P x Q n D F w) : cwp P (.cond c x y) Q n D F w := by
  subst hb; exact fun a ha => wp_cond_true (ha.agree _ _ hc) (ht a ha)
theorem c_false {c : Operand} {x y : Code} {b : Bool} (hc : ev F c = some (.bool b)) (hb : b = false) (hf : cwp P y Q n D F w) : cwp P (.cond c x y) Q n D F w := by
  subst hb; exact fun a ha => wp_cond_false (ha.agree _ _ hc) (hf a ha)

/-! ### Where an ending leads -/
theorem q_then {y : Code} {Q' : Exit → Act → World → Prop} (h : cwp P y Q n D F w) : qf (Exit.then (y.wp P Q) Q') .normal n D F w := h
theorem q_then_ret {k : Act → World → Prop} (h : qf Q .ret n D F w) : qf (Exit.then k Q) .ret n D F w := h
theorem q_then_exit {k : Act → World → Prop} {id : Nat} (h : qf Q (.exit id) n D F w) : qf (Exit.then k Q) (.exit id) n D F w := h
theorem q_block {id : Nat} (h : qf Q .normal n D F w) : qf (Exit.inBlock id Q) .normal n D F w := h
theorem q_block_ret {id : Nat} (h : qf Q .ret n D F w) : qf (Exit.inBlock id Q) .ret n D F w := h
theorem q_block_hit {id : Nat} (h : qf Q .normal n D F w) : qf (Exit.inBlock id Q) (.exit id) n D F w := fun a ha => by simpa [Exit.inBlock] using h a ha
theorem q_block_miss {id id' : Nat} (hne : Nat.beq id' id = false) (h : qf Q (.exit id') n D F w) : qf (Exit.inBlock id Q) (.exit id') n D F w := fun a ha => by
  have : id' ≠ id := fun e => by subst e; simp at hne
  simpa [Exit.inBlock, this] using h a ha

theorem q_end1 {fn : Func} {R : Ending → World → Prop} {e : Exit} {t : Tmp} {v : Value} (he : e = .ret ∨ e = .normal) (hr : fn.results = #[.tmp t]) (hv : fget F t = some v) (hR : R (.returned v) w) : qf (bodyPost P fn R) e n [] F w := by
  intro a ha
  have hx : bodyPost P fn R .ret a w := ⟨ha.defers, v, by rw [results_tmp hr, ha.get t v hv], hR⟩
  rcases he with rfl | rfl <;> exact hx
theorem q_end0 {fn : Func} {R : Ending → World → Prop} {e : Exit} (he : e = .ret ∨ e = .normal) (hr : fn.results = #[]) (hR : R (.returned (.tuple #[])) w) : qf (bodyPost P fn R) e n [] F w := by
  intro a ha
  have hx : bodyPost P fn R .ret a w := ⟨ha.defers, _, by rw [results_none hr], hR⟩
  rcases he with rfl | rfl <;> exact hx
theorem q_end2 {fn : Func} {R : Ending → World → Prop} {e : Exit} {t u : Tmp} {v x : Value} (he : e = .ret ∨ e = .normal) (hr : fn.results = #[.tmp t, .tmp u]) (hv : fget F t = some v) (hx : fget F u = some x) (hR : R (.returned (.tuple #[v, x])) w) : qf (bodyPost P fn R) e n [] F w := by
  intro a ha
  have hx : bodyPost P fn R .ret a w := ⟨ha.defers, _, by rw [results_tmp2 hr, ha.get t v hv, ha.get u x hx], hR⟩
  rcases he with rfl | rfl <;> exact hx
theorem q_end3 {fn : Func} {R : Ending → World → Prop} {e : Exit} {t u s : Tmp} {v x y : Value} (he : e = .ret ∨ e = .normal) (hr : fn.results = #[.tmp t, .tmp u, .tmp s]) (hv : fget F t = some v) (hx : fget F u = some x) (hy : fget F s = some y) (hR : R (.returned (.tuple #[v, x, y])) w) : qf (bodyPost P fn R) e n [] F w := by
  intro a ha
  have hz : bodyPost P fn R .ret a w := ⟨ha.defers, .tuple #[v, x, y], by
    have e1 := ha.get t v hv
    have e2 := ha.get u x hx
    have e3 := ha.get s y hy
    rw [Array.getD_eq_getD_getElem?] at e1 e2 e3
    simp [results, hr, e1, e2, e3], hR⟩
  rcases he with rfl | rfl <;> exact hz

theorem f_weak {e : Exit} {G : Fr} (hs : FS G F) (h : qf Q e n D G w) : qf Q e n D F w := fun a ha => h a (ha.sub hs)
theorem cw_weak {c : Code} {G : Fr} (hs : FS G F) (h : cwp P c Q n D G w) : cwp P c Q n D F w := fun a ha => h a (ha.sub hs)

/-! ### Loops and cuts: a state x of any type says the frame and the world -/
def atX {ι : Type} (G : ι → Fr) (J : ι → World → Prop) (n : Nat) (D : List Deferred) : Act → World → Prop := fun a w => ∃ x, Sat a n D (G x) ∧ J x w
def atL {ι : Type} (G : ι → Fr) (J : ι → World → Prop) (μ : ι → Nat) (m : Nat) (n : Nat) (D : List Deferred) : Act → World → Prop := fun a w => ∃ x, Sat a n D (G x) ∧ J x w ∧ μ x < m

theorem c_loop {ι : Type} {c : Code} (G : ι → Fr) (J : ι → World → Prop) (μ : ι → Nat) (x0 : ι) (h0 : FS (G x0) F) (hJ : J x0 w)
    (round : ∀ x w', J x w' → cwp P c (Exit.then (atL G J μ (μ x) n D) Q) n D (G x) w') : cwp P (.loop c) Q n D F w := by
  intro a ha b k cs
  have key : ∀ m x a w, μ x = m → Sat a n D (G x) → J x w →
      ∃ e a' w', Q e a' w' ∧ Arrives P (lone (b.at a (.code c :: .inLoop c :: k)) cs w) b k cs e a' w' := by
    intro m
    induction m using Nat.strongRecOn with
    | _ m ih =>
      intro x a w hm hs hj
      obtain ⟨e, a₁, w₁, hq, harr⟩ := round x w hj a hs b (.inLoop c :: k) cs
      cases e with
      | normal =>
        obtain ⟨y, hs₁, hj₁, hlt⟩ := hq
        obtain ⟨e₂, a₂, w₂, hq₂, harr₂⟩ := ih (μ y) (hm ▸ hlt) y a₁ w₁ rfl hs₁ hj₁
        exact ⟨e₂, a₂, w₂, hq₂, .of_steps (Steps.trans harr (.one step_inLoop)) harr₂⟩
      | exit id => exact ⟨_, a₁, w₁, hq, .pass (x := .inLoop c) rfl (fun _ _ => .inl (by simp)) harr⟩
      | goto l => exact ⟨_, a₁, w₁, hq, .pass (x := .inLoop c) rfl (fun _ _ => .inl (by simp)) harr⟩
      | ret => exact ⟨_, a₁, w₁, hq, .pass (x := .inLoop c) rfl (fun _ _ => .inl (by simp)) harr⟩
      | panic ch => exact ⟨_, a₁, w₁, hq, .pass (x := .inLoop c) rfl (fun _ _ => .inl (by simp)) harr⟩
      | outgrown => exact ⟨_, a₁, w₁, hq, .pass (x := .inLoop c) rfl (fun _ _ => .inl (by simp)) harr⟩
  obtain ⟨e, a', w', hq, harr⟩ := key _ x0 a w rfl (ha.sub h0) hJ
  exact ⟨e, a', w', hq, .of_steps (.one step_loop) harr⟩

theorem q_round {ι : Type} {G : ι → Fr} {J : ι → World → Prop} {μ : ι → Nat} {m : Nat} {Q' : Exit → Act → World → Prop} (x : ι) (hs : FS (G x) F) (hJ : J x w) (hlt : μ x < m) : qf (Exit.then (atL G J μ m n D) Q') .normal n D F w :=
  fun a ha => ⟨x, ha.sub hs, hJ, hlt⟩

theorem c_cut {ι : Type} {x y : Code} (G : ι → Fr) (J : ι → World → Prop) (h1 : cwp P x (Exit.then (atX G J n D) Q) n D F w) (h2 : ∀ i w', J i w' → cwp P y Q n D (G i) w') : cwp P (.seq x y) Q n D F w := by
  intro a ha
  refine wp_seq (wp_mono (h1 a ha) ?_)
  intro e a' w' hq
  cases e with
  | normal => obtain ⟨i, hs, hj⟩ := hq; exact h2 i w' hj a' hs
  | _ => exact hq

theorem q_meet {ι : Type} {G : ι → Fr} {J : ι → World → Prop} {Q' : Exit → Act → World → Prop} (x : ι) (hs : FS (G x) F) (hJ : J x w) : qf (Exit.then (atX G J n D) Q') .normal n D F w :=
  fun a ha => ⟨x, ha.sub hs, hJ⟩

end steps

def frame0 : Nat → List Value → Fr
  | _, [] => []
  | i, v :: r => (i, v) :: frame0 (i + 1) r

theorem frame0_get (l : List Value) : ∀ (i x : Nat) (v : Value), fget (frame0 i l) x = some v → i ≤ x ∧ l[x - i]? = some v := by
  induction l with
  | nil => intro i x v h; simp [frame0, fget] at h
  | cons u r ih =>
    intro i x v h
    simp only [frame0, fget] at h
    cases hb : Nat.beq i x with
    | true =>
      rw [hb] at h
      have := Nat.eq_of_beq_eq_true hb
      subst this
      simpa using h
    | false =>
      rw [hb] at h
      have hne : i ≠ x := fun e => by subst e; simp at hb
      obtain ⟨h1, h2⟩ := ih (i + 1) x v h
      refine ⟨by omega, ?_⟩
      rw [show x - i = (x - (i + 1)) + 1 by omega]
      simpa using h2

/-- into a function: its arguments are the first slots -/
theorem go_in' {P : Program} {f : FuncId} {fn : Func} {c : Code} {n : Nat} {args : List Value} {w : World} {R : Value → World → Prop} (hf : P.funcs[f]? = some fn) (hb : fn.body = some c) (hn : fn.ntmps = n) (hle : args.length ≤ n)
    (h : cwp P c (bodyPost P fn (fun e w' => ∃ v, e = .returned v ∧ R v w')) n [] (frame0 0 args) w) : Cal P f args w R := by
  refine calls_of_wp hf hb (h _ ⟨rfl, by simp [hn]; omega, ?_⟩)
  intro x v hx
  obtain ⟨_, h2⟩ := frame0_get args 0 x v hx
  have hlt : x < args.length := by
    rcases Nat.lt_or_ge x args.length with h | h
    · exact h
    · simp [List.getElem?_eq_none h] at h2
  have h3 : args[x]? = some v := by simpa using h2
  have h4 : args[x] = v := by rw [List.getElem?_eq_getElem hlt] at h3; exact Option.some.inj h3
  simp [Array.getD_eq_getD_getElem?, Array.getElem?_append, hlt, h4]

end Go.Proofs.YtbahhdeblppooaaDoor

/- A range over a function, with one loop variable and a body that is one region: the loop's statement, the call of yield, the function's end; no statement of the program is proved here. -/
import Derived.Test.YtbahhdeblppooaaDoorK3
import Derived.RangeFuncIn
import Derived.RangeFuncRecord
import Derived.RangeFuncLeaves
import Derived.TacticsIn
set_option linter.unusedVariables false
set_option linter.unusedSimpArgs false
namespace Go.Proofs.YtbahhdeblppooaaDoor
open Go Go.RowKit
section
variable {P : Program} {ops : Array Oper} {Q : Exit → Act → World → Prop} {n : Nat} {D : List Deferred} {F : Fr} {rest : List Oper} {w : World} {T : TypeId} {pos : String} {af : Array Edge}

/-! ### What holds without a fence holds within a round -/
theorem lift_op {lp : Nat} {o : Oper} {a : Act} {next next' : Act → World → Prop} (hd : ∀ c, o.op ≠ .defer c) (hn : ∀ a w, next a w → next' a w) (h : o.wp P a w next Q) : o.wpIn (Fence.wide.inRound lp) 0 P a w next' Q := by
  refine ⟨fun f _ => trivial, ?_⟩
  rw [Oper.semAt_eq _ _ _ hd]
  unfold Oper.wp at h
  cases hr : (execOp a.eval o).run P w with
  | halt e w' =>
    rw [hr] at h
    cases e <;> first | exact h | exact h.elim
  | ok nx w' =>
    rw [hr] at h
    cases nx with
    | value v => exact hn _ _ h
    | skip => exact hn _ _ h
    | defer d => exact hn _ _ h
    | enter f args =>
      refine ⟨fun hh => by simp [Fence.wide] at hh, ?_⟩
      have h2 : Calls P f args w' fun e w'' => match e with
        | .returned v => next (a.put o.dst v) w''
        | .panicked chain => Q (.panic chain) a w''
        | .outgrown => LetsOut Q := Calls.mono h fun e w'' he => by cases e <;> exact he
      have h3 : CallsIn Fence.wide 0 P f args w' _ := callsIn_wide.2 h2
      exact CallsIn.mono (F := Fence.wide) h3 fun e w'' he => by
        cases e with
        | returned v => exact hn _ _ he
        | panicked ch => exact he
        | outgrown => exact he
    | row r args =>
      refine ⟨fun hh => by simp [Fence.wide] at hh, fun c cs _ => ?_⟩
      obtain ⟨v, w'', r2, s⟩ := h c cs
      exact ⟨v, w'', hn _ _ r2, stepsIn_wide.2 s⟩
    | _ => exact h.elim

theorem lift_list {lp : Nat} (hQ : ¬ LetsOut Q) : ∀ (l : List Oper) (a : Act) (w : World), (∀ o ∈ l, ∀ c, o.op ≠ .defer c) → wpList P ops Q l a w → wpListIn (Fence.wide.inRound lp) 0 P ops Q l a w := by
  intro l
  induction l with
  | nil => exact fun a w _ h => h
  | cons o r ih =>
    intro a w hd h
    have hr : ∀ a w, wpList P ops Q r a w → wpListIn (Fence.wide.inRound lp) 0 P ops Q r a w := fun a w h => ih a w (fun o ho => hd o (List.mem_cons_of_mem _ ho)) h
    unfold wpList at h
    unfold wpListIn
    split at h
    · rename_i hw
      rw [if_pos hw]
      exact lift_op (hd o (List.mem_cons_self ..)) hr (h.resolve_right fun hh => hQ hh.2)
    · rename_i hw
      rw [if_neg hw]
      exact ⟨fun _ _ => trivial, hr _ _ h⟩

/-! ### A region that calls yield -/
def wpY (P : Program) (ops : Array Oper) (Q : Exit → Act → World → Prop) (n : Nat) (D : List Deferred) (F : Fr) (l : List Oper) (w : World) : Prop :=
  ∀ a, Sat a n D F → wpListIn Fence.wide 0 P ops Q l a w
/-- one round of a loop over a function, asked for by a call of yield -/
def Yield1 (P : Program) (l : Nat) (v : Value) (w : World) (R : Bool → World → Prop) : Prop :=
  ∃ f tmps assign body, (Instr.yield l #[v]).run P w = .ok (.round l f tmps assign body) w ∧ RoundIn Fence.wide 0 P l f tmps assign body w (fun e w' => ∃ b, e = .returned (.bool b) ∧ R b w')
theorem c_regionY {id : Nat} {l : List Oper} (h : wpY P l.toArray Q n D F l w) : cwp P (.region id l.toArray false) Q n D F w := fun a ha => (wpIn_wide (n := 0)).1 (wpIn_region_lit (h a ha))
theorem ly_nil (h : qf Q .normal n D F w) : wpY P ops Q n D F [] w := fun a ha => h a ha
theorem sty {d : Nat} {op : Op} {v : Value} {w' : World} (h : Zv P w F op T v w') (hd : Nat.blt d n = true) (k : wpY P ops Q n D ((d, v) :: F) rest w') : wpY P ops Q n D F (⟨some d, op, T, pos, af, none⟩ :: rest) w := by
  intro a ha
  refine wpListIn_plain rfl fun K hK => ⟨fun _ _ => trivial, ?_⟩
  have hk := hK _ _ (k _ (ha.put hd v))
  rw [show Fence.wide.round = none from rfl, Oper.semAt_none]
  rcases h (some d) pos af none a.eval ha.agree with h | ⟨h, hu⟩
  · rw [h]; exact hk
  · rw [h]; rw [hu] at hk; exact hk
theorem scy {d l : Nat} {x y : Operand} {tys : Array TypeId} {v : Value} {R : Bool → World → Prop} (hx : ev F x = some (.func (.yield l) #[] #[])) (hy : ev F y = some v) (hY : Yield1 P l v w R) (hd : Nat.blt d n = true) (k : ∀ b w', R b w' → wpY P ops Q n D ((d, .bool b) :: F) rest w') :
    wpY P ops Q n D F (⟨some d, .call ⟨.value x, #[y], tys⟩, T, pos, af, none⟩ :: rest) w := by
  intro a ha
  refine wpListIn_plain rfl fun K hK => ⟨fun _ _ => trivial, ?_⟩
  obtain ⟨f, tmps, as, body, hrun, hR⟩ := hY
  have h1 := ha.agree _ _ hx
  have h2 := ha.agree _ _ hy
  have he : (execOp a.eval ⟨some d, .call ⟨.value x, #[y], tys⟩, T, pos, af, none⟩).run P w = .ok (.round l f tmps as body) w := by
    simp [execOp, resolve, h1, h2, Deferred.ofValue, invoke, hrun]
  rw [show Fence.wide.round = none from rfl, Oper.semAt_none, he]
  refine ⟨fun hh => by simp [Fence.wide] at hh, hR.mono ?_⟩
  rintro e w' ⟨b, rfl, hb⟩
  exact hK _ _ (k b w' hb _ (ha.put hd _))

/-! ### The statement -/
def nd (o : Oper) : Bool := match o.op with
  | .defer _ => false
  | _ => true
theorem nd_all {l : List Oper} (h : l.all nd = true) : ∀ o ∈ l, ∀ c, o.op ≠ .defer c := by
  intro o ho c e
  have := List.all_eq_true.1 h o ho
  unfold nd at this
  rw [e] at this
  cases this
theorem Keep.putObj (w : World) (i : Nat) (o : Obj) : Keep w (w.putObj i o) [i] :=
  ⟨rfl, rfl, rfl, by simp, fun j _ hj => World.putObj_heap_other (fun e => hj (by simp [e]))⟩
theorem putObj_kept {w : World} {i j : Nat} {o : Obj} (h : j ≠ i) : (w.putObj i o).heap[j]? = w.heap[j]? := World.putObj_heap_other h

theorem c_rangeFunc {g : Operand} {p0 i1 i2 i3 N : Nat} {l1 l3 : List Oper} {gf : FuncId} {lb : List Value} {xs : List Nat}
    (hg : ev F g = some (.func (.func gf) #[] lb.toArray)) (hfn : IsFn P gf) (hp : Nat.blt p0 n = true) (hd1 : l1.all nd = true) (hd3 : l3.all nd = true)
    (G : Nat → Fr) (I : List Nat → World → Prop)
    (hI : ∀ pre W W' L, I pre W → Keep W W' L → (∀ i, i ∈ L → i = w.heap.size ∨ i = w.heap.size + 1) → I pre W') (h0 : I [] w)
    (h1 : ∀ x W (K : Act → World → Prop), (∀ a, Sat a n [] (G x) → K a W) → wpL P l1.toArray (Exit.then K (fun _ _ _ => False)) n [] ((p0, vU x) :: F) l1 W)
    (h3 : ∀ pre x W, I pre W → w.heap.size + 1 < W.heap.size → pre.length ≤ N → wpL P l3.toArray (fun e _ W' => e = .normal ∧ I (pre ++ [x]) W' ∧ W'.heap[w.heap.size]? = W.heap[w.heap.size]? ∧ W'.heap[w.heap.size + 1]? = W.heap[w.heap.size + 1]?) n [] (G x) l3 W)
    (hcall : ∀ (l : Nat) (J : List Nat → World → Prop) W, (∀ pre W, J pre W → I pre W) → J [] W → (∀ pre x W, J pre W → pre.length ≤ N → Yield1 P l (vU x) W (fun b W' => b = true ∧ J (pre ++ [x]) W')) → Cal P gf (.func (.yield l) #[] #[] :: lb) W (fun _ W' => J xs W'))
    (k : ∀ W', I xs W' → W'.heap[w.heap.size]? = some (.deferred (some [])) → qf Q .normal n ({ target := .collected w.heap.size, args := #[] } :: D) F W') :
    cwp P (.rangeFunc g #[p0] (.region i1 l1.toArray false) (.block i2 (.region i3 l3.toArray false))) Q n D F w := by
  intro a ha
  refine (wpIn_wide (n := 0)).1 (wpIn_rangeFunc ?_)
  intro fn hfnn
  rw [show Fence.wide.round = none from rfl]
  have hgv := ha.agree _ _ hg
  obtain ⟨assign, hassign⟩ : ∃ c : Code, .region i1 l1.toArray false = c := ⟨_, rfl⟩
  obtain ⟨body, hbody⟩ : ∃ c : Code, .block i2 (.region i3 l3.toArray false) = c := ⟨_, rfl⟩
  rw [hassign, hbody]
  obtain ⟨rec, hrec⟩ : ∃ rec : LoopState → Option Code → Loop, rec = fun st pe => { state := st, pending := pe, fn, tmps := a.tmps, params := #[p0], assign, body, defers := w.heap.size } := ⟨_, rfl⟩
  obtain ⟨W1, hW1⟩ : ∃ W1, (w.alloc (.deferred (some []))).alloc (.loop (rec .ready none)) = W1 := ⟨_, rfl⟩
  have hL1 : W1.heap[w.heap.size + 1]? = some (.loop (rec .ready none)) := by
    rw [← hW1]; have := World.alloc_heap_new (w.alloc (.deferred (some []))) (.loop (rec .ready none)); rwa [World.size_alloc] at this
  have hKa : Keep w W1 [] := by
    rw [← hW1]; exact (Keep.alloc w _ []).trans (Keep.alloc _ _ []) (by simp)
  have hK1 : W1.heap[w.heap.size]? = some (.deferred (some [])) := by
    rw [← hW1, (Keep.alloc (w.alloc (.deferred (some []))) (.loop (rec .ready none)) []).same _ (by simp) (by simp)]
    exact World.alloc_heap_new w _
  have hI1 : I [] W1 := hI _ _ _ [] h0 hKa (by simp)
  have hcv := run_callv hfn (P := P)
  refine ⟨w.heap.size + 1, [{ target := .collected w.heap.size, args := #[] }], W1, { target := .fn (.func gf) lb.toArray, args := #[.func (.yield (w.heap.size + 1)) #[] #[]] }, W1, gf,
    #[.func (.yield (w.heap.size + 1)) #[] #[]] ++ lb.toArray, W1, ?_, ?_, fun _ _ => trivial, ?_, fun hh => by simp [Fence.wide] at hh, ?_⟩
  · rw [← hW1, hrec]; exact run_enterLoop_outer _ _ _ _ _
  · simp only [resolve, hgv]
    simp [go_sem]
  · simp [invoke, go_sem, hcv]
  · have hc := hcall (w.heap.size + 1) (fun pre W => I pre W ∧ W.heap[w.heap.size + 1]? = some (.loop (rec .ready none)) ∧ W.heap[w.heap.size]? = some (.deferred (some []))) W1 (fun _ _ h => h.1) ⟨hI1, hL1, hK1⟩ ?round
    case round =>
      rintro pre x W ⟨hi, hl, hk⟩ hlen
      have hlt : w.heap.size + 1 < W.heap.size := (Array.getElem?_eq_some_iff.1 hl).1
      have hy := run_yield (P := P) (args := #[vU x]) hl (by rw [hrec]; rfl)
      have hsat : Sat { tmps := a.tmps.setIfInBounds p0 (vU x), defers := [] } n [] ((p0, vU x) :: F) := by
        have hs : Sat { tmps := a.tmps, defers := [] } n [] F := ⟨rfl, ha.size, ha.get⟩
        exact hs.put hp _
      rw [hrec] at hy
      refine ⟨fn, a.tmps.setIfInBounds p0 (vU x), assign, body, by simpa using hy, roundIn_of_wpIn trivial ?_⟩
      rw [← hassign]
      refine wpIn_region_lit (lift_list (fun hh => by obtain ⟨_, _, h⟩ := hh; exact h) l1 _ _ (nd_all hd1) (h1 x W _ ?_ _ hsat))
      intro a1 ha1
      refine ⟨_, run_beginRound hl (by rw [hrec]), ?_⟩
      have hl2 : (W.putObj (w.heap.size + 1) (.loop { rec .ready none with state := .busy })).heap[w.heap.size + 1]? = some (.loop { rec .ready none with state := .busy }) := World.putObj_heap_same hlt
      have hk2 : (W.putObj (w.heap.size + 1) (.loop { rec .ready none with state := .busy })).heap[w.heap.size]? = some (.deferred (some [])) := (World.putObj_heap_other (by omega)).trans hk
      have hi2 : I pre (W.putObj (w.heap.size + 1) (.loop { rec .ready none with state := .busy })) := hI _ _ _ _ hi (Keep.putObj _ _ _) (fun i h => by simp only [List.mem_singleton] at h; exact .inr h)
      rw [← hbody]
      refine wpIn_block (wpIn_mono (wpIn_region_lit (lift_list (fun hh => by obtain ⟨_, _, h, _⟩ := hh; cases h) l3 _ _ (nd_all hd3) (h3 pre x _ hi2 (by rw [World.putObj_size]; exact hlt) hlen a1 ha1))) ?_)
      rintro e a3 W3 ⟨rfl, hi3, hs0, hs1⟩
      have hl3 := hs1.trans hl2
      have hk3 := hs0.trans hk2
      refine ⟨_, _, run_endRound none hl3, true, rfl, rfl, hI _ _ _ _ hi3 (Keep.putObj _ _ _) (fun i h => by simp only [List.mem_singleton] at h; exact .inr h), ?_, (World.putObj_heap_other (by omega)).trans hk3⟩
      have := World.putObj_heap_same (w := W3) (r := w.heap.size + 1) (o := .loop { rec .ready none with state := .ready, pending := none }) (Array.getElem?_eq_some_iff.1 hl3).1
      rw [hrec] at this ⊢
      exact this
    · have hc2 : CallsIn Fence.wide 0 P gf (.func (.yield (w.heap.size + 1)) #[] #[] :: lb).toArray W1 _ := callsIn_wide.2 hc
      have e1 : (#[.func (.yield (w.heap.size + 1)) #[] #[]] ++ lb.toArray : Array Value) = (.func (.yield (w.heap.size + 1)) #[] #[] :: lb).toArray := by simp
      rw [e1]
      refine CallsIn.mono hc2 ?_
      rintro e W2 ⟨v, rfl, hi, hl, hk⟩
      refine ⟨none, _, by have := run_endLoop (P := P) hl (by rw [hrec]; simp); rw [hrec] at this; exact this, ?_⟩
      refine k _ (hI _ _ _ _ hi (Keep.putObj _ _ _) (fun i h => by simp only [List.mem_singleton] at h; exact .inr h)) ((World.putObj_heap_other (by omega)).trans hk) _ ⟨?_, ha.size, ha.get⟩
      show [_] ++ a.defers = _
      rw [ha.defers]; rfl

/-! ### The function that holds such a loop -/
theorem go_inM {f : FuncId} {fn : Func} {c : Code} {args : List Value} {R : Value → World → Prop} (hf : P.funcs[f]? = some fn) (hb : fn.body = some c) (hn : fn.ntmps = n) (hle : args.length ≤ n)
    (h : cwp P c (bodyPostM Fence.wide 0 P fn (fun e w' => ∃ v, e = .returned v ∧ R v w')) n [] (frame0 0 args) w) : Cal P f args w R := by
  refine callsIn_wide.1 (callsIn_of_wp_marks (n := 0) hf hb trivial ((wpIn_wide (n := 0)).2 (h _ ⟨rfl, by simp [hn]; omega, ?_⟩)))
  intro x v hx
  obtain ⟨_, h2⟩ := frame0_get args 0 x v hx
  have hlt : x < args.length := by
    rcases Nat.lt_or_ge x args.length with h | h
    · exact h
    · simp [List.getElem?_eq_none h] at h2
  have h3 : args[x]? = some v := by simpa using h2
  have h4 : args[x] = v := by rw [List.getElem?_eq_getElem hlt] at h3; exact Option.some.inj h3
  simp [Array.getD_eq_getD_getElem?, Array.getElem?_append, hlt, h4]
theorem q_endM0 {fn : Func} {R : Ending → World → Prop} {e : Exit} {t : Tmp} {v : Value} (he : e = .ret ∨ e = .normal) (hr : fn.results = #[.tmp t]) (hv : fget F t = some v) (hR : R (.returned v) w) : qf (bodyPostM Fence.wide 0 P fn R) e n [] F w := by
  intro a ha
  have hx : bodyPostM Fence.wide 0 P fn R .ret a w := by
    show LeavesInM _ _ _ _ _ _ a.defers _ _
    rw [ha.defers]
    exact ⟨v, by rw [results_tmp hr, ha.get t v hv], hR⟩
  rcases he with rfl | rfl <;> exact hx
theorem q_endM1 {fn : Func} {R : Ending → World → Prop} {e : Exit} {t : Tmp} {v : Value} {B : Nat} (he : e = .ret ∨ e = .normal) (hr : fn.results = #[.tmp t]) (hv : fget F t = some v) (hk : w.heap[B]? = some (.deferred (some []))) (hR : R (.returned v) (w.putObj B (.deferred none))) :
    qf (bodyPostM Fence.wide 0 P fn R) e n [{ target := .collected B, args := #[] }] F w := by
  intro a ha
  have hx : bodyPostM Fence.wide 0 P fn R .ret a w := by
    show LeavesInM _ _ _ _ _ _ a.defers _ _
    rw [ha.defers]
    exact ⟨by simp, .inl ⟨B, _, rfl, run_takeDeferred hk, v, by rw [results_tmp hr, ha.get t v hv], hR⟩⟩
  rcases he with rfl | rfl <;> exact hx
end
end Go.Proofs.YtbahhdeblppooaaDoor

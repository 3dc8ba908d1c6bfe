/- A region that draws its order and has one operation in it that changes the world (a call that draws itself, say); no statement of the program is proved here. -/
import Derived.Test.YtbahhdeblppooaaDoorK5
import Derived.OrdersHeld
import Derived.StillTail
set_option linter.unusedVariables false
set_option linter.unusedSimpArgs false
namespace Go.Proofs.YtbahhdeblppooaaDoor
open Go

def wpStillH (P : Program) (ops : Array Oper) (S : World → Prop) (K : Act → Prop) : List Oper → Act → Prop
  | [], a => K a
  | o :: rest, a => ∃ v, YieldsIf P ops S o v a ∧ wpStillH P ops S K rest (a.put o.dst v)

def heldB (ops : Array Oper) (m : Nat) : Bool := Region.noSelect ops && decide (m < ops.size) && Region.lexHead .any ops (ops.size - m) m 0 (Array.replicate ops.size false)

def wpH (P : Program) (ops : Array Oper) (S : World → Prop) (K : Act → Prop) (n : Nat) (D : List Deferred) (F : Fr) (l : List Oper) : Prop :=
  ∀ a, Sat a n D F → wpStillH P ops S K l a

section
variable {P : Program} {ops : Array Oper} {Q : Exit → Act → World → Prop} {n : Nat} {D : List Deferred} {F : Fr} {rest : List Oper} {w w' : World} {op : Op} {T : TypeId} {v : Value} {pos : String} {af : Array Edge} {S : World → Prop} {K : Act → Prop}

/-- a value that stands for itself -/
def okV : Value → Bool
  | .tuple a => Nat.blt 0 a.size
  | _ => true
theorem okV_ne {v : Value} (h : okV v = true) : v ≠ undef := by
  intro e; rw [e] at h; simp [okV, undef] at h

theorem sh {d : Nat} (h : ∀ w, S w → Zv P w F op T v w) (hv : okV v = true) (hd : Nat.blt d n = true) (k : wpH P ops S K n D ((d, v) :: F) rest) : wpH P ops S K n D F (⟨some d, op, T, pos, af, none⟩ :: rest) := by
  intro a ha
  refine ⟨v, .inl ⟨by simp [Region.wanted], fun w hw => ?_⟩, k _ (ha.put hd v)⟩
  rcases h w hw (some d) pos af none a.eval ha.agree with h | ⟨_, hu⟩
  · exact h
  · exact absurd hu (okV_ne hv)
theorem h_nil (h : ∀ a, Sat a n D F → K a) : wpH P ops S K n D F [] := fun a ha => h a ha

def QQ (K : Act → World → Prop) : Exit → Act → World → Prop := fun e a w => e = .normal ∧ K a w

theorem upon_QQ {o : Oper} {a : Act} {K : Act → World → Prop} {K1 K2 : Act → World → Prop} {r : Result Next} (h : o.upon P a K (QQ K1) r) : o.upon P a K (QQ K2) r := by
  cases r with
  | ok nx w' =>
    cases nx with
    | enter f args =>
      simp only [Oper.upon] at h ⊢
      refine Calls.mono h ?_
      intro e w'' he
      cases e with
      | returned v => exact he
      | panicked c => exact absurd he.1 (by simp)
      | outgrown => obtain ⟨_, _, he, _⟩ := he; cases he
    | _ => exact h
  | halt x w' =>
    cases x with
    | panic v => simp only [Oper.upon] at h; exact absurd h.1 (by simp)
    | _ => exact h

theorem wpOp_of_list {o : Oper} {m : Nat} {a : Act} {K1 K2 : Act → World → Prop} (hm : ops[m]? = some o) (h : wpList P ops (QQ K1) [o] a w) : wpOp P ops (QQ K2) m K1 a w := by
  unfold wpOp
  simp only [hm]
  simp only [wpList] at h
  split at h
  · rename_i hw
    rw [if_pos hw]
    rcases h with h | ⟨_, ⟨_, _, h, _⟩⟩
    · left
      have hK : ∀ a w, (QQ K1) .normal a w → K1 a w := fun _ _ h => h.2
      have := upon_QQ (K2 := K2) h
      exact Oper.wp_mono hK this
    · cases h
  · rename_i hw
    rw [if_neg hw]
    exact h.2

theorem wpAnyH_head {Kq : Act → World → Prop} {Lq : Act → Prop} {g : Nat} (hsel : Region.noSelect ops = true) (hS : S w) :
    ∀ (l : List Oper) (k : Nat) (listed : Array Bool) (a : Act), (∀ j, j < l.length → l[j]? = ops[k + j]?) →
    Region.lexHead .any ops g l.length k listed = true → wpStillH P ops S Lq l a →
    (∀ listed' a', Region.seqB .any ops g (k + l.length) listed' = true → Lq a' → wpAnyH P .any ops (QQ Kq) S g listed' a' w) →
    wpAnyH P .any ops (QQ Kq) S (l.length + g) listed a w
  | [], k, listed, a, _, hB, h, hend => by
    rw [List.length_nil, Nat.zero_add]
    exact hend listed a (by simpa [Region.lexHead] using hB) h
  | o :: l, k, listed, a, hl, hB, h, hend => by
    have h0 : ops[k]? = some o := by simpa using (hl 0 (by simp)).symm
    simp only [List.length_cons, Region.lexHead, Bool.and_eq_true] at hB
    obtain ⟨⟨hr, hf⟩, hB'⟩ := hB
    obtain ⟨v, hy, hrest⟩ := h
    rw [List.length_cons, show l.length + 1 + g = (l.length + g) + 1 by omega]
    refine wpAnyH_take h0 hsel hf hr (fun c a w h => absurd h.1 (by simp)) hy hS ?_
    exact wpAnyH_head hsel hS l (k + 1) _ _ (fun j hj => by have := hl (j + 1) (by simp; omega); simpa [Nat.add_assoc, Nat.add_comm 1 j] using this) hB' hrest
      (fun listed' a' h1 h2 => hend listed' a' (by rw [List.length_cons, show k + (l.length + 1) = k + 1 + l.length by omega]; exact h1) h2)

theorem wpAnyH_still {Kq : Act → World → Prop} (hS : S w) :
    ∀ (l : List Oper) (k : Nat) (listed : Array Bool) (a : Act), (∀ j, j < l.length → l[j]? = ops[k + j]?) → Region.seqB .any ops l.length k listed = true →
    wpStill P ops w (fun a' => Kq a' w) l a → wpAnyH P .any ops (QQ Kq) S l.length listed a w
  | [], k, listed, a, _, hB, h => ⟨by simpa [Region.seqB] using hB, rfl, h⟩
  | o :: l, k, listed, a, hl, hB, h => by
    have h0 : ops[k]? = some o := by simpa using (hl 0 (by simp)).symm
    simp only [List.length_cons, Region.seqB, Bool.and_eq_true, decide_eq_true_eq] at hB
    refine ⟨fun h1 => (by rw [hB.1] at h1; cases h1), fun i hi => ?_⟩
    rw [hB.1] at hi
    have hik : i = k := by simpa using hi
    subst hik
    have hst : stOp P ops w i (wpStill P ops w (fun a' => Kq a' w) l) a := by unfold stOp; simp only [h0]; exact h
    exact wpOp_of_stOp (fun a' h' => ⟨hS, wpAnyH_still hS l (i + 1) _ a' (fun j hj => by have := hl (j + 1) (by simp; omega); simpa [Nat.add_assoc, Nat.add_comm 1 j] using this) hB.2 h'⟩) hst

/-- a region that draws its order: m operations that answer alike wherever S holds, one that changes the world, then some in one order that leave it alone -/
theorem c_held {id : Nat} {l : List Oper} (S : World → Prop) (m : Nat) (hm : P.follows .mixedOrders = true) (hB : heldB l.toArray m = true) (hS : S w.drew)
    (h : wpH P l.toArray S (fun a1 => wpList P l.toArray (QQ fun a2 w2 => S w2 ∧ wpStill P l.toArray w2 (fun a3 => Q .normal a3 w2) (l.drop (m + 1)) a2) ((l.drop m).take 1) a1 w.drew) n D F (l.take m)) :
    cwp P (.region id l.toArray true) Q n D F w := by
  intro a ha
  simp only [heldB, Bool.and_eq_true, decide_eq_true_eq] at hB
  obtain ⟨⟨hsel, hn⟩, hlex⟩ := hB
  have hn' : m < l.length := by simpa using hn
  have htl : (l.take m).length = m := by simp; omega
  refine Code.wp_mono (Q := QQ fun a w => Q .normal a w) (fun e a w h => h.1 ▸ h.2) ?_
  refine wp_region_held (S := S) hm ?_
  obtain ⟨o, ho⟩ : ∃ o, l[m]? = some o := ⟨l[m], by simp [hn']⟩
  have hgs : l.toArray.size - m = (l.drop (m + 1)).length + 1 := by simp; omega
  have hone : (l.drop m).take 1 = [o] := by
    have := List.getElem?_eq_some_iff.1 ho
    obtain ⟨h1, h2⟩ := this
    rw [List.drop_eq_getElem_cons h1, h2]; rfl
  have H := wpAnyH_head (g := l.toArray.size - m) (Kq := fun a w => Q .normal a w) hsel hS (l.take m) 0 (Array.replicate l.toArray.size false) a (fun j hj => by
    have hj' : j < m := by rw [htl] at hj; exact hj
    simp [hj']) (by rw [htl]; exact hlex) (h a ha) (fun listed' a' hs hL => ?_)
  · rw [htl, show m + (l.toArray.size - m) = l.toArray.size by omega] at H
    exact H
  · rw [htl, Nat.zero_add, hgs] at hs
    rw [hgs]
    simp only [Region.seqB, Bool.and_eq_true, decide_eq_true_eq] at hs
    refine ⟨fun h1 => (by rw [hs.1] at h1; cases h1), fun i hi => ?_⟩
    rw [hs.1] at hi
    have him : i = m := by simpa using hi
    subst him
    rw [hone] at hL
    refine wpOp_mono (fun a2 w2 h2 => ?_) (wpOp_of_list (K2 := fun a w => Q .normal a w) (by simpa using ho) hL)
    exact ⟨h2.1, wpAnyH_still h2.1 (l.drop (i + 1)) (i + 1) _ _ (fun j hj => by simp [List.getElem?_drop]) hs.2 h2.2⟩

theorem q_held {ops2 : Array Oper} {l2 : List Oper} {Qn : Act → World → Prop} (hS : S w) (h : wpS P ops2 w (fun a3 => Qn a3 w) n D F l2) : qf (QQ fun a2 w2 => S w2 ∧ wpStill P ops2 w2 (fun a3 => Qn a3 w2) l2 a2) .normal n D F w :=
  fun a ha => ⟨rfl, hS, h a ha⟩

/-! the like with more than one operation that changes the world, each the only one that may come up when it comes -/
def wpTail (P : Program) (ops : Array Oper) (S : World → Prop) (Q : Exit → Act → World → Prop) : List Oper → Act → World → Prop
  | [], a, w => Q .normal a w
  | o :: rest, a, w => wpList P ops (QQ fun a' w' => S w' ∧ wpTail P ops S Q rest a' w') [o] a w
theorem wpAnyH_tail : ∀ (l : List Oper) (k : Nat) (listed : Array Bool) (a : Act) (w : World), (∀ j, j < l.length → l[j]? = ops[k + j]?) → Region.seqB .any ops l.length k listed = true →
    wpTail P ops S Q l a w → wpAnyH P .any ops (QQ fun a w => Q .normal a w) S l.length listed a w
  | [], k, listed, a, w, _, hB, h => ⟨by simpa [Region.seqB] using hB, rfl, h⟩
  | o :: l, k, listed, a, w, hl, hB, h => by
    have h0 : ops[k]? = some o := by simpa using (hl 0 (by simp)).symm
    simp only [List.length_cons, Region.seqB, Bool.and_eq_true, decide_eq_true_eq] at hB
    refine ⟨fun h1 => (by rw [hB.1] at h1; cases h1), fun i hi => ?_⟩
    rw [hB.1] at hi
    have hik : i = k := by simpa using hi
    subst hik
    refine wpOp_mono (fun a2 w2 h2 => ?_) (wpOp_of_list (K2 := fun a w => Q .normal a w) h0 h)
    exact ⟨h2.1, wpAnyH_tail l (i + 1) _ a2 w2 (fun j hj => by have := hl (j + 1) (by simp; omega); simpa [Nat.add_assoc, Nat.add_comm 1 j] using this) hB.2 h2.2⟩
theorem c_heldN {id : Nat} {l : List Oper} (S : World → Prop) (m : Nat) (hm : P.follows .mixedOrders = true) (hB : heldB l.toArray m = true) (hS : S w.drew)
    (h : wpH P l.toArray S (fun a1 => wpTail P l.toArray S Q (l.drop m) a1 w.drew) n D F (l.take m)) :
    cwp P (.region id l.toArray true) Q n D F w := by
  intro a ha
  simp only [heldB, Bool.and_eq_true, decide_eq_true_eq] at hB
  obtain ⟨⟨hsel, hn⟩, hlex⟩ := hB
  have hn' : m < l.length := by simpa using hn
  have htl : (l.take m).length = m := by simp; omega
  refine Code.wp_mono (Q := QQ fun a w => Q .normal a w) (fun e a w h => h.1 ▸ h.2) ?_
  refine wp_region_held (S := S) hm ?_
  have hgs : l.toArray.size - m = (l.drop m).length := by simp
  have H := wpAnyH_head (g := l.toArray.size - m) (Kq := fun a w => Q .normal a w) hsel hS (l.take m) 0 (Array.replicate l.toArray.size false) a (fun j hj => by
    have hj' : j < m := by rw [htl] at hj; exact hj
    simp [hj']) (by rw [htl]; exact hlex) (h a ha) (fun listed' a' hs hL => ?_)
  · rw [htl, show m + (l.toArray.size - m) = l.toArray.size by omega] at H
    exact H
  · rw [htl, Nat.zero_add, hgs] at hs
    rw [hgs]
    exact wpAnyH_tail (l.drop m) m _ _ _ (fun j hj => by simp [List.getElem?_drop]) hs hL
theorem q_tail {ops2 : Array Oper} {l2 : List Oper} {Q2 : Exit → Act → World → Prop} (hS : S w) (h : ∀ a, Sat a n D F → wpTail P ops2 S Q2 l2 a w) : qf (QQ fun a2 w2 => S w2 ∧ wpTail P ops2 S Q2 l2 a2 w2) .normal n D F w :=
  fun a ha => ⟨rfl, hS, h a ha⟩
end
end Go.Proofs.YtbahhdeblppooaaDoor

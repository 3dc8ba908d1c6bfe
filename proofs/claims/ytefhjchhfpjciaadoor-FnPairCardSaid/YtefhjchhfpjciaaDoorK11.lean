/- A region that draws its order, by a list of moves: an operation that answers alike wherever S holds may be taken first; any other must be the only one that may come up; no statement of the program is proved here. -/
import Derived.Test.YtefhjchhfpjciaaDoorK8
set_option linter.unusedVariables false
set_option linter.unusedSimpArgs false
namespace Go.Proofs.YtefhjchhfpjciaaDoor
open Go

inductive Mvs where
  | nil : Mvs
  | take : Nat → Mvs → Mvs
  | one : Nat → Mvs → Mvs
  | two : Nat → Nat → Mvs → Mvs → Mvs
def Mvs.len : Mvs → Nat
  | .nil => 0
  | .take _ r => r.len + 1
  | .one _ r => r.len + 1
  | .two _ _ r _ => r.len + 1

def movesB (ops : Array Oper) : Mvs → Array Bool → Bool
  | .nil, listed => (Region.ready .any ops listed).isEmpty
  | .take i r, listed => (Region.ready .any ops listed).contains i && Region.free .any ops listed i && movesB ops r (listed.setIfInBounds i true)
  | .one i r, listed => decide (Region.ready .any ops listed = [i]) && movesB ops r (listed.setIfInBounds i true)
  | .two i j r s, listed => decide (Region.ready .any ops listed = [i, j]) && Nat.beq s.len r.len && movesB ops r (listed.setIfInBounds i true) && movesB ops s (listed.setIfInBounds j true)

def wpMoves (P : Program) (ops : Array Oper) (S : World → Prop) (Q : Exit → Act → World → Prop) : Mvs → Act → World → Prop
  | .nil, a, w => Q .normal a w
  | .take i r, a, w => ∃ o v, ops[i]? = some o ∧ YieldsIf P ops S o v a ∧ wpMoves P ops S Q r (a.put o.dst v) w
  | .one i r, a, w => ∃ o, ops[i]? = some o ∧ wpList P ops (QQ fun a' w' => S w' ∧ wpMoves P ops S Q r a' w') [o] a w
  | .two i j r s, a, w => (∃ o, ops[i]? = some o ∧ wpList P ops (QQ fun a' w' => S w' ∧ wpMoves P ops S Q r a' w') [o] a w) ∧ (∃ o, ops[j]? = some o ∧ wpList P ops (QQ fun a' w' => S w' ∧ wpMoves P ops S Q s a' w') [o] a w)

section
variable {P : Program} {ops : Array Oper} {Q : Exit → Act → World → Prop} {n : Nat} {D : List Deferred} {F : Fr} {w : World} {S : World → Prop}

theorem wpAnyH_moves (hsel : Region.noSelect ops = true) : ∀ (ms : Mvs) (listed : Array Bool) (a : Act) (w : World), movesB ops ms listed = true → S w →
    wpMoves P ops S Q ms a w → wpAnyH P .any ops (QQ fun a w => Q .normal a w) S ms.len listed a w
  | .nil, listed, a, w, hB, _, h => ⟨by simpa [movesB] using hB, rfl, h⟩
  | .take i r, listed, a, w, hB, hS, h => by
    simp only [movesB, Bool.and_eq_true] at hB
    obtain ⟨⟨hr, hf⟩, hB'⟩ := hB
    obtain ⟨o, v, h0, hy, hrest⟩ := h
    exact wpAnyH_take h0 hsel hf hr (fun c a w h => absurd h.1 (by simp)) hy hS (wpAnyH_moves hsel r _ _ _ hB' hS hrest)
  | .one i r, listed, a, w, hB, hS, h => by
    simp only [movesB, Bool.and_eq_true, decide_eq_true_eq] at hB
    obtain ⟨o, h0, hl⟩ := h
    refine ⟨fun h1 => (by rw [hB.1] at h1; cases h1), fun j hj => ?_⟩
    rw [hB.1] at hj
    have hji : j = i := by simpa using hj
    subst hji
    refine wpOp_mono (fun a2 w2 h2 => ?_) (wpOp_of_list (K2 := fun a w => Q .normal a w) h0 hl)
    exact ⟨h2.1, wpAnyH_moves hsel r _ a2 w2 hB.2 h2.1 h2.2⟩
  | .two i k r s, listed, a, w, hB, hS, h => by
    simp only [movesB, Bool.and_eq_true, decide_eq_true_eq] at hB
    obtain ⟨⟨⟨hrd, hln⟩, hB1⟩, hB2⟩ := hB
    have hln := Nat.eq_of_beq_eq_true hln
    obtain ⟨⟨o, h0, hl⟩, ⟨o2, h02, hl2⟩⟩ := h
    refine ⟨fun h1 => (by rw [hrd] at h1; cases h1), fun j hj => ?_⟩
    rw [hrd] at hj
    rcases (by simpa using hj : j = i ∨ j = k) with hji | hji
    · subst hji
      refine wpOp_mono (fun a2 w2 h2 => ?_) (wpOp_of_list (K2 := fun a w => Q .normal a w) h0 hl)
      exact ⟨h2.1, wpAnyH_moves hsel r _ a2 w2 hB1 h2.1 h2.2⟩
    · subst hji
      refine wpOp_mono (fun a2 w2 h2 => ?_) (wpOp_of_list (K2 := fun a w => Q .normal a w) h02 hl2)
      have := wpAnyH_moves hsel s (listed.setIfInBounds j true) a2 w2 hB2 h2.1 h2.2
      rw [hln] at this
      exact ⟨h2.1, this⟩

theorem c_moves {id : Nat} {l : List Oper} (S : World → Prop) (ms : Mvs) (hm : P.follows .mixedOrders = true) (hsel : Region.noSelect l.toArray = true) (hl : ms.len = l.length) (hB : movesB l.toArray ms (Array.replicate l.toArray.size false) = true) (hS : S w.drew)
    (h : ∀ a, Sat a n D F → wpMoves P l.toArray S Q ms a w.drew) : cwp P (.region id l.toArray true) Q n D F w := by
  intro a ha
  refine Code.wp_mono (Q := QQ fun a w => Q .normal a w) (fun e a w h => h.1 ▸ h.2) ?_
  refine wp_region_held (S := S) hm ?_
  have := wpAnyH_moves hsel ms (Array.replicate l.toArray.size false) a w.drew hB hS (h a ha)
  rwa [hl, show l.length = l.toArray.size by simp] at this

/-- what is left of the moves, in a frame -/
def wpM (P : Program) (ops : Array Oper) (S : World → Prop) (Q : Exit → Act → World → Prop) (n : Nat) (D : List Deferred) (F : Fr) (ms : Mvs) (w : World) : Prop := ∀ a, Sat a n D F → wpMoves P ops S Q ms a w

variable {ms ms2 : Mvs} {i d : Nat} {op : Op} {T : TypeId} {pos : String} {af : Array Edge} {v : Value}
theorem mt (h0 : ops[i]? = some ⟨some d, op, T, pos, af, none⟩) (h : ∀ w, S w → Zv P w F op T v w) (hv : okV v = true) (hd : Nat.blt d n = true) (k : wpM P ops S Q n D ((d, v) :: F) ms w) : wpM P ops S Q n D F (.take i ms) w := by
  intro a ha
  refine ⟨_, v, h0, .inl ⟨by simp [Region.wanted], fun w hw => ?_⟩, k _ (ha.put hd v)⟩
  rcases h w hw (some d) pos af none a.eval ha.agree with h | ⟨_, hu⟩
  · exact h
  · exact absurd hu (okV_ne hv)
theorem wanted_of' {a : Act} {o : Oper} {j t : Nat} {b c : Bool} (ha : Sat a n D F) (hg : o.guard = some (j, b)) (hj : ((ops[j]?).bind (·.dst)) = some t) (ht : fget F t = some (.bool c)) : Region.wanted o (yielded ops a.tmps) = (c == b) := by
  have hget := ha.get t _ ht
  simp only [Region.wanted, hg, yielded, hj, Option.bind_some]
  rw [Array.getD_eq_getD_getElem?] at hget
  cases hh : a.tmps[t]? with
  | none => rw [hh] at hget; simp [undef] at hget
  | some u =>
    rw [hh] at hget
    simp only [Option.getD_some] at hget
    subst hget
    rfl
theorem mtg {j t : Nat} {b : Bool} (h0 : ops[i]? = some ⟨some d, op, T, pos, af, some (j, b)⟩) (hj : ((ops[j]?).bind (·.dst)) = some t) (ht : fget F t = some (.bool b)) (h : ∀ w, S w → Zv P w F op T v w) (hv : okV v = true) (hd : Nat.blt d n = true) (k : wpM P ops S Q n D ((d, v) :: F) ms w) : wpM P ops S Q n D F (.take i ms) w := by
  intro a ha
  refine ⟨_, v, h0, .inl ⟨?_, fun w hw => ?_⟩, k _ (ha.put hd v)⟩
  · rw [wanted_of' ha rfl hj ht]; cases b <;> rfl
  · rcases h w hw (some d) pos af (some (j, b)) a.eval ha.agree with h | ⟨_, hu⟩
    · exact h
    · exact absurd hu (okV_ne hv)
theorem mno {j t : Nat} {b c : Bool} (h0 : ops[i]? = some ⟨some d, op, T, pos, af, some (j, b)⟩) (hj : ((ops[j]?).bind (·.dst)) = some t) (ht : fget F t = some (.bool c)) (hbc : (c == b) = false) (hd : Nat.blt d n = true) (k : wpM P ops S Q n D ((d, undef) :: F) ms w) : wpM P ops S Q n D F (.take i ms) w := by
  intro a ha
  exact ⟨_, undef, h0, .inr ⟨by rw [wanted_of' ha rfl hj ht]; exact hbc, rfl⟩, k _ (ha.put hd undef)⟩
theorem mnou {j t : Nat} {b : Bool} (h0 : ops[i]? = some ⟨some d, op, T, pos, af, some (j, b)⟩) (hj : ((ops[j]?).bind (·.dst)) = some t) (ht : fget F t = some undef) (hd : Nat.blt d n = true) (k : wpM P ops S Q n D ((d, undef) :: F) ms w) : wpM P ops S Q n D F (.take i ms) w := by
  intro a ha
  exact ⟨_, undef, h0, .inr ⟨unwanted_of ha rfl hj ht, rfl⟩, k _ (ha.put hd undef)⟩
/-- one that changes the world: walked by itself -/
theorem mh {o : Oper} (h0 : ops[i]? = some o) (h : wpL P ops (QQ fun a' w' => S w' ∧ wpMoves P ops S Q ms a' w') n D F [o] w) : wpM P ops S Q n D F (.one i ms) w :=
  fun a ha => ⟨o, h0, h a ha⟩
/-- two that change the world may come up: both are walked -/
theorem m_two {k : Nat} (h1 : wpM P ops S Q n D F (.one i ms) w) (h2 : wpM P ops S Q n D F (.one k ms2) w) : wpM P ops S Q n D F (.two i k ms ms2) w :=
  fun a ha => ⟨h1 a ha, h2 a ha⟩
theorem mh_end (hS : S w) (h : wpM P ops S Q n D F ms w) : qf (QQ fun a' w' => S w' ∧ wpMoves P ops S Q ms a' w') .normal n D F w := fun a ha => ⟨rfl, hS, h a ha⟩
theorem m_nil (h : qf Q .normal n D F w) : wpM P ops S Q n D F .nil w := h
section
variable {p : Prop} [Decidable p]
theorem mt_t (h0 : ops[i]? = some ⟨some d, op, T, pos, af, none⟩) (h : ∀ w, S w → Zv P w F op T (.bool (decide p)) w) (hp : p) (hd : Nat.blt d n = true) (k : wpM P ops S Q n D ((d, .bool true) :: F) ms w) : wpM P ops S Q n D F (.take i ms) w :=
  mt h0 (v := .bool true) (fun w hw => by have := h w hw; rwa [decide_eq_true hp] at this) rfl hd k
theorem mt_f (h0 : ops[i]? = some ⟨some d, op, T, pos, af, none⟩) (h : ∀ w, S w → Zv P w F op T (.bool (decide p)) w) (hp : ¬ p) (hd : Nat.blt d n = true) (k : wpM P ops S Q n D ((d, .bool false) :: F) ms w) : wpM P ops S Q n D F (.take i ms) w :=
  mt h0 (v := .bool false) (fun w hw => by have := h w hw; rwa [decide_eq_false hp] at this) rfl hd k
theorem mt_if (h0 : ops[i]? = some ⟨some d, op, T, pos, af, none⟩) (h : ∀ w, S w → Zv P w F op T (.bool (decide p)) w) (hd : Nat.blt d n = true) (k1 : p → wpM P ops S Q n D ((d, .bool true) :: F) ms w) (k2 : ¬ p → wpM P ops S Q n D ((d, .bool false) :: F) ms w) : wpM P ops S Q n D F (.take i ms) w := by
  by_cases hp : p
  · exact mt_t h0 h hp hd (k1 hp)
  · exact mt_f h0 h hp hd (k2 hp)
variable {j t : Nat} {b : Bool}
theorem mtg_t (h0 : ops[i]? = some ⟨some d, op, T, pos, af, some (j, b)⟩) (hj : ((ops[j]?).bind (·.dst)) = some t) (ht : fget F t = some (.bool b)) (h : ∀ w, S w → Zv P w F op T (.bool (decide p)) w) (hp : p) (hd : Nat.blt d n = true) (k : wpM P ops S Q n D ((d, .bool true) :: F) ms w) : wpM P ops S Q n D F (.take i ms) w :=
  mtg h0 hj ht (v := .bool true) (fun w hw => by have := h w hw; rwa [decide_eq_true hp] at this) rfl hd k
theorem mtg_f (h0 : ops[i]? = some ⟨some d, op, T, pos, af, some (j, b)⟩) (hj : ((ops[j]?).bind (·.dst)) = some t) (ht : fget F t = some (.bool b)) (h : ∀ w, S w → Zv P w F op T (.bool (decide p)) w) (hp : ¬ p) (hd : Nat.blt d n = true) (k : wpM P ops S Q n D ((d, .bool false) :: F) ms w) : wpM P ops S Q n D F (.take i ms) w :=
  mtg h0 hj ht (v := .bool false) (fun w hw => by have := h w hw; rwa [decide_eq_false hp] at this) rfl hd k
theorem mtg_if (h0 : ops[i]? = some ⟨some d, op, T, pos, af, some (j, b)⟩) (hj : ((ops[j]?).bind (·.dst)) = some t) (ht : fget F t = some (.bool b)) (h : ∀ w, S w → Zv P w F op T (.bool (decide p)) w) (hd : Nat.blt d n = true) (k1 : p → wpM P ops S Q n D ((d, .bool true) :: F) ms w) (k2 : ¬ p → wpM P ops S Q n D ((d, .bool false) :: F) ms w) : wpM P ops S Q n D F (.take i ms) w := by
  by_cases hp : p
  · exact mtg_t h0 hj ht h hp hd (k1 hp)
  · exact mtg_f h0 hj ht h hp hd (k2 hp)
end
end
section
variable {P : Program} {ops : Array Oper} {n : Nat} {D : List Deferred} {F : Fr} {rest : List Oper} {w : World} {op : Op} {T : TypeId} {pos : String} {af : Array Edge} {p : Prop} [Decidable p] {d j t : Nat} {b : Bool} {K : Act → Prop}
/-- a guarded test in a region that draws and leaves the world alone -/
theorem ssg_if (hj : ((ops[j]?).bind (·.dst)) = some t) (hg : fget F t = some (.bool b)) (h : Zv P w F op T (.bool (decide p)) w) (hd : Nat.blt d n = true) (ht : p → wpS P ops w K n D ((d, .bool true) :: F) rest) (hf : ¬ p → wpS P ops w K n D ((d, .bool false) :: F) rest) : wpS P ops w K n D F (⟨some d, op, T, pos, af, some (j, b)⟩ :: rest) := by
  by_cases hp : p
  · exact ssg (v := .bool true) hj hg (by simpa [hp] using h) hd (ht hp)
  · exact ssg (v := .bool false) hj hg (by simpa [hp] using h) hd (hf hp)
theorem ssg_t (hj : ((ops[j]?).bind (·.dst)) = some t) (hg : fget F t = some (.bool b)) (h : Zv P w F op T (.bool (decide p)) w) (hp : p) (hd : Nat.blt d n = true) (ht : wpS P ops w K n D ((d, .bool true) :: F) rest) : wpS P ops w K n D F (⟨some d, op, T, pos, af, some (j, b)⟩ :: rest) :=
  ssg (v := .bool true) hj hg (by simpa [hp] using h) hd ht
theorem ssg_f (hj : ((ops[j]?).bind (·.dst)) = some t) (hg : fget F t = some (.bool b)) (h : Zv P w F op T (.bool (decide p)) w) (hp : ¬ p) (hd : Nat.blt d n = true) (ht : wpS P ops w K n D ((d, .bool false) :: F) rest) : wpS P ops w K n D F (⟨some d, op, T, pos, af, some (j, b)⟩ :: rest) :=
  ssg (v := .bool false) hj hg (by simpa [hp] using h) hd ht
end
end Go.Proofs.YtefhjchhfpjciaaDoor

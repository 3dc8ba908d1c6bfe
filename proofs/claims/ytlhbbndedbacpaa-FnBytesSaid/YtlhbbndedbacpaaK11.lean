/- A region that draws its order, by a list of moves: an operation that answers alike wherever S holds may be taken first; any other must be the only one that may come up; no statement of the program is proved here. -/
import Derived.Test.YtlhbbndedbacpaaK8
set_option linter.unusedVariables false
set_option linter.unusedSimpArgs false
namespace Go.Proofs.Ytlhbbndedbacpaa
open Go

inductive Mvs where
  | nil : Mvs
  | take : Nat → Mvs → Mvs
  | one : Nat → Mvs → Mvs
  | two : Nat → Nat → Mvs → Mvs → Mvs
  | last : Nat → Mvs
def Mvs.len : Mvs → Nat
  | .nil => 0
  | .take _ r => r.len + 1
  | .one _ r => r.len + 1
  | .two _ _ r _ => r.len + 1
  | .last _ => 1

/-! ### Whatever order is picked: S holds behind every operation that is carried out, but for one (number X) that waits for all that are taken first -/
section
variable {P : Program} {ops : Array Oper} {Q : Exit → Act → World → Prop} {md : Region.Mode} {S : World → Prop} {X : Nat}
/-- number X waits for number i, or for one that waits for it and has not come up yet -/
def Waits (md : Region.Mode) (ops : Array Oper) (X i : Nat) (listed : Array Bool) : Prop := ∀ o, ops[X]? = some o → ∃ e ∈ o.after, Region.binds md e = true ∧ (e.on = i ∨ (listed.getD e.on true = false ∧ ∃ ok, ops[e.on]? = some ok ∧ ∃ e2 ∈ ok.after, Region.binds md e2 = true ∧ e2.on = i))
def wpAnyX (P : Program) (md : Region.Mode) (ops : Array Oper) (Q : Exit → Act → World → Prop) (S : World → Prop) (X : Nat) : Nat → Array Bool → Act → World → Prop
  | 0, listed, a, w => Region.ready md ops listed = [] ∧ Q .normal a w
  | fuel + 1, listed, a, w =>
    (Region.ready md ops listed = [] → Q .normal a w) ∧
    ∀ i ∈ Region.ready md ops listed, wpOp P ops Q i (fun a' w' => (i = X ∨ S w') ∧ wpAnyX P md ops Q S X fuel (listed.setIfInBounds i true) a' w') a w
theorem wpAny_of_X : ∀ (fuel : Nat) (listed : Array Bool) (a : Act) (w : World), wpAnyX P md ops Q S X fuel listed a w → wpAny P md ops Q fuel listed a w
  | 0, _, _, _, h => h
  | fuel + 1, _, _, _, h => ⟨h.1, fun i hi => wpOp_mono (fun a' w' h' => wpAny_of_X fuel _ a' w' h'.2) (h.2 i hi)⟩
theorem wpAnyX_first {i : Nat} {oi : Oper} {v : Value} (hi : ops[i]? = some oi) (hsel : ∀ (j : Nat) (o : Oper) cs b, ops[j]? = some o → o.op ≠ .select cs b)
    (hQ : ∀ c a w, Q (.panic c) (a.put oi.dst v) w → Q (.panic c) a w) :
    ∀ (fuel : Nat) (listed : Array Bool) (a : Act) (w : World), Waits md ops X i listed →
      (∀ j oj, ops[j]? = some oj → j ≠ i → listed.getD j true = false → (∀ e ∈ oj.after, Region.binds md e = true → e.on ≠ i) → oi.apart ops oj = true) →
      i ∈ Region.ready md ops listed → YieldsIf P ops S oi v a → S w →
      wpAnyX P md ops Q S X fuel (listed.setIfInBounds i true) (a.put oi.dst v) w → wpAnyX P md ops Q S X (fuel + 1) listed a w := by
  intro fuel
  induction fuel with
  | zero =>
    intro listed a w _ _ hr hy hS H
    refine ⟨fun h => (by rw [h] at hr; cases hr), fun j hj => ?_⟩
    by_cases hji : j = i
    · subst hji; exact hy.wpOp hi hS ⟨.inr hS, H⟩
    · have := ready_mono hj hji
      rw [H.1] at this
      cases this
  | succ fuel ih =>
    intro listed a w hX hfree hr hy hS H
    refine ⟨fun h => (by rw [h] at hr; cases hr), fun j hj => ?_⟩
    by_cases hji : j = i
    · subst hji; exact hy.wpOp hi hS ⟨.inr hS, H⟩
    · have h1 := H.2 j (ready_mono hj hji)
      obtain ⟨hjun, oj, hoj, hall⟩ := mem_ready.1 hj
      have hnot : ∀ e ∈ oj.after, Region.binds md e = true → e.on ≠ i := fun e he hb heq => by
        have h1 := hall e he hb
        have h0 := (mem_ready.1 hr).1
        rw [heq] at h1
        rcases Nat.lt_or_ge i listed.size with h' | h'
        · simp [h'] at h0 h1; rw [h0] at h1; cases h1
        · simp [Array.getElem?_eq_none h'] at h1
      have hjX : j ≠ X := fun e => by
        subst e
        obtain ⟨e, he, hb, hei | ⟨hun, _⟩⟩ := hX oj hoj
        · exact hnot e he hb hei
        · have h4 := hall e he hb
          rcases Nat.lt_or_ge e.on listed.size with h' | h'
          · simp [h'] at hun h4; rw [hun] at h4; cases h4
          · simp [Array.getElem?_eq_none h'] at h4
      have hX' : Waits md ops X i (listed.setIfInBounds j true) := by
        intro o ho
        obtain ⟨e, he, hb, hei | ⟨hun, ok, hok, e2, he2, hb2, hi2⟩⟩ := hX o ho
        · exact ⟨e, he, hb, .inl hei⟩
        · refine ⟨e, he, hb, .inr ⟨?_, ok, hok, e2, he2, hb2, hi2⟩⟩
          have hjk : j ≠ e.on := fun h => by
            subst h
            rw [hoj] at hok
            cases hok
            exact hnot e2 he2 hb2 hi2
          rw [getD_set_ne true hjk]; exact hun
      have h2 := wpOp_putIf hoj (hfree j oj hoj hji hjun hnot) (fun cs b => hsel i oi cs b hi) (fun cs b => hsel j oj cs b hoj) hQ hy h1
      have hfree' : ∀ k ok, ops[k]? = some ok → k ≠ i → (listed.setIfInBounds j true).getD k true = false →
          (∀ e ∈ ok.after, Region.binds md e = true → e.on ≠ i) → oi.apart ops ok = true := fun k ok hk hki hun hno => by
        refine hfree k ok hk hki ?_ hno
        by_cases hjk : j = k
        · subst hjk; exact hjun
        · rw [getD_set_ne true hjk] at hun; exact hun
      refine wpOp_mono (fun a' w' h3 => ?_) h2
      have hS' : S w' := h3.2.1.resolve_left hjX
      refine ⟨.inr hS', ih (listed.setIfInBounds j true) a' w' hX' hfree' (ready_mono hr (Ne.symm hji)) h3.1 hS' ?_⟩
      rw [Array.setIfInBounds_comm _ _ hji]
      exact h3.2.2
end
def waitsB (ops : Array Oper) (X i : Nat) (listed : Array Bool) : Bool := match ops[X]? with
  | none => true
  | some o => o.after.any fun e => Region.binds .any e && (Nat.beq e.on i || (!(listed.getD e.on true) && match ops[e.on]? with
    | none => false
    | some ok => ok.after.any fun e2 => Region.binds .any e2 && Nat.beq e2.on i))
theorem waits_spec {ops : Array Oper} {X i : Nat} {listed : Array Bool} (h : waitsB ops X i listed = true) : Waits .any ops X i listed := by
  intro o ho
  unfold waitsB at h
  rw [ho] at h
  simp only [Array.any_eq_true, Bool.and_eq_true, Bool.or_eq_true, Bool.not_eq_true'] at h
  obtain ⟨k, hk, h1, h2⟩ := h
  refine ⟨_, Array.getElem_mem hk, h1, ?_⟩
  rcases h2 with h2 | ⟨h2, h3⟩
  · exact .inl (Nat.eq_of_beq_eq_true h2)
  · refine .inr ⟨h2, ?_⟩
    cases hok : ops[(o.after[k]).on]? with
    | none => rw [hok] at h3; cases h3
    | some ok =>
      rw [hok] at h3
      simp only [Array.any_eq_true, Bool.and_eq_true] at h3
      obtain ⟨k2, hk2, h4, h5⟩ := h3
      exact ⟨ok, rfl, _, Array.getElem_mem hk2, h4, Nat.eq_of_beq_eq_true h5⟩

def movesB (ops : Array Oper) (X : Nat) : Mvs → Array Bool → Bool
  | .nil, listed => (Region.ready .any ops listed).isEmpty
  | .take i r, listed => (Region.ready .any ops listed).contains i && Region.free .any ops listed i && waitsB ops X i listed && movesB ops X r (listed.setIfInBounds i true)
  | .one i r, listed => decide (Region.ready .any ops listed = [i]) && movesB ops X r (listed.setIfInBounds i true)
  | .two i j r s, listed => decide (Region.ready .any ops listed = [i, j]) && Nat.beq s.len r.len && movesB ops X r (listed.setIfInBounds i true) && movesB ops X s (listed.setIfInBounds j true)
  | .last i, listed => decide (Region.ready .any ops listed = [i]) && Nat.beq i X && (Region.ready .any ops (listed.setIfInBounds i true)).isEmpty

def wpMoves (P : Program) (ops : Array Oper) (S : World → Prop) (Q : Exit → Act → World → Prop) : Mvs → Act → World → Prop
  | .nil, a, w => Q .normal a w
  | .take i r, a, w => ∃ o v, ops[i]? = some o ∧ YieldsIf P ops S o v a ∧ wpMoves P ops S Q r (a.put o.dst v) w
  | .one i r, a, w => ∃ o, ops[i]? = some o ∧ wpList P ops (QQ fun a' w' => S w' ∧ wpMoves P ops S Q r a' w') [o] a w
  | .two i j r s, a, w => (∃ o, ops[i]? = some o ∧ wpList P ops (QQ fun a' w' => S w' ∧ wpMoves P ops S Q r a' w') [o] a w) ∧ (∃ o, ops[j]? = some o ∧ wpList P ops (QQ fun a' w' => S w' ∧ wpMoves P ops S Q s a' w') [o] a w)
  | .last i, a, w => ∃ o, ops[i]? = some o ∧ wpList P ops (QQ fun a' w' => Q .normal a' w') [o] a w

section
variable {P : Program} {ops : Array Oper} {Q : Exit → Act → World → Prop} {n : Nat} {D : List Deferred} {F : Fr} {w : World} {S : World → Prop} {X : Nat}

theorem wpAnyX_moves (hsel : Region.noSelect ops = true) : ∀ (ms : Mvs) (listed : Array Bool) (a : Act) (w : World), movesB ops X ms listed = true → S w →
    wpMoves P ops S Q ms a w → wpAnyX P .any ops (QQ fun a w => Q .normal a w) S X ms.len listed a w
  | .nil, listed, a, w, hB, _, h => ⟨by simpa [movesB] using hB, rfl, h⟩
  | .take i r, listed, a, w, hB, hS, h => by
    simp only [movesB, Bool.and_eq_true] at hB
    obtain ⟨⟨⟨hr, hf⟩, hx⟩, hB'⟩ := hB
    obtain ⟨o, v, h0, hy, hrest⟩ := h
    exact wpAnyX_first h0 (Region.noSelect_spec hsel) (fun c a w h => absurd h.1 (by simp)) _ _ _ _ (waits_spec hx) (Region.free_spec h0 hf) (by simpa using hr) hy hS (wpAnyX_moves hsel r _ _ _ hB' hS hrest)
  | .one i r, listed, a, w, hB, hS, h => by
    simp only [movesB, Bool.and_eq_true, decide_eq_true_eq] at hB
    obtain ⟨o, h0, hl⟩ := h
    refine ⟨fun h1 => (by rw [hB.1] at h1; cases h1), fun j hj => ?_⟩
    rw [hB.1] at hj
    have hji : j = i := by simpa using hj
    subst hji
    refine wpOp_mono (fun a2 w2 h2 => ?_) (wpOp_of_list (K2 := fun a w => Q .normal a w) h0 hl)
    exact ⟨.inr h2.1, wpAnyX_moves hsel r _ a2 w2 hB.2 h2.1 h2.2⟩
  | .two i k r s, listed, a, w, hB, hS, h => by
    simp only [movesB, Bool.and_eq_true, decide_eq_true_eq] at hB
    obtain ⟨⟨⟨hrd, hln⟩, hB1⟩, hB2⟩ := hB
    have hln := Nat.eq_of_beq_eq_true hln
    obtain ⟨⟨o, h0, hl⟩, ⟨o2, h02, hl2⟩⟩ := h
    refine ⟨fun h1 => (by rw [hrd] at h1; cases h1), fun j hj => ?_⟩
    rw [hrd] at hj
    rcases (by simpa using hj : j = i ∨ j = k) with hji | hji
    · subst hji
      refine wpOp_mono (fun a2 w2 h2 => ?_) (wpOp_of_list (K2 := fun a w => Q .normal a w) h0 hl)
      exact ⟨.inr h2.1, wpAnyX_moves hsel r _ a2 w2 hB1 h2.1 h2.2⟩
    · subst hji
      refine wpOp_mono (fun a2 w2 h2 => ?_) (wpOp_of_list (K2 := fun a w => Q .normal a w) h02 hl2)
      have := wpAnyX_moves hsel s (listed.setIfInBounds j true) a2 w2 hB2 h2.1 h2.2
      rw [hln] at this
      exact ⟨.inr h2.1, this⟩
  | .last i, listed, a, w, hB, hS, h => by
    simp only [movesB, Bool.and_eq_true, decide_eq_true_eq] at hB
    obtain ⟨⟨hrd, hx⟩, he⟩ := hB
    have hiX := Nat.eq_of_beq_eq_true hx
    obtain ⟨o, h0, hl⟩ := h
    refine ⟨fun h1 => (by rw [hrd] at h1; cases h1), fun j hj => ?_⟩
    rw [hrd] at hj
    have hji : j = i := by simpa using hj
    subst hji
    refine wpOp_mono (fun a2 w2 h2 => ?_) (wpOp_of_list (K2 := fun a w => Q .normal a w) h0 hl)
    exact ⟨.inl hiX, by simpa using he, rfl, h2⟩

theorem c_moves {id : Nat} {l : List Oper} (X : Nat) (S : World → Prop) (ms : Mvs) (hm : P.follows .mixedOrders = true) (hsel : Region.noSelect l.toArray = true) (hl : ms.len = l.length) (hB : movesB l.toArray X ms (Array.replicate l.toArray.size false) = true) (hS : S w.drew)
    (h : ∀ a, Sat a n D F → wpMoves P l.toArray S Q ms a w.drew) : cwp P (.region id l.toArray true) Q n D F w := by
  intro a ha
  refine Code.wp_mono (Q := QQ fun a w => Q .normal a w) (fun e a w h => h.1 ▸ h.2) ?_
  refine wp_region_any hm (wpAny_of_X (S := S) (X := X) _ _ _ _ ?_)
  have := wpAnyX_moves hsel ms (Array.replicate l.toArray.size false) a w.drew hB hS (h a ha)
  rwa [hl, show l.length = l.toArray.size by simp] at this

/-- what is left of the moves, in a frame -/
def wpM (P : Program) (ops : Array Oper) (S : World → Prop) (Q : Exit → Act → World → Prop) (n : Nat) (D : List Deferred) (F : Fr) (ms : Mvs) (w : World) : Prop := ∀ a, Sat a n D F → wpMoves P ops S Q ms a w

variable {ms ms2 : Mvs} {i d : Nat} {op : Op} {T : TypeId} {pos : String} {af : Array Edge} {v : Value}
theorem mt (h0 : ops[i]? = some ⟨some d, op, T, pos, af, none⟩) (h : ∀ w, S w → Zv P w F op T v w) (hv : okV v = true) (hd : Nat.blt d n = true) (k : wpM P ops S Q n D ((d, v) :: F) ms w) : wpM P ops S Q n D F (.take i ms) w := by
  intro a ha
  refine ⟨_, v, h0, .inl ⟨by simp [Region.wanted], fun w hw => ?_⟩, k _ (ha.put hd v)⟩
  rcases h w hw (some d) pos af none a.eval ha.agree with h | ⟨_, hu⟩
  · exact h
  · exact absurd hu (okV_ne hv)
theorem wanted_of' {a : Act} {o : Oper} {j t : Nat} {b c : Bool} (ha : Sat a n D F) (hg : o.guard = some (j, b)) (hj : ((ops[j]?).bind (·.dst)) = some t) (ht : fget F t = some (.bool c)) : Region.wanted o (yielded ops a.tmps) = (c == b) := by
  have hget := ha.get t _ ht
  simp only [Region.wanted, hg, yielded, hj, Option.bind_some]
  rw [Array.getD_eq_getD_getElem?] at hget
  cases hh : a.tmps[t]? with
  | none => rw [hh] at hget; simp [undef] at hget
  | some u =>
    rw [hh] at hget
    simp only [Option.getD_some] at hget
    subst hget
    rfl
theorem mtg {j t : Nat} {b : Bool} (h0 : ops[i]? = some ⟨some d, op, T, pos, af, some (j, b)⟩) (hj : ((ops[j]?).bind (·.dst)) = some t) (ht : fget F t = some (.bool b)) (h : ∀ w, S w → Zv P w F op T v w) (hv : okV v = true) (hd : Nat.blt d n = true) (k : wpM P ops S Q n D ((d, v) :: F) ms w) : wpM P ops S Q n D F (.take i ms) w := by
  intro a ha
  refine ⟨_, v, h0, .inl ⟨?_, fun w hw => ?_⟩, k _ (ha.put hd v)⟩
  · rw [wanted_of' ha rfl hj ht]; cases b <;> rfl
  · rcases h w hw (some d) pos af (some (j, b)) a.eval ha.agree with h | ⟨_, hu⟩
    · exact h
    · exact absurd hu (okV_ne hv)
theorem mno {j t : Nat} {b c : Bool} (h0 : ops[i]? = some ⟨some d, op, T, pos, af, some (j, b)⟩) (hj : ((ops[j]?).bind (·.dst)) = some t) (ht : fget F t = some (.bool c)) (hbc : (c == b) = false) (hd : Nat.blt d n = true) (k : wpM P ops S Q n D ((d, undef) :: F) ms w) : wpM P ops S Q n D F (.take i ms) w := by
  intro a ha
  exact ⟨_, undef, h0, .inr ⟨by rw [wanted_of' ha rfl hj ht]; exact hbc, rfl⟩, k _ (ha.put hd undef)⟩
theorem mnou {j t : Nat} {b : Bool} (h0 : ops[i]? = some ⟨some d, op, T, pos, af, some (j, b)⟩) (hj : ((ops[j]?).bind (·.dst)) = some t) (ht : fget F t = some undef) (hd : Nat.blt d n = true) (k : wpM P ops S Q n D ((d, undef) :: F) ms w) : wpM P ops S Q n D F (.take i ms) w := by
  intro a ha
  exact ⟨_, undef, h0, .inr ⟨unwanted_of ha rfl hj ht, rfl⟩, k _ (ha.put hd undef)⟩
/-- one that changes the world: walked by itself -/
theorem mh {o : Oper} (h0 : ops[i]? = some o) (h : wpL P ops (QQ fun a' w' => S w' ∧ wpMoves P ops S Q ms a' w') n D F [o] w) : wpM P ops S Q n D F (.one i ms) w :=
  fun a ha => ⟨o, h0, h a ha⟩
/-- two that change the world may come up: both are walked -/
theorem m_two {k : Nat} (h1 : wpM P ops S Q n D F (.one i ms) w) (h2 : wpM P ops S Q n D F (.one k ms2) w) : wpM P ops S Q n D F (.two i k ms ms2) w :=
  fun a ha => ⟨h1 a ha, h2 a ha⟩
theorem mh_end (hS : S w) (h : wpM P ops S Q n D F ms w) : qf (QQ fun a' w' => S w' ∧ wpMoves P ops S Q ms a' w') .normal n D F w := fun a ha => ⟨rfl, hS, h a ha⟩
theorem mlast {o : Oper} (h0 : ops[i]? = some o) (h : wpL P ops (QQ fun a' w' => Q .normal a' w') n D F [o] w) : wpM P ops S Q n D F (.last i) w :=
  fun a ha => ⟨o, h0, h a ha⟩
theorem mlast_end (h : qf Q .normal n D F w) : qf (QQ fun a' w' => Q .normal a' w') .normal n D F w := fun a ha => ⟨rfl, h a ha⟩
theorem m_nil (h : qf Q .normal n D F w) : wpM P ops S Q n D F .nil w := h
section
variable {p : Prop} [Decidable p]
theorem mt_t (h0 : ops[i]? = some ⟨some d, op, T, pos, af, none⟩) (h : ∀ w, S w → Zv P w F op T (.bool (decide p)) w) (hp : p) (hd : Nat.blt d n = true) (k : wpM P ops S Q n D ((d, .bool true) :: F) ms w) : wpM P ops S Q n D F (.take i ms) w :=
  mt h0 (v := .bool true) (fun w hw => by have := h w hw; rwa [decide_eq_true hp] at this) rfl hd k
theorem mt_f (h0 : ops[i]? = some ⟨some d, op, T, pos, af, none⟩) (h : ∀ w, S w → Zv P w F op T (.bool (decide p)) w) (hp : ¬ p) (hd : Nat.blt d n = true) (k : wpM P ops S Q n D ((d, .bool false) :: F) ms w) : wpM P ops S Q n D F (.take i ms) w :=
  mt h0 (v := .bool false) (fun w hw => by have := h w hw; rwa [decide_eq_false hp] at this) rfl hd k
theorem mt_if (h0 : ops[i]? = some ⟨some d, op, T, pos, af, none⟩) (h : ∀ w, S w → Zv P w F op T (.bool (decide p)) w) (hd : Nat.blt d n = true) (k1 : p → wpM P ops S Q n D ((d, .bool true) :: F) ms w) (k2 : ¬ p → wpM P ops S Q n D ((d, .bool false) :: F) ms w) : wpM P ops S Q n D F (.take i ms) w := by
  by_cases hp : p
  · exact mt_t h0 h hp hd (k1 hp)
  · exact mt_f h0 h hp hd (k2 hp)
variable {j t : Nat} {b : Bool}
theorem mtg_t (h0 : ops[i]? = some ⟨some d, op, T, pos, af, some (j, b)⟩) (hj : ((ops[j]?).bind (·.dst)) = some t) (ht : fget F t = some (.bool b)) (h : ∀ w, S w → Zv P w F op T (.bool (decide p)) w) (hp : p) (hd : Nat.blt d n = true) (k : wpM P ops S Q n D ((d, .bool true) :: F) ms w) : wpM P ops S Q n D F (.take i ms) w :=
  mtg h0 hj ht (v := .bool true) (fun w hw => by have := h w hw; rwa [decide_eq_true hp] at this) rfl hd k
theorem mtg_f (h0 : ops[i]? = some ⟨some d, op, T, pos, af, some (j, b)⟩) (hj : ((ops[j]?).bind (·.dst)) = some t) (ht : fget F t = some (.bool b)) (h : ∀ w, S w → Zv P w F op T (.bool (decide p)) w) (hp : ¬ p) (hd : Nat.blt d n = true) (k : wpM P ops S Q n D ((d, .bool false) :: F) ms w) : wpM P ops S Q n D F (.take i ms) w :=
  mtg h0 hj ht (v := .bool false) (fun w hw => by have := h w hw; rwa [decide_eq_false hp] at this) rfl hd k
theorem mtg_if (h0 : ops[i]? = some ⟨some d, op, T, pos, af, some (j, b)⟩) (hj : ((ops[j]?).bind (·.dst)) = some t) (ht : fget F t = some (.bool b)) (h : ∀ w, S w → Zv P w F op T (.bool (decide p)) w) (hd : Nat.blt d n = true) (k1 : p → wpM P ops S Q n D ((d, .bool true) :: F) ms w) (k2 : ¬ p → wpM P ops S Q n D ((d, .bool false) :: F) ms w) : wpM P ops S Q n D F (.take i ms) w := by
  by_cases hp : p
  · exact mtg_t h0 hj ht h hp hd (k1 hp)
  · exact mtg_f h0 hj ht h hp hd (k2 hp)
end
end
section
variable {P : Program} {ops : Array Oper} {n : Nat} {D : List Deferred} {F : Fr} {rest : List Oper} {w : World} {op : Op} {T : TypeId} {pos : String} {af : Array Edge} {p : Prop} [Decidable p] {d j t : Nat} {b : Bool} {K : Act → Prop}
/-- a guarded test in a region that draws and leaves the world alone -/
theorem ssg_if (hj : ((ops[j]?).bind (·.dst)) = some t) (hg : fget F t = some (.bool b)) (h : Zv P w F op T (.bool (decide p)) w) (hd : Nat.blt d n = true) (ht : p → wpS P ops w K n D ((d, .bool true) :: F) rest) (hf : ¬ p → wpS P ops w K n D ((d, .bool false) :: F) rest) : wpS P ops w K n D F (⟨some d, op, T, pos, af, some (j, b)⟩ :: rest) := by
  by_cases hp : p
  · exact ssg (v := .bool true) hj hg (by simpa [hp] using h) hd (ht hp)
  · exact ssg (v := .bool false) hj hg (by simpa [hp] using h) hd (hf hp)
theorem ssg_t (hj : ((ops[j]?).bind (·.dst)) = some t) (hg : fget F t = some (.bool b)) (h : Zv P w F op T (.bool (decide p)) w) (hp : p) (hd : Nat.blt d n = true) (ht : wpS P ops w K n D ((d, .bool true) :: F) rest) : wpS P ops w K n D F (⟨some d, op, T, pos, af, some (j, b)⟩ :: rest) :=
  ssg (v := .bool true) hj hg (by simpa [hp] using h) hd ht
theorem ssg_f (hj : ((ops[j]?).bind (·.dst)) = some t) (hg : fget F t = some (.bool b)) (h : Zv P w F op T (.bool (decide p)) w) (hp : ¬ p) (hd : Nat.blt d n = true) (ht : wpS P ops w K n D ((d, .bool false) :: F) rest) : wpS P ops w K n D F (⟨some d, op, T, pos, af, some (j, b)⟩ :: rest) :=
  ssg (v := .bool false) hj hg (by simpa [hp] using h) hd ht
end
end Go.Proofs.Ytlhbbndedbacpaa

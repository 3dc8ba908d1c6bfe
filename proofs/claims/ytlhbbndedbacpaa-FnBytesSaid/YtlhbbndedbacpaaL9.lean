/- Two sets joined by a rule on truths, and how many numbers that leaves, by words. -/
import Derived.Test.YtlhbbndedbacpaaL7
set_option linter.unusedVariables false
set_option linter.unusedSimpArgs false
namespace Go.Proofs.Ytlhbbndedbacpaa

def joined (g : Bool → Bool → Bool) (s t : List Bool) : List Bool := (List.range (max s.length t.length)).map fun i => g (s.getD i false) (t.getD i false)
def gOr (a b : Bool) : Bool := a || b
def gAnd (a b : Bool) : Bool := a && b
def gDif (a b : Bool) : Bool := a && !b
def gXor (a b : Bool) : Bool := a != b
theorem joined_length (g : Bool → Bool → Bool) (s t : List Bool) : (joined g s t).length = max s.length t.length := by simp [joined]
theorem joined_getD {g : Bool → Bool → Bool} (hg : g false false = false) (s t : List Bool) (i : Nat) : (joined g s t).getD i false = g (s.getD i false) (t.getD i false) := by
  rcases Nat.lt_or_ge i (max s.length t.length) with h | h
  · rw [List.getD_eq_getElem?_getD]; simp [joined, h]
  · rw [getD_ge _ _ (by rw [joined_length]; exact h), getD_ge s _ (by omega), getD_ge t _ (by omega), hg]
theorem joined_comm {g : Bool → Bool → Bool} (hc : ∀ a b, g a b = g b a) (s t : List Bool) : joined g s t = joined g t s := by
  unfold joined
  rw [Nat.max_comm]
  exact List.map_congr_left fun i _ => hc _ _

def zipw (op : Nat → Nat → Nat) (xs ys : List Nat) (n : Nat) : List Nat := (List.range n).map fun k => op (xs.getD k 0) (ys.getD k 0)
theorem zipw_length (op : Nat → Nat → Nat) (xs ys : List Nat) (n : Nat) : (zipw op xs ys n).length = n := by simp [zipw]
theorem zipw_succ (op : Nat → Nat → Nat) (xs ys : List Nat) (n : Nat) : psum (zipw op xs ys (n + 1)) = psum (zipw op xs ys n) + popc (op (xs.getD n 0) (ys.getD n 0)) := by
  unfold zipw
  rw [List.range_succ, List.map_append, List.map_singleton, psum_snoc]
theorem zipw_le (op : Nat → Nat → Nat) (xs ys : List Nat) (n : Nat) : psum (zipw op xs ys n) ≤ 64 * n := by
  have := psum_le (zipw op xs ys n); rwa [zipw_length] at this
theorem zip_zero {op : Nat → Nat → Nat} {xs ys : List Nat} {a N : Nat} (ha : a ≤ N) (h : ∀ k, a ≤ k → popc (op (xs.getD k 0) (ys.getD k 0)) = 0) : psum (zipw op xs ys N) = psum (zipw op xs ys a) := by
  induction N with
  | zero => have : a = 0 := by omega
            rw [this]
  | succ N ih =>
    rcases Nat.lt_or_ge a (N + 1) with h1 | h1
    · rw [zipw_succ, ih (by omega), h N (by omega)]; rfl
    · have : a = N + 1 := by omega
      rw [this]
theorem zip_rest {op : Nat → Nat → Nat} {xs ys zs : List Nat} {a N : Nat} (ha : a ≤ N) (hN : N ≤ zs.length) (h : ∀ k, a ≤ k → k < N → popc (op (xs.getD k 0) (ys.getD k 0)) = popc (zs.getD k 0)) :
    psum (zipw op xs ys N) = psum (zipw op xs ys a) + psum ((zs.take N).drop a) := by
  induction N with
  | zero => have : a = 0 := by omega
            rw [this]; rfl
  | succ N ih =>
    rcases Nat.lt_or_ge a (N + 1) with h1 | h1
    · rw [zipw_succ, ih (by omega) (by omega) (fun k h2 h3 => h k h2 (by omega)), h N (by omega) (by omega), take_succ_getD zs N (by omega), List.drop_append_of_le_length (by simp; omega), psum_snoc]
      omega
    · have : a = N + 1 := by omega
      rw [this, List.drop_eq_nil_of_le (by simp; omega)]; rfl

theorem count_joined {g : Bool → Bool → Bool} {op : Nat → Nat → Nat} (hg : g false false = false) (hop : ∀ x y i, x < 18446744073709551616 → y < 18446744073709551616 → i < 64 → (op x y).testBit i = g (x.testBit i) (y.testBit i)) (s t : List Bool) :
    count (joined g s t) = psum (zipw op (pack s) (pack t) (nW (max s.length t.length))) := by
  rw [← psum_pack]
  unfold pack zipw psum
  rw [joined_length, List.map_map, List.map_map]
  congr 1
  apply List.map_congr_left
  intro k _
  simp only [Function.comp]
  have e1 := pack_getD s k
  have e2 := pack_getD t k
  unfold pack at e1 e2
  rw [e1, e2]
  unfold popc
  apply cnt_congr
  intro i hi
  rw [hop _ _ _ (wordAt_lt _ _) (wordAt_lt _ _) hi, wordAt_testBit, wordAt_testBit, wordAt_testBit]
  simp only [hi, decide_true, Bool.true_and]
  rw [joined_getD hg]

theorem op_or (x y i : Nat) (_ : x < 18446744073709551616) (_ : y < 18446744073709551616) (_ : i < 64) : (x ||| y).testBit i = gOr (x.testBit i) (y.testBit i) := Nat.testBit_or ..
theorem op_and (x y i : Nat) (_ : x < 18446744073709551616) (_ : y < 18446744073709551616) (_ : i < 64) : (x &&& y).testBit i = gAnd (x.testBit i) (y.testBit i) := Nat.testBit_and ..
theorem op_xor (x y i : Nat) (_ : x < 18446744073709551616) (_ : y < 18446744073709551616) (_ : i < 64) : (x ^^^ y).testBit i = gXor (x.testBit i) (y.testBit i) := by
  rw [Nat.testBit_xor]; rfl
theorem op_dif (x y i : Nat) (_ : x < 18446744073709551616) (_ : y < 18446744073709551616) (hi : i < 64) : (x &&& nt' y).testBit i = gDif (x.testBit i) (y.testBit i) := by
  rw [Nat.testBit_and, nt_testBit]
  simp only [hi, decide_true, Bool.xor_true]
  rfl

theorem nW_max (a b : Nat) (h : a ≤ b) : nW (max a b) = nW b := by rw [Nat.max_eq_right h]
theorem pack_past (s : List Bool) (k : Nat) (h : nW s.length ≤ k) : (pack s).getD k 0 = 0 := getD_ge _ _ (by rw [pack_length]; exact h)
theorem nW_mono {a b : Nat} (h : a ≤ b) : nW a ≤ nW b := by unfold nW; omega
theorem take_all {α : Type} (l : List α) (n : Nat) (h : n = l.length) : l.take n = l := by rw [h, List.take_length]

theorem card_or (s t : List Bool) (h : s.length ≤ t.length) : count (joined gOr s t) = psum (zipw (· ||| ·) (pack s) (pack t) (pack s).length) + psum ((pack t).drop (pack s).length) := by
  rw [count_joined (op := (· ||| ·)) rfl op_or, nW_max _ _ h, zip_rest (zs := pack t) (a := nW s.length) (nW_mono h) (by rw [pack_length]; exact Nat.le_refl _) (fun k h1 _ => by show popc ((pack s).getD k 0 ||| (pack t).getD k 0) = _; rw [pack_past s k h1, Nat.zero_or]),
    take_all _ _ (pack_length t).symm, pack_length]
theorem card_xor (s t : List Bool) (h : s.length ≤ t.length) : count (joined gXor s t) = psum (zipw (· ^^^ ·) (pack s) (pack t) (pack s).length) + psum ((pack t).drop (pack s).length) := by
  rw [count_joined (op := (· ^^^ ·)) rfl op_xor, nW_max _ _ h, zip_rest (zs := pack t) (a := nW s.length) (nW_mono h) (by rw [pack_length]; exact Nat.le_refl _) (fun k h1 _ => by show popc ((pack s).getD k 0 ^^^ (pack t).getD k 0) = _; rw [pack_past s k h1, Nat.zero_xor]),
    take_all _ _ (pack_length t).symm, pack_length]
theorem card_and (s t : List Bool) (h : s.length ≤ t.length) : count (joined gAnd s t) = psum (zipw (· &&& ·) (pack s) (pack t) (pack s).length) := by
  rw [count_joined (op := (· &&& ·)) rfl op_and, nW_max _ _ h, zip_zero (a := nW s.length) (nW_mono h) (fun k h1 => by show popc ((pack s).getD k 0 &&& (pack t).getD k 0) = _; rw [pack_past s k h1, Nat.zero_and, popc_zero]), pack_length]
theorem card_dif (s t : List Bool) (l : Nat) (hl : l = min (nW t.length) (nW s.length)) : count (joined gDif s t) = psum (zipw (fun x y => x &&& nt' y) (pack s) (pack t) l) + psum ((pack s).drop l) := by
  have h1 : nW s.length ≤ nW (max s.length t.length) := nW_mono (by omega)
  rw [count_joined (op := fun x y => x &&& nt' y) rfl op_dif, zip_zero (a := nW s.length) h1 (fun k h1 => by show popc ((pack s).getD k 0 &&& nt' ((pack t).getD k 0)) = _; rw [pack_past s k h1, Nat.zero_and, popc_zero]),
    zip_rest (zs := pack s) (a := l) (by omega) (by rw [pack_length]; exact Nat.le_refl _) (fun k h2 h3 => by
      have : nW t.length ≤ k := by omega
      rw [pack_past t k this]
      apply congrArg
      apply Nat.eq_of_testBit_eq
      intro i
      rw [Nat.testBit_and, nt_testBit]
      rcases Nat.lt_or_ge i 64 with h4 | h4
      · simp [h4]
      · rw [testBit_big (pack_getD_lt s k) h4]; rfl),
    take_all _ _ (pack_length s).symm]

/-! ### what is in one and not in the other -/
theorem cnt_zero {f : Nat → Bool} {n : Nat} (h : cnt f n = 0) : ∀ i, i < n → f i = false := cnt_eq_zero h
theorem count_eq_cnt (s : List Bool) (n : Nat) (h : s.length ≤ n) : cnt (fun i => s.getD i false) n = count s :=
  cnt_ge h fun i hi => getD_ge s false hi
theorem dif_zero (s t : List Bool) : count (joined gDif s t) = 0 ↔ ∀ i, s.getD i false = true → t.getD i false = true := by
  constructor
  · intro h i hi
    rcases Nat.lt_or_ge i (joined gDif s t).length with h1 | h1
    · have h2 := cnt_zero h i h1
      simp only [joined_getD (g := gDif) rfl, gDif, hi, Bool.true_and] at h2
      simpa using h2
    · rw [joined_length] at h1
      rw [getD_ge s _ (by omega)] at hi; cases hi
  · intro h
    refine cnt_false fun i _ => ?_
    rw [joined_getD (g := gDif) rfl]
    have := h i
    unfold gDif
    cases h1 : s.getD i false
    · rfl
    · rw [this h1]; rfl
theorem dif_balance (s t : List Bool) : count s + count (joined gDif t s) = count t + count (joined gDif s t) := by
  have e1 := count_eq_cnt s (max s.length t.length) (by omega)
  have e2 := count_eq_cnt t (max s.length t.length) (by omega)
  have e3 := count_eq_cnt (joined gDif t s) (max s.length t.length) (by rw [joined_length]; omega)
  have e4 := count_eq_cnt (joined gDif s t) (max s.length t.length) (by rw [joined_length]; omega)
  rw [← e1, ← e2, ← e3, ← e4]
  generalize max s.length t.length = n
  induction n with
  | zero => rfl
  | succ n ih =>
    have j1 := joined_getD (g := gDif) rfl t s n
    have j2 := joined_getD (g := gDif) rfl s t n
    have cb : ∀ f : Nat → Bool, cnt f (n + 1) = cnt f n + (f n).toNat := fun f => by simp only [cnt]; cases f n <;> rfl
    rw [cb, cb, cb, cb]
    show _ + (s.getD n false).toNat + (_ + ((joined gDif t s).getD n false).toNat) = _ + (t.getD n false).toNat + (_ + ((joined gDif s t).getD n false).toNat)
    rw [j1, j2]
    cases s.getD n false <;> cases t.getD n false <;> simp only [gDif, Bool.not_true, Bool.not_false, Bool.and_true, Bool.and_false, Bool.toNat_true, Bool.toNat_false] <;> omega
theorem dif_eq {s t : List Bool} : (count (joined gDif s t) = 0 ∧ count (joined gDif t s) = 0 ∧ s.length = t.length) ↔ s = t := by
  constructor
  · rintro ⟨h1, h2, h3⟩
    rw [dif_zero] at h1 h2
    refine bool_ext h3 fun i _ => ?_
    have a := h1 i
    have b := h2 i
    cases h4 : s.getD i false <;> cases h5 : t.getD i false
    · rfl
    · rw [b h5] at h4; cases h4
    · rw [a h4] at h5; cases h5
    · rfl
  · rintro rfl
    exact ⟨(dif_zero s s).2 fun i h => h, (dif_zero s s).2 fun i h => h, rfl⟩
theorem dif_strict (s t : List Bool) : (count t < count s ∧ count (joined gDif t s) = 0) ↔ (count (joined gDif t s) = 0 ∧ 0 < count (joined gDif s t)) := by
  have := dif_balance s t
  omega
theorem pack_inj {s t : List Bool} (hl : s.length = t.length) (h : ∀ k, k < nW s.length → wordAt s k = wordAt t k) : s = t := by
  refine bool_ext hl fun i hi => ?_
  have e := h (i / 64) (by unfold nW; omega)
  have e1 := wordAt_testBit s (i / 64) (i % 64)
  have e2 := wordAt_testBit t (i / 64) (i % 64)
  rw [e, e2] at e1
  have h64 : i % 64 < 64 := Nat.mod_lt _ (by decide)
  simp only [h64, decide_true, Bool.true_and] at e1
  rw [show 64 * (i / 64) + i % 64 = i by omega] at e1
  exact e1.symm
/-- the words of one lie in the words of the other -/
theorem super_words (s t : List Bool) (l : Nat) (hl : l = min (nW s.length) (nW t.length)) : count (joined gDif t s) = 0 ↔ ((∀ k, k < l → (pack s).getD k 0 &&& (pack t).getD k 0 = (pack t).getD k 0) ∧ psum ((pack t).drop l) = 0) := by
  rw [card_dif t s l (by omega)]
  have key : psum (zipw (fun x y => x &&& nt' y) (pack t) (pack s) l) = 0 ↔ ∀ k, k < l → (pack s).getD k 0 &&& (pack t).getD k 0 = (pack t).getD k 0 := by
    clear hl
    induction l with
    | zero => exact ⟨fun _ k hk => by omega, fun _ => rfl⟩
    | succ l ih =>
      rw [zipw_succ]
      have hz : popc ((pack t).getD l 0 &&& nt' ((pack s).getD l 0)) = 0 ↔ (pack s).getD l 0 &&& (pack t).getD l 0 = (pack t).getD l 0 := by
        have h1 := pack_getD_lt t l
        have h2 := pack_getD_lt s l
        constructor
        · intro h
          apply Nat.eq_of_testBit_eq
          intro i
          rw [Nat.testBit_and]
          rcases Nat.lt_or_ge i 64 with h4 | h4
          · have h5 := cnt_zero h i h4
            rw [Nat.testBit_and, nt_testBit] at h5
            simp only [h4, decide_true, Bool.xor_true] at h5
            revert h5
            cases ((pack t).getD l 0).testBit i <;> cases ((pack s).getD l 0).testBit i <;> simp
          · rw [testBit_big h1 h4, Bool.and_false]
        · intro h
          refine cnt_false fun i hi => ?_
          rw [← h, Nat.testBit_and, Nat.testBit_and, nt_testBit]
          simp only [hi, decide_true, Bool.xor_true]
          cases ((pack t).getD l 0).testBit i <;> cases ((pack s).getD l 0).testBit i <;> rfl
      constructor
      · intro h k hk
        rcases Nat.lt_or_ge k l with h3 | h3
        · exact ih.1 (by omega) k h3
        · have : k = l := by omega
          rw [this]; exact hz.1 (by omega)
      · intro h
        have h3 := ih.2 fun k hk => h k (by omega)
        have h4 := hz.2 (h l (by omega))
        omega
  rw [← key]
  omega

/-! ### the rule as a row of four -/
def tabf (tb : List Bool) (a b : Bool) : Bool := tb.getD (2 * a.toNat + b.toNat) false
theorem tab0 : tabf [false, true, true, true] = gOr := by funext a b; cases a <;> cases b <;> rfl
theorem tab1 : tabf [false, false, false, true] = gAnd := by funext a b; cases a <;> cases b <;> rfl
theorem tab2 : tabf [false, false, true, false] = gDif := by funext a b; cases a <;> cases b <;> rfl
theorem tab3 : tabf [false, true, true, false] = gXor := by funext a b; cases a <;> cases b <;> rfl
end Go.Proofs.Ytlhbbndedbacpaa

/- Texts that were built one by one and are laid together here (a claim has at most 60 files): frames, steps, plain laws, and functions by their contracts; no statement of the program is proved here. -/
import Derived.Laws.AppendOwnNone
import Derived.Test.YtkemlhhpakjojaaDoorZ4
/- Sets made of words, and the words of a set: slices.Clone, From, told of nothing, and the thin package's; each by its contract. -/
set_option linter.unusedVariables false
set_option linter.unusedSimpArgs false
set_option maxRecDepth 100000
namespace Go.Proofs.YtkemlhhpakjojaaDoor
open Go Go.RowKit

theorem Rd.news {w : World} {ad : Addr} {n : Nat} {xs : List Nat} (h : Rd w (some ad) n xs) : ∀ j u', (xs.map vU)[j]? = some u' → w.cell? (ad.add j) = some u' := by
  intro j u hj
  have hl := h.1
  rw [List.getElem?_map] at hj
  cases hs : xs[j]? with
  | none => rw [hs] at hj; cases hj
  | some x =>
    rw [hs] at hj
    obtain ⟨hlt, hx⟩ := List.getElem?_eq_some_iff.1 hs
    obtain ⟨ad', e, _, hc⟩ := h.2.2 (by omega)
    cases e
    rw [hc j (by omega), List.getD_eq_getElem?_getD, hs]
    exact hj
theorem one_vU (xs : List Nat) : ∀ u ∈ xs.map vU, u.oneCell' = true := by
  intro u hu
  obtain ⟨b, _, rfl⟩ := List.mem_map.1 hu
  rfl



































































theorem c_Len0 (p : Nat) (A : Option Addr) (c : Nat) (w : World) (hst : Blk w p 48 [vU 0, .slice A 0 c]) : Cal Tryd.prog 20 [vP p] w fun v w' => v = vU 0 ∧ w = w' := by
  refine go_in' Tryd.func20 rfl Tryd.ntmps20 (Nat.le_of_ble_eq_true rfl) ?_
  refine c_seq ?_
  refine c_region ?_
  refine st (y_assign (v := vU 0) rfl) rfl ?_
  refine l_nil ?_
  refine q_then ?_
  refine c_seq ?_
  refine c_region ?_
  refine st (y_move rfl) rfl ?_
  refine st (y_nil rfl) rfl ?_
  refine st (fa48_0 rfl) rfl ?_
  refine st (y_loadb rfl one22 (by assumption) (by rfl)) rfl ?_
  refine st (y_assign rfl) rfl ?_
  refine l_nil ?_
  refine q_then ?_
  refine c_ret ?_
  refine q_end1 (.inl rfl) rfl rfl ?_
  exact ⟨_, rfl, rfl, rfl⟩

theorem c_NextSet0 (p : Nat) (A : Option Addr) (c : Nat) (w : World) (hst : Blk w p 48 [vU 0, .slice A 0 c]) :
    Cal Tryd.prog 21 [vP p, vU 0] w fun v w' => v = vT [vU 0, vB false] ∧ w = w' := by
  refine go_in' Tryd.func21 rfl Tryd.ntmps21 (Nat.le_of_ble_eq_true rfl) ?_
  refine c_seq ?_
  refine c_region ?_
  refine st (y_assign (v := vU 0) rfl) rfl ?_
  refine st (y_assign rfl) rfl ?_
  refine l_nil ?_
  refine q_then ?_
  refine c_seq ?_
  refine c_region ?_
  refine st (y_move rfl) rfl ?_
  refine st (y_shr (k := 6) rfl rfl (by first | omega | assumption | (repeat (first | assumption | omega | decide | exact shl_lt64 _ _ | apply and_lt64 | apply or_lt64 | apply xor_lt64 | apply nt_lt | apply shr_lt64 | apply getD_lt64)))) rfl ?_
  rw [show (0 : Nat) >>> 6 = 0 from rfl]
  refine st (y_conv_ui rfl us22 Tryd.underlying3 (by omega)) rfl ?_
  refine st (y_assign rfl) rfl ?_
  refine l_nil ?_
  refine q_then ?_
  refine c_seq ?_
  refine c_seq ?_
  refine c_region ?_
  refine st (y_move rfl) rfl ?_
  refine st (y_move rfl) rfl ?_
  refine st (y_nil rfl) rfl ?_
  refine st (fa48_1 rfl) rfl ?_
  refine st (y_loadb rfl one42 (by assumption) (by rfl)) rfl ?_
  refine st (y_len rfl Tryd.underlying42) rfl ?_
  refine st_t (y_ge_i rfl rfl) (by omega) rfl ?_
  refine l_nil ?_
  refine q_then ?_
  refine c_true rfl rfl ?_
  refine c_seq ?_
  refine c_region ?_
  refine st (y_assign (v := vU 0) rfl) rfl ?_
  refine st (y_assign rfl) rfl ?_
  refine l_nil ?_
  refine q_then ?_
  refine c_ret ?_
  refine q_then_ret ?_
  refine q_end2 (.inl rfl) rfl rfl rfl ?_
  exact ⟨_, rfl, rfl, rfl⟩

theorem c_told0 (p : Nat) (A : Option Addr) (c : Nat) (w : World) (hst : Blk w p 48 [vU 0, .slice A 0 c]) :
    Cal Tryd.prog 16 [vP p] w fun v w' => v = aB 0 none 0 0 ∧ Keep w w' [] := by
  have hp0 := hst.lt
  refine go_in' Tryd.func16 rfl Tryd.ntmps16 (Nat.le_of_ble_eq_true rfl) ?_
  refine c_seq ?_
  refine c_region ?_
  refine st_alloc [.int .u64 0, .slice none 0 0] zv25 rfl rfl ?_
  intro b2 w1 hb2 hB2 hK1 hS1
  have hst := hst.keep hK1 (by simp only [List.mem_cons, List.not_mem_nil, or_false, not_or, not_false_eq_true] <;> omega)
  refine l_nil ?_
  refine q_then ?_
  refine c_seq ?_
  refine c_region ?_
  refine st (y_move rfl) rfl ?_
  refine sc rfl rfl isfn20 (c_Len0 p A c _ hst) rfl ?_
  rintro _ _ ⟨rfl, rfl⟩
  refine st (bld25_0 rfl) rfl ?_
  refine st_alloc [.int .u64 0, .slice none 0 0] zv25 rfl rfl ?_
  intro b3 w2 hb3 hB3 hK2 hS2
  have hst := hst.keep hK2 (by simp only [List.mem_cons, List.not_mem_nil, or_false, not_or, not_false_eq_true] <;> omega)
  have hB2 := hB2.keep hK2 (by simp only [List.mem_cons, List.not_mem_nil, or_false, not_or, not_false_eq_true] <;> omega)
  refine st_storeagg rfl rfl (by simp [Value.oneCell']) sz25 rfl (by assumption) (by simp) rfl ?_
  intro w3 hB3' hK3 hS3
  have hst3 := hst.keep hK3 (by simp only [List.mem_singleton]; omega)
  have hB2 := hB2.keep hK3 (by simp only [List.mem_cons, List.not_mem_nil, or_false, not_or, not_false_eq_true] <;> omega)
  have hK13 := (hK1.trans hK2 (by simp)).trans hK3 (fun i hi => by simp only [List.mem_singleton] at hi; exact .inr (by omega))
  clear hB3
  have hB33 : Blk w3 b3 25 [vU 0, .slice none 0 0] := hB3'
  clear hB3'
  refine l_nil ?_
  refine q_then ?_
  refine c_seq ?_
  refine c_seq ?_
  refine c_region ?_
  refine st (y_move rfl) rfl ?_
  refine sc rfl rfl isfn21 (c_NextSet0 p A c _ hst3) rfl ?_
  rintro _ _ ⟨rfl, rfl⟩
  refine st (y_move rfl) rfl ?_
  refine st (y_extract rfl rfl) rfl ?_
  refine st (y_extract rfl rfl) rfl ?_
  refine st (y_assign rfl) rfl ?_
  refine st (y_assign rfl) rfl ?_
  refine l_nil ?_
  refine q_then ?_
  refine c_block ?_
  refine c_loop (fun _ : Unit => [(0, vP p), (2, vP b2), (3, vP b3), (4, vU 0), (5, vB false)]) (fun _ w' => w3 = w') (fun _ => 0) () ?_ ?_ ?_
  · exact ⟨rfl, rfl, rfl, rfl, rfl, trivial⟩
  · exact rfl
  · rintro _ w4 rfl
    refine c_seq ?_
    refine c_seq ?_
    refine c_region ?_
    refine st (y_move rfl) rfl ?_
    refine l_nil ?_
    refine q_then ?_
    refine c_false rfl rfl ?_
    refine c_exit ?_
    refine q_then_exit ?_
    refine q_then_exit ?_
    refine q_block_hit ?_
    refine q_then ?_
    refine c_seq ?_
    refine c_region ?_
    refine st (y_loadagg rfl agg25 us25 sz25 (by assumption) (by simp) (by rfl)) rfl ?_
    refine st_storeagg rfl rfl (by simp [Value.oneCell']) sz25 rfl (by assumption) (by simp) rfl ?_
    intro w8 hB8 hK8 hS8
    refine l_nil ?_
    refine q_then ?_
    refine c_ret ?_
    refine q_endc (.inl rfl) rfl rfl agg25 us25 sz25 (by assumption) (by rfl) ?_
    exact ⟨_, rfl, rfl, hK13.trans hK8 (fun i hi => by simp only [List.mem_singleton] at hi; exact .inr (by omega))⟩










































































































































































end Go.Proofs.YtkemlhhpakjojaaDoor

/- (*BitSet).Count, by its contract. -/
set_option linter.unusedVariables false
set_option linter.unusedSimpArgs false
set_option maxRecDepth 100000
namespace Go.Proofs.YtkemlhhpakjojaaDoor
open Go Go.RowKit






















end Go.Proofs.YtkemlhhpakjojaaDoor

/- Two sets joined by a rule on truths, and how many numbers that leaves, by words. -/
set_option linter.unusedVariables false
set_option linter.unusedSimpArgs false
namespace Go.Proofs.YtkemlhhpakjojaaDoor

def joined (g : Bool → Bool → Bool) (s t : List Bool) : List Bool := (List.range (max s.length t.length)).map fun i => g (s.getD i false) (t.getD i false)
def gOr (a b : Bool) : Bool := a || b
def gAnd (a b : Bool) : Bool := a && b
def gDif (a b : Bool) : Bool := a && !b
def gXor (a b : Bool) : Bool := a != b
theorem joined_length (g : Bool → Bool → Bool) (s t : List Bool) : (joined g s t).length = max s.length t.length := by simp [joined]
theorem joined_getD {g : Bool → Bool → Bool} (hg : g false false = false) (s t : List Bool) (i : Nat) : (joined g s t).getD i false = g (s.getD i false) (t.getD i false) := by
  rcases Nat.lt_or_ge i (max s.length t.length) with h | h
  · rw [List.getD_eq_getElem?_getD]; simp [joined, h]
  · rw [getD_ge _ _ (by rw [joined_length]; exact h), getD_ge s _ (by omega), getD_ge t _ (by omega), hg]
theorem joined_comm {g : Bool → Bool → Bool} (hc : ∀ a b, g a b = g b a) (s t : List Bool) : joined g s t = joined g t s := by
  unfold joined
  rw [Nat.max_comm]
  exact List.map_congr_left fun i _ => hc _ _

def zipw (op : Nat → Nat → Nat) (xs ys : List Nat) (n : Nat) : List Nat := (List.range n).map fun k => op (xs.getD k 0) (ys.getD k 0)
theorem zipw_length (op : Nat → Nat → Nat) (xs ys : List Nat) (n : Nat) : (zipw op xs ys n).length = n := by simp [zipw]
theorem zipw_succ (op : Nat → Nat → Nat) (xs ys : List Nat) (n : Nat) : psum (zipw op xs ys (n + 1)) = psum (zipw op xs ys n) + popc (op (xs.getD n 0) (ys.getD n 0)) := by
  unfold zipw
  rw [List.range_succ, List.map_append, List.map_singleton, psum_snoc]
theorem zipw_le (op : Nat → Nat → Nat) (xs ys : List Nat) (n : Nat) : psum (zipw op xs ys n) ≤ 64 * n := by
  have := psum_le (zipw op xs ys n); rwa [zipw_length] at this
theorem zip_zero {op : Nat → Nat → Nat} {xs ys : List Nat} {a N : Nat} (ha : a ≤ N) (h : ∀ k, a ≤ k → popc (op (xs.getD k 0) (ys.getD k 0)) = 0) : psum (zipw op xs ys N) = psum (zipw op xs ys a) := by
  induction N with
  | zero => have : a = 0 := by omega
            rw [this]
  | succ N ih =>
    rcases Nat.lt_or_ge a (N + 1) with h1 | h1
    · rw [zipw_succ, ih (by omega), h N (by omega)]; rfl
    · have : a = N + 1 := by omega
      rw [this]
theorem zip_rest {op : Nat → Nat → Nat} {xs ys zs : List Nat} {a N : Nat} (ha : a ≤ N) (hN : N ≤ zs.length) (h : ∀ k, a ≤ k → k < N → popc (op (xs.getD k 0) (ys.getD k 0)) = popc (zs.getD k 0)) :
    psum (zipw op xs ys N) = psum (zipw op xs ys a) + psum ((zs.take N).drop a) := by
  induction N with
  | zero => have : a = 0 := by omega
            rw [this]; rfl
  | succ N ih =>
    rcases Nat.lt_or_ge a (N + 1) with h1 | h1
    · rw [zipw_succ, ih (by omega) (by omega) (fun k h2 h3 => h k h2 (by omega)), h N (by omega) (by omega), take_succ_getD zs N (by omega), List.drop_append_of_le_length (by simp; omega), psum_snoc]
      omega
    · have : a = N + 1 := by omega
      rw [this, List.drop_eq_nil_of_le (by simp; omega)]; rfl

theorem count_joined {g : Bool → Bool → Bool} {op : Nat → Nat → Nat} (hg : g false false = false) (hop : ∀ x y i, x < 18446744073709551616 → y < 18446744073709551616 → i < 64 → (op x y).testBit i = g (x.testBit i) (y.testBit i)) (s t : List Bool) :
    count (joined g s t) = psum (zipw op (pack s) (pack t) (nW (max s.length t.length))) := by
  rw [← psum_pack]
  unfold pack zipw psum
  rw [joined_length, List.map_map, List.map_map]
  congr 1
  apply List.map_congr_left
  intro k _
  simp only [Function.comp]
  have e1 := pack_getD s k
  have e2 := pack_getD t k
  unfold pack at e1 e2
  rw [e1, e2]
  unfold popc
  apply cnt_congr
  intro i hi
  rw [hop _ _ _ (wordAt_lt _ _) (wordAt_lt _ _) hi, wordAt_testBit, wordAt_testBit, wordAt_testBit]
  simp only [hi, decide_true, Bool.true_and]
  rw [joined_getD hg]

theorem op_or (x y i : Nat) (_ : x < 18446744073709551616) (_ : y < 18446744073709551616) (_ : i < 64) : (x ||| y).testBit i = gOr (x.testBit i) (y.testBit i) := Nat.testBit_or ..
theorem op_and (x y i : Nat) (_ : x < 18446744073709551616) (_ : y < 18446744073709551616) (_ : i < 64) : (x &&& y).testBit i = gAnd (x.testBit i) (y.testBit i) := Nat.testBit_and ..
theorem op_xor (x y i : Nat) (_ : x < 18446744073709551616) (_ : y < 18446744073709551616) (_ : i < 64) : (x ^^^ y).testBit i = gXor (x.testBit i) (y.testBit i) := by
  rw [Nat.testBit_xor]; rfl
theorem op_dif (x y i : Nat) (_ : x < 18446744073709551616) (_ : y < 18446744073709551616) (hi : i < 64) : (x &&& nt' y).testBit i = gDif (x.testBit i) (y.testBit i) := by
  rw [Nat.testBit_and, nt_testBit]
  simp only [hi, decide_true, Bool.xor_true]
  rfl

theorem nW_max (a b : Nat) (h : a ≤ b) : nW (max a b) = nW b := by rw [Nat.max_eq_right h]
theorem pack_past (s : List Bool) (k : Nat) (h : nW s.length ≤ k) : (pack s).getD k 0 = 0 := getD_ge _ _ (by rw [pack_length]; exact h)
theorem nW_mono {a b : Nat} (h : a ≤ b) : nW a ≤ nW b := by unfold nW; omega
theorem take_all {α : Type} (l : List α) (n : Nat) (h : n = l.length) : l.take n = l := by rw [h, List.take_length]

theorem card_or (s t : List Bool) (h : s.length ≤ t.length) : count (joined gOr s t) = psum (zipw (· ||| ·) (pack s) (pack t) (pack s).length) + psum ((pack t).drop (pack s).length) := by
  rw [count_joined (op := (· ||| ·)) rfl op_or, nW_max _ _ h, zip_rest (zs := pack t) (a := nW s.length) (nW_mono h) (by rw [pack_length]; exact Nat.le_refl _) (fun k h1 _ => by show popc ((pack s).getD k 0 ||| (pack t).getD k 0) = _; rw [pack_past s k h1, Nat.zero_or]),
    take_all _ _ (pack_length t).symm, pack_length]
theorem card_xor (s t : List Bool) (h : s.length ≤ t.length) : count (joined gXor s t) = psum (zipw (· ^^^ ·) (pack s) (pack t) (pack s).length) + psum ((pack t).drop (pack s).length) := by
  rw [count_joined (op := (· ^^^ ·)) rfl op_xor, nW_max _ _ h, zip_rest (zs := pack t) (a := nW s.length) (nW_mono h) (by rw [pack_length]; exact Nat.le_refl _) (fun k h1 _ => by show popc ((pack s).getD k 0 ^^^ (pack t).getD k 0) = _; rw [pack_past s k h1, Nat.zero_xor]),
    take_all _ _ (pack_length t).symm, pack_length]
theorem card_and (s t : List Bool) (h : s.length ≤ t.length) : count (joined gAnd s t) = psum (zipw (· &&& ·) (pack s) (pack t) (pack s).length) := by
  rw [count_joined (op := (· &&& ·)) rfl op_and, nW_max _ _ h, zip_zero (a := nW s.length) (nW_mono h) (fun k h1 => by show popc ((pack s).getD k 0 &&& (pack t).getD k 0) = _; rw [pack_past s k h1, Nat.zero_and, popc_zero]), pack_length]
theorem card_dif (s t : List Bool) (l : Nat) (hl : l = min (nW t.length) (nW s.length)) : count (joined gDif s t) = psum (zipw (fun x y => x &&& nt' y) (pack s) (pack t) l) + psum ((pack s).drop l) := by
  have h1 : nW s.length ≤ nW (max s.length t.length) := nW_mono (by omega)
  rw [count_joined (op := fun x y => x &&& nt' y) rfl op_dif, zip_zero (a := nW s.length) h1 (fun k h1 => by show popc ((pack s).getD k 0 &&& nt' ((pack t).getD k 0)) = _; rw [pack_past s k h1, Nat.zero_and, popc_zero]),
    zip_rest (zs := pack s) (a := l) (by omega) (by rw [pack_length]; exact Nat.le_refl _) (fun k h2 h3 => by
      have : nW t.length ≤ k := by omega
      rw [pack_past t k this]
      apply congrArg
      apply Nat.eq_of_testBit_eq
      intro i
      rw [Nat.testBit_and, nt_testBit]
      rcases Nat.lt_or_ge i 64 with h4 | h4
      · simp [h4]
      · rw [testBit_big (pack_getD_lt s k) h4]; rfl),
    take_all _ _ (pack_length s).symm]

/-! ### what is in one and not in the other -/
theorem cnt_zero {f : Nat → Bool} {n : Nat} (h : cnt f n = 0) : ∀ i, i < n → f i = false := cnt_eq_zero h
theorem count_eq_cnt (s : List Bool) (n : Nat) (h : s.length ≤ n) : cnt (fun i => s.getD i false) n = count s :=
  cnt_ge h fun i hi => getD_ge s false hi
theorem dif_zero (s t : List Bool) : count (joined gDif s t) = 0 ↔ ∀ i, s.getD i false = true → t.getD i false = true := by
  constructor
  · intro h i hi
    rcases Nat.lt_or_ge i (joined gDif s t).length with h1 | h1
    · have h2 := cnt_zero h i h1
      simp only [joined_getD (g := gDif) rfl, gDif, hi, Bool.true_and] at h2
      simpa using h2
    · rw [joined_length] at h1
      rw [getD_ge s _ (by omega)] at hi; cases hi
  · intro h
    refine cnt_false fun i _ => ?_
    rw [joined_getD (g := gDif) rfl]
    have := h i
    unfold gDif
    cases h1 : s.getD i false
    · rfl
    · rw [this h1]; rfl
theorem dif_balance (s t : List Bool) : count s + count (joined gDif t s) = count t + count (joined gDif s t) := by
  have e1 := count_eq_cnt s (max s.length t.length) (by omega)
  have e2 := count_eq_cnt t (max s.length t.length) (by omega)
  have e3 := count_eq_cnt (joined gDif t s) (max s.length t.length) (by rw [joined_length]; omega)
  have e4 := count_eq_cnt (joined gDif s t) (max s.length t.length) (by rw [joined_length]; omega)
  rw [← e1, ← e2, ← e3, ← e4]
  generalize max s.length t.length = n
  induction n with
  | zero => rfl
  | succ n ih =>
    have j1 := joined_getD (g := gDif) rfl t s n
    have j2 := joined_getD (g := gDif) rfl s t n
    have cb : ∀ f : Nat → Bool, cnt f (n + 1) = cnt f n + (f n).toNat := fun f => by simp only [cnt]; cases f n <;> rfl
    rw [cb, cb, cb, cb]
    show _ + (s.getD n false).toNat + (_ + ((joined gDif t s).getD n false).toNat) = _ + (t.getD n false).toNat + (_ + ((joined gDif s t).getD n false).toNat)
    rw [j1, j2]
    cases s.getD n false <;> cases t.getD n false <;> simp only [gDif, Bool.not_true, Bool.not_false, Bool.and_true, Bool.and_false, Bool.toNat_true, Bool.toNat_false] <;> omega
theorem dif_eq {s t : List Bool} : (count (joined gDif s t) = 0 ∧ count (joined gDif t s) = 0 ∧ s.length = t.length) ↔ s = t := by
  constructor
  · rintro ⟨h1, h2, h3⟩
    rw [dif_zero] at h1 h2
    refine bool_ext h3 fun i _ => ?_
    have a := h1 i
    have b := h2 i
    cases h4 : s.getD i false <;> cases h5 : t.getD i false
    · rfl
    · rw [b h5] at h4; cases h4
    · rw [a h4] at h5; cases h5
    · rfl
  · rintro rfl
    exact ⟨(dif_zero s s).2 fun i h => h, (dif_zero s s).2 fun i h => h, rfl⟩
theorem dif_strict (s t : List Bool) : (count t < count s ∧ count (joined gDif t s) = 0) ↔ (count (joined gDif t s) = 0 ∧ 0 < count (joined gDif s t)) := by
  have := dif_balance s t
  omega
theorem pack_inj {s t : List Bool} (hl : s.length = t.length) (h : ∀ k, k < nW s.length → wordAt s k = wordAt t k) : s = t := by
  refine bool_ext hl fun i hi => ?_
  have e := h (i / 64) (by unfold nW; omega)
  have e1 := wordAt_testBit s (i / 64) (i % 64)
  have e2 := wordAt_testBit t (i / 64) (i % 64)
  rw [e, e2] at e1
  have h64 : i % 64 < 64 := Nat.mod_lt _ (by decide)
  simp only [h64, decide_true, Bool.true_and] at e1
  rw [show 64 * (i / 64) + i % 64 = i by omega] at e1
  exact e1.symm
/-- the words of one lie in the words of the other -/
theorem super_words (s t : List Bool) (l : Nat) (hl : l = min (nW s.length) (nW t.length)) : count (joined gDif t s) = 0 ↔ ((∀ k, k < l → (pack s).getD k 0 &&& (pack t).getD k 0 = (pack t).getD k 0) ∧ psum ((pack t).drop l) = 0) := by
  rw [card_dif t s l (by omega)]
  have key : psum (zipw (fun x y => x &&& nt' y) (pack t) (pack s) l) = 0 ↔ ∀ k, k < l → (pack s).getD k 0 &&& (pack t).getD k 0 = (pack t).getD k 0 := by
    clear hl
    induction l with
    | zero => exact ⟨fun _ k hk => by omega, fun _ => rfl⟩
    | succ l ih =>
      rw [zipw_succ]
      have hz : popc ((pack t).getD l 0 &&& nt' ((pack s).getD l 0)) = 0 ↔ (pack s).getD l 0 &&& (pack t).getD l 0 = (pack t).getD l 0 := by
        have h1 := pack_getD_lt t l
        have h2 := pack_getD_lt s l
        constructor
        · intro h
          apply Nat.eq_of_testBit_eq
          intro i
          rw [Nat.testBit_and]
          rcases Nat.lt_or_ge i 64 with h4 | h4
          · have h5 := cnt_zero h i h4
            rw [Nat.testBit_and, nt_testBit] at h5
            simp only [h4, decide_true, Bool.xor_true] at h5
            revert h5
            cases ((pack t).getD l 0).testBit i <;> cases ((pack s).getD l 0).testBit i <;> simp
          · rw [testBit_big h1 h4, Bool.and_false]
        · intro h
          refine cnt_false fun i hi => ?_
          rw [← h, Nat.testBit_and, Nat.testBit_and, nt_testBit]
          simp only [hi, decide_true, Bool.xor_true]
          cases ((pack t).getD l 0).testBit i <;> cases ((pack s).getD l 0).testBit i <;> rfl
      constructor
      · intro h k hk
        rcases Nat.lt_or_ge k l with h3 | h3
        · exact ih.1 (by omega) k h3
        · have : k = l := by omega
          rw [this]; exact hz.1 (by omega)
      · intro h
        have h3 := ih.2 fun k hk => h k (by omega)
        have h4 := hz.2 (h l (by omega))
        omega
  rw [← key]
  omega

/-! ### the rule as a row of four -/
def tabf (tb : List Bool) (a b : Bool) : Bool := tb.getD (2 * a.toNat + b.toNat) false
theorem tab0 : tabf [false, true, true, true] = gOr := by funext a b; cases a <;> cases b <;> rfl
theorem tab1 : tabf [false, false, false, true] = gAnd := by funext a b; cases a <;> cases b <;> rfl
theorem tab2 : tabf [false, false, true, false] = gDif := by funext a b; cases a <;> cases b <;> rfl
theorem tab3 : tabf [false, true, true, false] = gXor := by funext a b; cases a <;> cases b <;> rfl
end Go.Proofs.YtkemlhhpakjojaaDoor

/- How many numbers two sets have joined: the loops over two rows of words, and the four counts, each by its contract. -/
set_option linter.unusedVariables false
set_option linter.unusedSimpArgs false
set_option maxRecDepth 100000
namespace Go.Proofs.YtkemlhhpakjojaaDoor
open Go Go.RowKit

theorem Rd.cellk {w : World} {ad : Addr} {n : Nat} {xs : List Nat} (h : Rd w (some ad) n xs) {k : Nat} (hk : k < n) : w.cell? (ad.add k) = some (vU (xs.getD k 0)) := by
  obtain ⟨ad', e, _, hc⟩ := h.2.2 (by omega)
  cases e
  exact hc k hk
theorem Rd.adr {w : World} {A : Option Addr} {n : Nat} {xs : List Nat} (h : Rd w A n xs) (hn : 0 < n) : ∃ ad, A = some ad := by
  obtain ⟨ad, e, _⟩ := h.2.2 hn
  exact ⟨ad, e⟩
























































































































































































































end Go.Proofs.YtkemlhhpakjojaaDoor

/- The four counts of two sets joined, Equal, IsSuperSet and IsStrictSuperSet, each by its contract. -/
set_option linter.unusedVariables false
set_option linter.unusedSimpArgs false
set_option maxRecDepth 100000
namespace Go.Proofs.YtkemlhhpakjojaaDoor
open Go Go.RowKit

theorem zipw_take (op : Nat → Nat → Nat) (xs ys : List Nat) (l a b : Nat) (ha : l ≤ a) (hb : l ≤ b) : zipw op (xs.take a) (ys.take b) l = zipw op xs ys l := by
  unfold zipw
  apply List.map_congr_left
  intro k hk
  have : k < l := by simpa using hk
  simp only [List.getD_eq_getElem?_getD]
  rw [List.getElem?_take_of_lt (by omega), List.getElem?_take_of_lt (by omega)]

theorem c_wordsNeededUnbound (i : Nat) (hi : i < 4611686018427387904) (w : World) : Cal Tryd.prog 37 [vU i] w fun v w' => v = vI ((nW i : Nat) : Int) ∧ w = w' := by
  refine go_in' Tryd.func37 rfl Tryd.ntmps37 (Nat.le_of_ble_eq_true rfl) ?_
  refine c_seq ?_
  refine c_region ?_
  refine st (y_assign (v := vI ((0 : Nat) : Int)) rfl) rfl ?_
  refine l_nil ?_
  refine q_then ?_
  refine c_seq ?_
  refine c_region ?_
  refine st (y_move rfl) rfl ?_
  refine st (y_conv_ui rfl us22 Tryd.underlying3 (by omega)) rfl ?_
  first | refine st (y_add_in (b := 63) rfl rfl (by omega)) rfl ?_ | refine st (y_add_i (b := 63) rfl rfl (by omega) (by omega)) rfl ?_
  refine st (y_shr_i (k := 6) rfl rfl (by omega)) rfl ?_
  refine st (y_assign rfl) rfl ?_
  refine l_nil ?_
  refine q_then ?_
  refine c_ret ?_
  refine q_end1 (.inl rfl) rfl rfl ?_
  refine ⟨_, rfl, ?_, rfl⟩
  simp [nW, Nat.shiftRight_eq_div_pow]

theorem c_wordCount (p q : Nat) (s : List Bool) (w : World) (hB : BSet w p q s) (hs : s.length ≤ 100001) :
    Cal Tryd.prog 36 [vP p] w fun v w' => v = vI (((pack s).length : Nat) : Int) ∧ w = w' := by
  obtain ⟨tl, hB⟩ := hB
  have hst := hB.st
  rw [pack_length]
  refine go_in' Tryd.func36 rfl Tryd.ntmps36 (Nat.le_of_ble_eq_true rfl) ?_
  refine c_seq ?_
  refine c_region ?_
  refine st (y_assign (v := vI ((0 : Nat) : Int)) rfl) rfl ?_
  refine l_nil ?_
  refine q_then ?_
  refine c_seq ?_
  refine c_region ?_
  refine st (y_move rfl) rfl ?_
  refine st (y_nil rfl) rfl ?_
  refine st (fa48_0 rfl) rfl ?_
  refine st (y_loadb rfl one22 (by assumption) (by rfl)) rfl ?_
  refine sc rfl rfl isfn37 (c_wordsNeededUnbound _ (by omega) _) rfl ?_
  rintro _ _ ⟨rfl, rfl⟩
  refine st (y_assign rfl) rfl ?_
  refine l_nil ?_
  refine q_then ?_
  refine c_ret ?_
  refine q_end1 (.inl rfl) rfl rfl ?_
  exact ⟨_, rfl, rfl, rfl⟩














































































































































































































































































































































































































































































































end Go.Proofs.YtkemlhhpakjojaaDoor

/- ReadFrom over a reader of bytes: the bytes of a set, those of the empty one, bytes that are cut; each by its contract. -/
set_option linter.unusedVariables false
set_option linter.unusedSimpArgs false
set_option maxRecDepth 100000
set_option maxHeartbeats 2000000
namespace Go.Proofs.YtkemlhhpakjojaaDoor
open Go Go.RowKit

theorem setB_split (s : List Bool) : setB s = be8 s.length ++ byt (pack s) := by unfold setB byt; rw [List.flatMap_cons]
theorem head8 {xs : List Nat} {s : List Bool} {k : Nat} (h : xs.take k = (setB s).take k) (hk : 8 ≤ k) : xs.take 8 = be8 s.length := by
  have e : xs.take 8 = (xs.take k).take 8 := by rw [List.take_take, Nat.min_eq_left hk]
  rw [e, h, List.take_take, Nat.min_eq_left hk, setB_split, List.take_left' (be8_len _)]
theorem tail8 {xs : List Nat} {s : List Bool} (h : xs.take (setB s).length = setB s) : (xs.drop 8).take (8 * nW s.length) = byt (pack s) := by
  have hl := setB_len s
  have e : (xs.drop 8).take (8 * nW s.length) = (xs.take (setB s).length).drop 8 := by rw [List.drop_take, hl, show 8 + 8 * nW s.length - 8 = 8 * nW s.length by omega]
  rw [e, h, setB_split, List.drop_left' (be8_len _)]
theorem un8_be8 {x : Nat} (hx : x < 18446744073709551616) : un8 (be8 x) 0 = x :=
  un8_of hx fun t ht => by rw [Nat.zero_add, be8_getD ht]
theorem pw8 {ys : List Nat} (h : ys.length = 8) : pw (List.replicate 8 0) 0 ys = ys := by
  rw [pw_zero, h]; simp

theorem c_isLEM0 (p : Nat) (A : Option Addr) (c : Nat) (w : World) (hst : Blk w p 48 [vU 0, .slice A 0 c]) :
    Cal Tryd.prog 35 [vP p] w fun v w' => v = vB true ∧ w = w' := by
  refine go_in' Tryd.func35 rfl Tryd.ntmps35 (Nat.le_of_ble_eq_true rfl) ?_
  refine c_seq ?_
  refine c_region ?_
  refine st (y_assign rfl) rfl ?_
  refine l_nil ?_
  refine q_then ?_
  refine c_seq ?_
  refine c_region ?_
  refine st (y_move rfl) rfl ?_
  refine st (y_nil rfl) rfl ?_
  refine st (fa48_0 rfl) rfl ?_
  refine st (y_loadb rfl one22 (by assumption) (by rfl)) rfl ?_
  refine sc rfl rfl isfn31 (c_wordsIndex 0 (by omega) _) rfl ?_
  rintro _ _ ⟨rfl, rfl⟩
  rw [show 0 &&& 63 = 0 from rfl]
  refine st_t (y_eq_u (b := 0) rfl rfl) (by omega) rfl ?_
  refine st (y_assign rfl) rfl ?_
  refine l_nil ?_
  refine q_then ?_
  refine c_ret ?_
  refine q_end1 (.inl rfl) rfl rfl ?_
  exact ⟨_, rfl, rfl, rfl⟩

theorem c_clean0 (p : Nat) (A : Option Addr) (c : Nat) (w : World) (hst : Blk w p 48 [vU 0, .slice A 0 c]) :
    Cal Tryd.prog 27 [vP p] w fun v w' => v = vT [] ∧ w = w' := by
  refine go_in' Tryd.func27 rfl Tryd.ntmps27 (Nat.le_of_ble_eq_true rfl) ?_
  refine c_seq ?_
  refine c_region ?_
  refine st (y_move rfl) rfl ?_
  refine sc rfl rfl isfn35 (c_isLEM0 p A c _ hst) rfl ?_
  rintro _ _ ⟨rfl, rfl⟩
  refine st (y_not rfl) rfl ?_
  refine l_nil ?_
  refine q_then ?_
  refine c_false rfl rfl ?_
  refine c_skip ?_
  refine q_end0 (.inr rfl) rfl ?_
  exact ⟨_, rfl, rfl, rfl⟩

theorem c_wordCount0 (p : Nat) (A : Option Addr) (c : Nat) (w : World) (hst : Blk w p 48 [vU 0, .slice A 0 c]) :
    Cal Tryd.prog 36 [vP p] w fun v w' => v = vI ((0 : Nat) : Int) ∧ w = w' := by
  refine go_in' Tryd.func36 rfl Tryd.ntmps36 (Nat.le_of_ble_eq_true rfl) ?_
  refine c_seq ?_
  refine c_region ?_
  refine st (y_assign (v := vI ((0 : Nat) : Int)) rfl) rfl ?_
  refine l_nil ?_
  refine q_then ?_
  refine c_seq ?_
  refine c_region ?_
  refine st (y_move rfl) rfl ?_
  refine st (y_nil rfl) rfl ?_
  refine st (fa48_0 rfl) rfl ?_
  refine st (y_loadb rfl one22 (by assumption) (by rfl)) rfl ?_
  refine sc rfl rfl isfn37 (c_wordsNeededUnbound 0 (by omega) _) rfl ?_
  rintro _ _ ⟨rfl, rfl⟩
  refine st (y_assign rfl) rfl ?_
  refine l_nil ?_
  refine q_then ?_
  refine c_ret ?_
  refine q_end1 (.inl rfl) rfl rfl ?_
  exact ⟨_, rfl, rfl, rfl⟩

theorem c_BSS0 (p : Nat) (A : Option Addr) (c : Nat) (w : World) (hst : Blk w p 48 [vU 0, .slice A 0 c]) :
    Cal Tryd.prog 28 [vP p] w fun v w' => v = vI ((8 : Nat) : Int) ∧ w = w' := by
  refine go_in' Tryd.func28 rfl Tryd.ntmps28 (Nat.le_of_ble_eq_true rfl) ?_
  refine c_seq ?_
  refine c_region ?_
  refine st (y_assign (v := vI ((0 : Nat) : Int)) rfl) rfl ?_
  refine l_nil ?_
  refine q_then ?_
  refine c_seq ?_
  refine c_region ?_
  refine st (y_move rfl) rfl ?_
  refine sc rfl rfl isfn36 (c_wordCount0 p A c _ hst) rfl ?_
  rintro _ _ ⟨rfl, rfl⟩
  first | refine st (y_mul_in (a := 8) rfl rfl (by omega)) rfl ?_ | refine st (y_mul_i (a := 8) rfl rfl (by omega) (by omega)) rfl ?_
  first | refine st (y_add_in (a := 8) rfl rfl (by omega)) rfl ?_ | refine st (y_add_i (a := 8) rfl rfl (by omega) (by omega)) rfl ?_
  refine st (y_assign rfl) rfl ?_
  refine l_nil ?_
  refine q_then ?_
  refine c_ret ?_
  refine q_end1 (.inl rfl) rfl rfl ?_
  exact ⟨_, rfl, rfl, rfl⟩

theorem c_BSS (p q : Nat) (s : List Bool) (w : World) (hB : BSet w p q s) (hs : s.length ≤ 6001) :
    Cal Tryd.prog 28 [vP p] w fun v w' => v = vI ((setB s).length : Nat) ∧ w = w' := by
  have hn : nW s.length ≤ 100 := by unfold nW; omega
  have hl := setB_len s
  have hpl := pack_length s
  refine go_in' Tryd.func28 rfl Tryd.ntmps28 (Nat.le_of_ble_eq_true rfl) ?_
  refine c_seq ?_
  refine c_region ?_
  refine st (y_assign (v := vI ((0 : Nat) : Int)) rfl) rfl ?_
  refine l_nil ?_
  refine q_then ?_
  refine c_seq ?_
  refine c_region ?_
  refine st (y_move rfl) rfl ?_
  refine sc rfl rfl isfn36 (c_wordCount p q s _ hB (by omega)) rfl ?_
  rintro _ _ ⟨rfl, rfl⟩
  first | refine st (y_mul_in (a := 8) rfl rfl (by omega)) rfl ?_ | refine st (y_mul_i (a := 8) rfl rfl (by omega) (by omega)) rfl ?_
  first | refine st (y_add_in (a := 8) rfl rfl (by omega)) rfl ?_ | refine st (y_add_i (a := 8) rfl rfl (by omega) (by omega)) rfl ?_
  refine st (y_assign rfl) rfl ?_
  refine l_nil ?_
  refine q_then ?_
  refine c_ret ?_
  refine q_end1 (.inl rfl) rfl rfl ?_
  exact ⟨_, rfl, by rw [hl, ← hpl], rfl⟩

/-- the set at p is s; it has no words where it is empty, else words that are new -/
def Rset (base : Nat) (w : World) (p : Nat) (s : List Bool) : Prop := (s = [] ∧ Blk w p 48 [vU 0, .slice none 0 0]) ∨ ∃ q, base ≤ q ∧ BSet w p q s

theorem c_ReadFrom0 (p rb db N c : Nat) (xs : List Nat) (T1 : TypeId) (w : World) (hp : Blk w p 48 [vU 0, .slice none 0 0]) (hr : Blk w rb 74 [vS db N c, vI ((0 : Nat) : Int), vI (-1)]) (hD : Blk w db T1 (xs.map v8)) (hN : N ≤ xs.length) (hNm : N ≤ 1000000) (hc : N ≤ c)
    (hx : xs.take 8 = be8 0) (h8 : 8 ≤ N) (h1 : rb ≠ db) (h2 : p ≠ rb) (h3 : p ≠ db) :
    Cal Tryd.prog 17 [vP p, .iface 56 (vP rb)] w fun v w' => v = vT [vI ((8 : Nat) : Int), .nilIface] ∧ Blk w' p 48 [vU 0, .slice none 0 0] ∧ Keep w w' [p, rb] := by
  have hpl := hp.lt
  have hrl := hr.lt
  have hdl := hD.lt
  refine go_in' Tryd.func17 rfl Tryd.ntmps17 (Nat.le_of_ble_eq_true rfl) ?_
  refine c_seq ?_
  refine c_region ?_
  refine st (y_assign (v := vI ((0 : Nat) : Int)) rfl) rfl ?_
  refine st (y_assign rfl) rfl ?_
  refine l_nil ?_
  refine q_then ?_
  refine c_seq ?_
  refine c_region ?_
  refine st (y_assign (v := vU 0) rfl) rfl ?_
  refine l_nil ?_
  refine q_then ?_
  refine c_seq ?_
  refine c_region ?_
  refine st_alloc [.int .u8 0, .int .u8 0, .int .u8 0, .int .u8 0, .int .u8 0, .int .u8 0, .int .u8 0, .int .u8 0] zv63 rfl rfl ?_
  intro b7 w1 hb7 hB7 hK1 hS1
  have hB7' : Blk w1 b7 63 ((List.replicate 8 0).map v8) := hB7
  have hp1 := hp.keep hK1 (by simp)
  have hr1 := hr.keep hK1 (by simp)
  have hD1 := hD.keep hK1 (by simp)
  clear hp hr hD hB7
  refine l_nil ?_
  refine q_then ?_
  refine c_seq ?_
  refine c_region ?_
  refine st (y_move rfl) rfl ?_
  refine st (y_sliceArr rfl Tryd.underlying63 sz5) rfl ?_
  refine sc rfl rfl isfn22 (c_RFok rb db 0 N c b7 8 8 xs (List.replicate 8 0) T1 _ _ hr1 hD1 hN hNm hc hB7' (by simp) (by omega) (by omega) (by omega) h1 (by omega) (by omega)) rfl ?_
  rintro _ w2 ⟨rfl, hr2, hB2, hK2⟩
  rw [List.drop_zero, hx, pw8 (be8_len _)] at hB2
  have hp2 := hp1.keep hK2 (by simp only [List.mem_cons, List.not_mem_nil, or_false]; omega)
  have hB2d := hB2.drew
  refine st (y_move rfl) rfl ?_
  refine st (y_extract rfl rfl) rfl ?_
  refine st (y_extract rfl rfl) rfl ?_
  refine st (y_assign rfl) rfl ?_
  refine st (y_assign rfl) rfl ?_
  refine l_nil ?_
  refine q_then ?_
  refine c_seq ?_
  refine c_tail 2 mixed (by kernel_rfl) ?_
  refine ss (y_load0 rfl agg67 us67 sz67) rfl ?_
  refine ss (y_sliceArr rfl Tryd.underlying63 sz5) rfl ?_
  refine s_nil ?_
  show wpL _ _ _ _ _ _ _ _
  refine sc rfl rfl isfn23 (c_Uint64 b7 0 8 8 _ (be8 0) _ hB2d (be8_lt _) (by omega) (by rw [be8_len]; omega)) rfl ?_
  rintro _ w3 ⟨rfl, hK3⟩
  rw [un8_be8 (by omega)]
  have hp3 := (hp2.drew).keep hK3 (by simp)
  clear hp1 hp2
  refine st (y_assign rfl) rfl ?_
  refine l_nil ?_
  refine q_then ?_
  refine c_seq ?_
  refine c_seq ?_
  refine c_region ?_
  refine st (y_move rfl) rfl ?_
  refine st (y_neqI rfl ifErr) rfl ?_
  refine l_nil ?_
  refine q_then ?_
  refine c_false rfl rfl ?_
  refine c_skip ?_
  refine q_then ?_
  refine c_seq ?_
  refine c_region ?_
  refine st (y_move rfl) rfl ?_
  refine st (y_assign rfl) rfl ?_
  refine l_nil ?_
  refine q_then ?_
  refine c_seq ?_
  refine c_seq ?_
  refine c_region ?_
  refine st (y_move rfl) rfl ?_
  refine st (y_move rfl) rfl ?_
  refine st_f (y_ne_u rfl rfl) (by omega) rfl ?_
  refine l_nil ?_
  refine q_then ?_
  refine c_false rfl rfl ?_
  refine c_skip ?_
  refine q_then ?_
  refine c_seq ?_
  refine c_region ?_
  refine st (y_move rfl) rfl ?_
  refine sc rfl rfl isfn25 (c_wordsNeeded 0 (by omega) _) rfl ?_
  rintro _ _ ⟨rfl, rfl⟩
  rw [show nW 0 = 0 from rfl]
  refine st (y_assign rfl) rfl ?_
  refine l_nil ?_
  refine q_then ?_
  refine c_seq ?_
  refine c_seq ?_
  refine c_region ?_
  refine st (y_move rfl) rfl ?_
  refine st (y_nil rfl) rfl ?_
  refine st (fa48_1 rfl) rfl ?_
  refine st (y_loadb rfl one42 (by assumption) (by rfl)) rfl ?_
  refine st (y_cap rfl Tryd.underlying42) rfl ?_
  refine st (y_move rfl) rfl ?_
  refine st_t (y_ge_i rfl rfl) (by omega) rfl ?_
  refine l_nil ?_
  refine q_then ?_
  refine c_true rfl rfl ?_
  refine c_region ?_
  refine st (y_move rfl) rfl ?_
  refine st (y_move rfl) rfl ?_
  refine st (y_nil rfl) rfl ?_
  refine st (fa48_1 rfl) rfl ?_
  refine st (y_loadb rfl one42 (by assumption) (by rfl)) rfl ?_
  refine st (y_move rfl) rfl ?_
  refine st (y_slice_h rfl rfl Tryd.underlying42 sz43 (Nat.le_refl _)) rfl ?_
  refine st (y_nil rfl) rfl ?_
  refine st (fa48_1 rfl) rfl ?_
  refine st_store rfl rfl rfl sz42 (by assumption) (by first | simp | (simp; omega)) rfl ?_
  intro w4 hp4 hK4 hS4
  clear hp3
  have hp4' : Blk w4 p 48 [vU 0, .slice none 0 0] := hp4
  clear hp4
  refine l_nil ?_
  refine q_then ?_
  refine c_seq ?_
  refine c_region ?_
  refine st (y_move rfl) rfl ?_
  refine st (y_move rfl) rfl ?_
  refine st (y_nil rfl) rfl ?_
  refine st (fa48_0 rfl) rfl ?_
  refine st_store rfl rfl rfl sz22 (by assumption) (by first | simp | (simp; omega)) rfl ?_
  intro w5 hp5 hK5 hS5
  clear hp4'
  have hp5' : Blk w5 p 48 [vU 0, .slice none 0 0] := hp5
  clear hp5
  refine l_nil ?_
  refine q_then ?_
  refine c_seq ?_
  refine c_region ?_
  refine st (y_move rfl) rfl ?_
  refine st (y_move rfl) rfl ?_
  refine st (y_nil rfl) rfl ?_
  refine st (fa48_1 rfl) rfl ?_
  refine st (y_loadb rfl one42 (by assumption) (by rfl)) rfl ?_
  refine sc rfl rfl isfn26 (c_rU64zero rb 0 none _) rfl ?_
  rintro _ w6 ⟨rfl, hK6⟩
  have hp6 := hp5'.keep hK6 (by simp)
  refine st (y_assign rfl) rfl ?_
  refine l_nil ?_
  refine q_then ?_
  refine c_seq ?_
  refine c_seq ?_
  refine c_region ?_
  refine st (y_move rfl) rfl ?_
  refine st (y_neqI rfl ifErr) rfl ?_
  refine l_nil ?_
  refine q_then ?_
  refine c_false rfl rfl ?_
  refine c_skip ?_
  refine q_then ?_
  refine c_seq ?_
  refine c_region ?_
  refine st (y_move rfl) rfl ?_
  refine sc rfl rfl isfn27 (c_clean0 p none 0 _ hp6) rfl ?_
  rintro _ _ ⟨rfl, rfl⟩
  refine l_nil ?_
  refine q_then ?_
  refine c_seq ?_
  refine c_region ?_
  refine st (y_move rfl) rfl ?_
  refine sc rfl rfl isfn28 (c_BSS0 p none 0 _ hp6) rfl ?_
  rintro _ _ ⟨rfl, rfl⟩
  refine st (y_assign rfl) rfl ?_
  refine st (y_assign rfl) rfl ?_
  refine l_nil ?_
  refine q_then ?_
  refine c_ret ?_
  refine q_end2 (.inl rfl) rfl rfl rfl ?_
  have hK12 : Keep w w2 [p, rb] := (hK1.mono (fun i hi => by cases hi)).trans hK2 (fun i hi => by simp only [List.mem_cons, List.not_mem_nil, or_false] at hi ⊢; omega)
  have hK13 : Keep w w3 [p, rb] := (hK12.trans (Keep.drew w2 []) (by simp)).trans hK3 (by simp)
  have hK15 : Keep w w5 [p, rb] := (hK13.trans hK4 (by simp)).trans hK5 (by simp)
  exact ⟨_, rfl, rfl, hp6, hK15.trans hK6 (by simp)⟩

theorem c_ReadFrom1 (p rb db N c : Nat) (xs : List Nat) (s : List Bool) (T1 : TypeId) (w : World) (hp : Blk w p 48 [vU 0, .slice none 0 0]) (hr : Blk w rb 74 [vS db N c, vI ((0 : Nat) : Int), vI (-1)]) (hD : Blk w db T1 (xs.map v8)) (hN : N ≤ xs.length) (hNm : N ≤ 1000000) (hc : N ≤ c)
    (hx : xs.take (setB s).length = setB s) (hle : (setB s).length ≤ N) (hs0 : 0 < s.length) (hs : s.length ≤ 6001) (h1 : rb ≠ db) (h2 : p ≠ rb) (h3 : p ≠ db) :
    Cal Tryd.prog 17 [vP p, .iface 56 (vP rb)] w fun v w' => v = vT [vI ((setB s).length : Nat), .nilIface] ∧ (∃ q, w.heap.size ≤ q ∧ BSet w' p q s) ∧ Keep w w' [p, rb] := by
  have hpl := hp.lt
  have hrl := hr.lt
  have hdl := hD.lt
  have hsl := setB_len s
  have hx8 := head8 (k := (setB s).length) (by rw [hx, List.take_length]) (by omega)
  have hxt := tail8 hx
  obtain ⟨n, hn⟩ : ∃ n, nW s.length = n := ⟨_, rfl⟩
  have hn0 : 0 < n := by rw [← hn]; exact nW_pos hs0
  have hn101 : n ≤ 101 := by rw [← hn]; unfold nW; omega
  have hpk := pack_length s
  rw [hn] at hsl hxt hpk
  refine go_in' Tryd.func17 rfl Tryd.ntmps17 (Nat.le_of_ble_eq_true rfl) ?_
  refine c_seq ?_
  refine c_region ?_
  refine st (y_assign (v := vI ((0 : Nat) : Int)) rfl) rfl ?_
  refine st (y_assign rfl) rfl ?_
  refine l_nil ?_
  refine q_then ?_
  refine c_seq ?_
  refine c_region ?_
  refine st (y_assign (v := vU 0) rfl) rfl ?_
  refine l_nil ?_
  refine q_then ?_
  refine c_seq ?_
  refine c_region ?_
  refine st_alloc [.int .u8 0, .int .u8 0, .int .u8 0, .int .u8 0, .int .u8 0, .int .u8 0, .int .u8 0, .int .u8 0] zv63 rfl rfl ?_
  intro b7 w1 hb7 hB7 hK1 hS1
  have hB7' : Blk w1 b7 63 ((List.replicate 8 0).map v8) := hB7
  have hp1 := hp.keep hK1 (by simp)
  have hr1 := hr.keep hK1 (by simp)
  have hD1 := hD.keep hK1 (by simp)
  clear hp hr hD hB7
  refine l_nil ?_
  refine q_then ?_
  refine c_seq ?_
  refine c_region ?_
  refine st (y_move rfl) rfl ?_
  refine st (y_sliceArr rfl Tryd.underlying63 sz5) rfl ?_
  refine sc rfl rfl isfn22 (c_RFok rb db 0 N c b7 8 8 xs (List.replicate 8 0) T1 _ _ hr1 hD1 hN hNm hc hB7' (by simp) (by omega) (by omega) (by omega) h1 (by omega) (by omega)) rfl ?_
  rintro _ w2 ⟨rfl, hr2, hB2, hK2⟩
  rw [List.drop_zero, hx8, pw8 (be8_len _)] at hB2
  have hp2 := hp1.keep hK2 (by simp only [List.mem_cons, List.not_mem_nil, or_false]; omega)
  have hD2 := hD1.keep hK2 (by simp only [List.mem_cons, List.not_mem_nil, or_false]; omega)
  have hB2d := hB2.drew
  refine st (y_move rfl) rfl ?_
  refine st (y_extract rfl rfl) rfl ?_
  refine st (y_extract rfl rfl) rfl ?_
  refine st (y_assign rfl) rfl ?_
  refine st (y_assign rfl) rfl ?_
  refine l_nil ?_
  refine q_then ?_
  refine c_seq ?_
  refine c_tail 2 mixed (by kernel_rfl) ?_
  refine ss (y_load0 rfl agg67 us67 sz67) rfl ?_
  refine ss (y_sliceArr rfl Tryd.underlying63 sz5) rfl ?_
  refine s_nil ?_
  show wpL _ _ _ _ _ _ _ _
  refine sc rfl rfl isfn23 (c_Uint64 b7 0 8 8 _ (be8 s.length) _ hB2d (be8_lt _) (by omega) (by rw [be8_len]; omega)) rfl ?_
  rintro _ w3 ⟨rfl, hK3⟩
  rw [un8_be8 (by omega)]
  have hp3 := (hp2.drew).keep hK3 (by simp)
  have hr3 := (hr2.drew).keep hK3 (by simp)
  have hD3 := (hD2.drew).keep hK3 (by simp)
  have hK12 : Keep w w2 [p, rb] := (hK1.mono (fun i hi => by cases hi)).trans hK2 (fun i hi => by simp only [List.mem_cons, List.not_mem_nil, or_false] at hi ⊢; omega)
  have hK13 : Keep w w3 [p, rb] := (hK12.trans (Keep.drew w2 []) (by simp)).trans hK3 (by simp)
  have hsz3 := hK13.size
  clear hp1 hp2 hr1 hr2 hD1 hD2
  refine st (y_assign rfl) rfl ?_
  refine l_nil ?_
  refine q_then ?_
  refine c_seq ?_
  refine c_seq ?_
  refine c_region ?_
  refine st (y_move rfl) rfl ?_
  refine st (y_neqI rfl ifErr) rfl ?_
  refine l_nil ?_
  refine q_then ?_
  refine c_false rfl rfl ?_
  refine c_skip ?_
  refine q_then ?_
  refine c_seq ?_
  refine c_region ?_
  refine st (y_move rfl) rfl ?_
  refine st (y_assign rfl) rfl ?_
  refine l_nil ?_
  refine q_then ?_
  refine c_seq ?_
  refine c_seq ?_
  refine c_region ?_
  refine st (y_move rfl) rfl ?_
  refine st (y_move rfl) rfl ?_
  refine st_f (y_ne_u rfl rfl) (by omega) rfl ?_
  refine l_nil ?_
  refine q_then ?_
  refine c_false rfl rfl ?_
  refine c_skip ?_
  refine q_then ?_
  refine c_seq ?_
  refine c_region ?_
  refine st (y_move rfl) rfl ?_
  refine sc rfl rfl isfn25 (c_wordsNeeded s.length (by omega) _) rfl ?_
  rintro _ _ ⟨rfl, rfl⟩
  rw [hn]
  refine st (y_assign rfl) rfl ?_
  refine l_nil ?_
  refine q_then ?_
  refine c_seq ?_
  refine c_seq ?_
  refine c_region ?_
  refine st (y_move rfl) rfl ?_
  refine st (y_nil rfl) rfl ?_
  refine st (fa48_1 rfl) rfl ?_
  refine st (y_loadb rfl one42 (by assumption) (by rfl)) rfl ?_
  refine st (y_cap rfl Tryd.underlying42) rfl ?_
  refine st (y_move rfl) rfl ?_
  refine st_f (y_ge_i rfl rfl) (by omega) rfl ?_
  refine l_nil ?_
  refine q_then ?_
  refine c_false rfl rfl ?_
  refine c_region ?_
  refine st (y_move rfl) rfl ?_
  refine st (y_move rfl) rfl ?_
  refine mk42 rfl rfl (by omega) (by omega) rfl ?_
  intro q w4 hq hB4 hK4 hS4
  have hp4 := hp3.keep hK4 (by simp)
  have hr4 := hr3.keep hK4 (by simp)
  have hD4 := hD3.keep hK4 (by simp)
  clear hp3 hr3 hD3
  have hpq : p ≠ q := by omega
  refine st (y_nil rfl) rfl ?_
  refine st (fa48_1 rfl) rfl ?_
  refine st_store rfl rfl rfl sz42 (by assumption) (by first | simp | (simp; omega)) rfl ?_
  intro w5 hp5 hK5 hS5
  clear hp4
  have hp5' : Blk w5 p 48 [vU 0, vS q n n] := hp5
  clear hp5
  have hB5 := hB4.keep hK5 (by simp only [List.mem_singleton]; omega)
  have hr5 := hr4.keep hK5 (by simp only [List.mem_singleton]; omega)
  have hD5 := hD4.keep hK5 (by simp only [List.mem_singleton]; omega)
  clear hr4 hD4
  refine l_nil ?_
  refine q_then ?_
  refine c_seq ?_
  refine c_region ?_
  refine st (y_move rfl) rfl ?_
  refine st (y_move rfl) rfl ?_
  refine st (y_nil rfl) rfl ?_
  refine st (fa48_0 rfl) rfl ?_
  refine st_store rfl rfl rfl sz22 (by assumption) (by first | simp | (simp; omega)) rfl ?_
  intro w6 hp6 hK6 hS6
  clear hp5'
  have hp6' : Blk w6 p 48 [vU s.length, vS q n n] := hp6
  clear hp6
  have hB6 := hB5.keep hK6 (by simp only [List.mem_singleton]; omega)
  have hr6 := hr5.keep hK6 (by simp only [List.mem_singleton]; omega)
  have hD6 := hD5.keep hK6 (by simp only [List.mem_singleton]; omega)
  clear hr5 hD5
  refine l_nil ?_
  refine q_then ?_
  refine c_seq ?_
  refine c_region ?_
  refine st (y_move rfl) rfl ?_
  refine st (y_move rfl) rfl ?_
  refine st (y_nil rfl) rfl ?_
  refine st (fa48_1 rfl) rfl ?_
  refine st (y_loadb rfl one42 (by assumption) (by rfl)) rfl ?_
  refine sc rfl rfl isfn26 (c_rU64ok rb db (0 + 8) N c q n xs (pack s) T1 _ hr6 hD6 hN hNm hc hB6 hn0 hn101 (by omega) hpk (pack_lt s) hxt h1 (by omega) (by omega)) rfl ?_
  rintro _ w7 ⟨rfl, hB7, hK7⟩
  have hp7 := hp6'.keep hK7 (by simp only [List.mem_cons, List.not_mem_nil, or_false]; omega)
  have hW : BW w7 p q s.length (pack s) [] := ⟨by rw [hpk]; exact hp7, by rw [List.append_nil]; exact hB7, hpq, pack_lt s, by rw [hpk, List.length_nil]; omega⟩
  refine st (y_assign rfl) rfl ?_
  refine l_nil ?_
  refine q_then ?_
  refine c_seq ?_
  refine c_seq ?_
  refine c_region ?_
  refine st (y_move rfl) rfl ?_
  refine st (y_neqI rfl ifErr) rfl ?_
  refine l_nil ?_
  refine q_then ?_
  refine c_false rfl rfl ?_
  refine c_skip ?_
  refine q_then ?_
  refine c_seq ?_
  refine c_region ?_
  refine st (y_move rfl) rfl ?_
  refine sc rfl rfl isfn27 (c_cleanLastWord p q s.length (pack s) [] _ hW (by omega) (by rw [hpk, hn])) rfl ?_
  rintro _ w8 ⟨rfl, ⟨ws', hW8, hl8, hb8⟩, hK8⟩
  have hS8 : BSet w8 p q s := hW8.bset (by rw [hl8, hpk, hn]) fun i _ => by
    rw [hb8, wbit_pack]
    rcases Nat.lt_or_ge i s.length with hi | hi
    · simp [hi]
    · rw [List.getD_eq_getElem?_getD, List.getElem?_eq_none hi]; rfl
  refine l_nil ?_
  refine q_then ?_
  refine c_seq ?_
  refine c_region ?_
  refine st (y_move rfl) rfl ?_
  refine sc rfl rfl isfn28 (c_BSS p q s _ hS8 hs) rfl ?_
  rintro _ _ ⟨rfl, rfl⟩
  refine st (y_assign rfl) rfl ?_
  refine st (y_assign rfl) rfl ?_
  refine l_nil ?_
  refine q_then ?_
  refine c_ret ?_
  refine q_end2 (.inl rfl) rfl rfl rfl ?_
  have hK16 : Keep w w6 [p, rb] := ((hK13.trans hK4 (by simp)).trans hK5 (by simp)).trans hK6 (by simp)
  have hK17 : Keep w w7 [p, rb] := hK16.trans hK7 (fun i hi => by simp only [List.mem_cons, List.not_mem_nil, or_false] at hi ⊢; omega)
  exact ⟨_, rfl, rfl, ⟨q, by omega, hS8⟩, hK17.trans hK8 (fun i hi => by simp only [List.mem_cons, List.not_mem_nil, or_false] at hi ⊢; omega)⟩

end Go.Proofs.YtkemlhhpakjojaaDoor

/- ReadFrom over bytes that are cut: an error; UnmarshalBinary, the thin package's Unmarshal and Read; each by its contract. -/
set_option linter.unusedVariables false
set_option linter.unusedSimpArgs false
set_option maxRecDepth 100000
set_option maxHeartbeats 2000000
namespace Go.Proofs.YtkemlhhpakjojaaDoor
open Go Go.RowKit

/-- the two errors are held against each other: some answer -/
theorem eq_some {B : Nat} {w : World} {e1 e2 e : Addr} {g1 g2 : Nat} (hE1 : Sen B w g1 80 e1) (hE2 : Sen B w g2 80 e2) (he : e = e1 ∨ e = e2) :
    ∃ b : Bool, ∀ {F : Fr} {T t' : TypeId} {x y : Operand}, ev F x = some (.iface 80 (.pointer (some e))) → ev F y = some (.iface 80 (.pointer (some e1))) → Zv Tryd.prog w F (.binOp .eql 50 x y t') T (.bool b) w := by
  by_cases h : e = e1
  · subst h
    exact ⟨true, fun hx hy => y_eqPS hx hy eqErr⟩
  · have h2 : e = e2 := he.resolve_left h
    subst h2
    obtain ⟨c1, t1, hc1⟩ := hE1.heap
    obtain ⟨c2, t2, hc2⟩ := hE2.heap
    exact ⟨false, fun hx hy => y_eqPO hx hy eqErr h hc2 hc1⟩

theorem c_ReadFromErr (p rb N c B : Nat) (A : Option Addr) (db : Nat) (xs : List Nat) (s : List Bool) (T1 : TypeId) (e1 e2 : Addr) (w : World) (hp : Blk w p 48 [vU 0, .slice none 0 0]) (hr : Blk w rb 74 [.slice A N c, vI ((0 : Nat) : Int), vI (-1)]) (hD : 0 < N → A = some ⟨db, 0, none⟩ ∧ Blk w db T1 (xs.map v8) ∧ N ≤ xs.length ∧ N ≤ c ∧ rb ≠ db ∧ p ≠ db) (hx8 : ∀ x ∈ xs, x < 256)
    (hx : xs.take N = (setB s).take N) (hlt : N < (setB s).length) (hs : s.length ≤ 6001) (h2 : p ≠ rb) (hE1 : Sen B w 1 80 e1) (hE2 : Sen B w 2 80 e2) (hrB : B ≤ rb) (hpB : B ≤ p) :
    Cal Tryd.prog 17 [vP p, .iface 56 (vP rb)] w fun v w' => ∃ e, v = vT [vI ((0 : Nat) : Int), .iface 80 (.pointer (some e))] ∧ Keep w w' [p, rb] := by
  have hpl := hp.lt
  have hrl := hr.lt
  have hsl := setB_len s
  have hBs := hE1.size
  have hpB2 : ∀ i, i ∈ [p, rb] → B ≤ i := by
    intro i hi
    simp only [List.mem_cons, List.not_mem_nil, or_false] at hi
    omega
  obtain ⟨n, hn⟩ : ∃ n, nW s.length = n := ⟨_, rfl⟩
  have hn101 : n ≤ 101 := by rw [← hn]; unfold nW; omega
  rw [hn] at hsl
  refine go_in' Tryd.func17 rfl Tryd.ntmps17 (Nat.le_of_ble_eq_true rfl) ?_
  refine c_seq ?_
  refine c_region ?_
  refine st (y_assign (v := vI ((0 : Nat) : Int)) rfl) rfl ?_
  refine st (y_assign rfl) rfl ?_
  refine l_nil ?_
  refine q_then ?_
  refine c_seq ?_
  refine c_region ?_
  refine st (y_assign (v := vU 0) rfl) rfl ?_
  refine l_nil ?_
  refine q_then ?_
  refine c_seq ?_
  refine c_region ?_
  refine st_alloc [.int .u8 0, .int .u8 0, .int .u8 0, .int .u8 0, .int .u8 0, .int .u8 0, .int .u8 0, .int .u8 0] zv63 rfl rfl ?_
  intro b7 w1 hb7 hB7 hK1 hS1
  have hB7' : Blk w1 b7 63 ((List.replicate 8 0).map v8) := hB7
  have hp1 := hp.keep hK1 (by simp)
  have hr1 := hr.keep hK1 (by simp)
  have hE11 := hE1.keep hK1 (by simp)
  have hE21 := hE2.keep hK1 (by simp)
  have hD1 : 0 < N → A = some ⟨db, 0, none⟩ ∧ Blk w1 db T1 (xs.map v8) ∧ N ≤ xs.length ∧ N ≤ c ∧ rb ≠ db ∧ p ≠ db ∧ db ≠ b7 := fun h => by
    obtain ⟨h1, h2, h3, h4, h5, h6⟩ := hD h
    have := h2.lt
    exact ⟨h1, h2.keep hK1 (by simp), h3, h4, h5, h6, by omega⟩
  clear hp hr hB7
  refine l_nil ?_
  refine q_then ?_
  refine c_seq ?_
  refine c_region ?_
  refine st (y_move rfl) rfl ?_
  refine st (y_sliceArr rfl Tryd.underlying63 sz5) rfl ?_
  rcases Nat.lt_or_ge N 8 with hN8 | hN8
  · refine sc rfl rfl isfn22 (c_RFerr rb 0 N c b7 8 8 B A db xs (List.replicate 8 0) T1 _ e1 e2 _ hr1 (Nat.zero_le _) (fun h => by obtain ⟨h1, h2, h3, h4, h5, h6, h7⟩ := hD1 h; exact ⟨h1, h2, h3, h4, h5, h7⟩) hx8 (by omega) hB7' (fun x hx => by have := List.eq_of_mem_replicate hx; omega) (by simp) (by omega) (by omega) (by omega) (by omega) hE11 hE21 hrB (by omega)) rfl ?_
    rintro _ w2 ⟨e, he, rfl, ⟨l', hl', hl8', hB2⟩, hK2⟩
    rw [List.length_replicate] at hl'
    have hB2d := hB2.drew
    have hkB2 : ∀ i, i ∈ [rb, b7] → B ≤ i := by
      intro i hi
      simp only [List.mem_cons, List.not_mem_nil, or_false] at hi
      omega
    have hE12 := (hE11.keep hK2 hkB2).keep (Keep.drew w2 []) (by simp)
    have hE22 := (hE21.keep hK2 hkB2).keep (Keep.drew w2 []) (by simp)
    refine st (y_move rfl) rfl ?_
    refine st (y_extract rfl rfl) rfl ?_
    refine st (y_extract rfl rfl) rfl ?_
    refine st (y_assign rfl) rfl ?_
    refine st (y_assign rfl) rfl ?_
    refine l_nil ?_
    refine q_then ?_
    refine c_seq ?_
    refine c_tail 2 mixed (by kernel_rfl) ?_
    refine ss (y_load0 rfl agg67 us67 sz67) rfl ?_
    refine ss (y_sliceArr rfl Tryd.underlying63 sz5) rfl ?_
    refine s_nil ?_
    show wpL _ _ _ _ _ _ _ _
    refine sc rfl rfl isfn23 (c_Uint64 b7 0 8 8 _ l' _ hB2d hl8' (by omega) (by omega)) rfl ?_
    rintro _ w3 ⟨rfl, hK3⟩
    have hE13 := hE12.keep hK3 (by simp)
    have hE23 := hE22.keep hK3 (by simp)
    have hc1 := hE13.cell
    have hc2 := hE23.cell
    obtain ⟨bb, hbb⟩ := eq_some hE13 hE23 he
    have hK12 : Keep w w2 [p, rb] := (hK1.mono (fun i hi => by cases hi)).trans hK2 (fun i hi => by simp only [List.mem_cons, List.not_mem_nil, or_false] at hi ⊢; omega)
    have hK13 : Keep w w3 [p, rb] := (hK12.trans (Keep.drew w2 []) (by simp)).trans hK3 (by simp)
    refine st (y_assign rfl) rfl ?_
    refine l_nil ?_
    refine q_then ?_
    refine c_seq ?_
    refine c_seq ?_
    refine c_region ?_
    refine st (y_move rfl) rfl ?_
    refine st (y_neqV rfl ifErr) rfl ?_
    refine l_nil ?_
    refine q_then ?_
    refine c_true rfl rfl ?_
    refine c_seq ?_
    refine c_seq ?_
    refine c_region ?_
    refine st (y_move rfl) rfl ?_
    refine st (y_load rfl one50 hc1) rfl ?_
    refine st (hbb rfl rfl) rfl ?_
    refine l_nil ?_
    refine q_then ?_
    refine c_ifb rfl (fun hb => ?_) (fun hb => ?_)
    · refine c_region ?_
      refine st (y_load rfl one50 hc2) rfl ?_
      refine st (y_assign rfl) rfl ?_
      refine l_nil ?_
      refine q_then ?_
      refine c_seq ?_
      refine c_region ?_
      refine st (y_move rfl) rfl ?_
      refine st (y_assign (v := vI ((0 : Nat) : Int)) rfl) rfl ?_
      refine st (y_assign rfl) rfl ?_
      refine l_nil ?_
      refine q_then ?_
      refine c_ret ?_
      refine q_then_ret ?_
      refine q_end2 (.inl rfl) rfl rfl rfl ?_
      exact ⟨_, rfl, e2, rfl, hK13⟩
    ·
      refine c_skip ?_
      refine q_then ?_
      refine c_seq ?_
      refine c_region ?_
      refine st (y_move rfl) rfl ?_
      refine st (y_assign (v := vI ((0 : Nat) : Int)) rfl) rfl ?_
      refine st (y_assign rfl) rfl ?_
      refine l_nil ?_
      refine q_then ?_
      refine c_ret ?_
      refine q_then_ret ?_
      refine q_end2 (.inl rfl) rfl rfl rfl ?_
      exact ⟨_, rfl, e, rfl, hK13⟩
  ·
    have hx8' := head8 hx hN8
    obtain ⟨rfl, hDb, hN, hc, h1, h3, h4⟩ := hD1 (by omega)
    have hdl := hDb.lt
    refine sc rfl rfl isfn22 (c_RFok rb db 0 N c b7 8 8 xs (List.replicate 8 0) T1 _ _ hr1 hDb hN (by omega) hc hB7' (by simp) (by omega) (by omega) (by omega) h1 (by omega) (by omega)) rfl ?_
    rintro _ w2 ⟨rfl, hr2, hB2, hK2⟩
    rw [List.drop_zero, hx8', pw8 (be8_len _)] at hB2
    have hkB2 : ∀ i, i ∈ [rb, b7] → B ≤ i := by
      intro i hi
      simp only [List.mem_cons, List.not_mem_nil, or_false] at hi
      omega
    have hp2 := hp1.keep hK2 (by simp only [List.mem_cons, List.not_mem_nil, or_false]; omega)
    have hD2 := hDb.keep hK2 (by simp only [List.mem_cons, List.not_mem_nil, or_false]; omega)
    have hE12 := (hE11.keep hK2 hkB2).keep (Keep.drew w2 []) (by simp)
    have hE22 := (hE21.keep hK2 hkB2).keep (Keep.drew w2 []) (by simp)
    have hB2d := hB2.drew
    refine st (y_move rfl) rfl ?_
    refine st (y_extract rfl rfl) rfl ?_
    refine st (y_extract rfl rfl) rfl ?_
    refine st (y_assign rfl) rfl ?_
    refine st (y_assign rfl) rfl ?_
    refine l_nil ?_
    refine q_then ?_
    refine c_seq ?_
    refine c_tail 2 mixed (by kernel_rfl) ?_
    refine ss (y_load0 rfl agg67 us67 sz67) rfl ?_
    refine ss (y_sliceArr rfl Tryd.underlying63 sz5) rfl ?_
    refine s_nil ?_
    show wpL _ _ _ _ _ _ _ _
    refine sc rfl rfl isfn23 (c_Uint64 b7 0 8 8 _ (be8 s.length) _ hB2d (be8_lt _) (by omega) (by rw [be8_len]; omega)) rfl ?_
    rintro _ w3 ⟨rfl, hK3⟩
    rw [un8_be8 (by omega)]
    have hp3 := (hp2.drew).keep hK3 (by simp)
    have hr3 := (hr2.drew).keep hK3 (by simp)
    have hD3 := (hD2.drew).keep hK3 (by simp)
    have hE13 := hE12.keep hK3 (by simp)
    have hE23 := hE22.keep hK3 (by simp)
    have hK12 : Keep w w2 [p, rb] := (hK1.mono (fun i hi => by cases hi)).trans hK2 (fun i hi => by simp only [List.mem_cons, List.not_mem_nil, or_false] at hi ⊢; omega)
    have hK13 : Keep w w3 [p, rb] := (hK12.trans (Keep.drew w2 []) (by simp)).trans hK3 (by simp)
    have hsz3 := hK13.size
    clear hp1 hp2 hr1 hr2 hDb hD2 hE11 hE12 hE21 hE22
    refine st (y_assign rfl) rfl ?_
    refine l_nil ?_
    refine q_then ?_
    refine c_seq ?_
    refine c_seq ?_
    refine c_region ?_
    refine st (y_move rfl) rfl ?_
    refine st (y_neqI rfl ifErr) rfl ?_
    refine l_nil ?_
    refine q_then ?_
    refine c_false rfl rfl ?_
    refine c_skip ?_
    refine q_then ?_
    refine c_seq ?_
    refine c_region ?_
    refine st (y_move rfl) rfl ?_
    refine st (y_assign rfl) rfl ?_
    refine l_nil ?_
    refine q_then ?_
    refine c_seq ?_
    refine c_seq ?_
    refine c_region ?_
    refine st (y_move rfl) rfl ?_
    refine st (y_move rfl) rfl ?_
    refine st_f (y_ne_u rfl rfl) (by omega) rfl ?_
    refine l_nil ?_
    refine q_then ?_
    refine c_false rfl rfl ?_
    refine c_skip ?_
    refine q_then ?_
    refine c_seq ?_
    refine c_region ?_
    refine st (y_move rfl) rfl ?_
    refine sc rfl rfl isfn25 (c_wordsNeeded s.length (by omega) _) rfl ?_
    rintro _ _ ⟨rfl, rfl⟩
    rw [hn]
    refine st (y_assign rfl) rfl ?_
    refine l_nil ?_
    refine q_then ?_
    refine c_seq ?_
    refine c_seq ?_
    refine c_region ?_
    refine st (y_move rfl) rfl ?_
    refine st (y_nil rfl) rfl ?_
    refine st (fa48_1 rfl) rfl ?_
    refine st (y_loadb rfl one42 (by assumption) (by rfl)) rfl ?_
    refine st (y_cap rfl Tryd.underlying42) rfl ?_
    refine st (y_move rfl) rfl ?_
    refine st_f (y_ge_i rfl rfl) (by omega) rfl ?_
    refine l_nil ?_
    refine q_then ?_
    refine c_false rfl rfl ?_
    refine c_region ?_
    refine st (y_move rfl) rfl ?_
    refine st (y_move rfl) rfl ?_
    refine mk42 rfl rfl (by omega) (by omega) rfl ?_
    intro q w4 hq hB4 hK4 hS4
    have hp4 := hp3.keep hK4 (by simp)
    have hr4 := hr3.keep hK4 (by simp)
    have hD4 := hD3.keep hK4 (by simp)
    clear hp3 hr3 hD3
    have hpq : p ≠ q := by omega
    refine st (y_nil rfl) rfl ?_
    refine st (fa48_1 rfl) rfl ?_
    refine st_store rfl rfl rfl sz42 (by assumption) (by first | simp | (simp; omega)) rfl ?_
    intro w5 hp5 hK5 hS5
    clear hp4
    have hp5' : Blk w5 p 48 [vU 0, vS q n n] := hp5
    clear hp5
    have hr5 := hr4.keep hK5 (by simp only [List.mem_singleton]; omega)
    have hD5 := hD4.keep hK5 (by simp only [List.mem_singleton]; omega)
    clear hr4 hD4
    refine l_nil ?_
    refine q_then ?_
    refine c_seq ?_
    refine c_region ?_
    refine st (y_move rfl) rfl ?_
    refine st (y_move rfl) rfl ?_
    refine st (y_nil rfl) rfl ?_
    refine st (fa48_0 rfl) rfl ?_
    refine st_store rfl rfl rfl sz22 (by assumption) (by first | simp | (simp; omega)) rfl ?_
    intro w6 hp6 hK6 hS6
    clear hp5'
    have hp6' : Blk w6 p 48 [vU s.length, vS q n n] := hp6
    clear hp6
    have hr6 := hr5.keep hK6 (by simp only [List.mem_singleton]; omega)
    have hD6 := hD5.keep hK6 (by simp only [List.mem_singleton]; omega)
    clear hr5 hD5
    have hE16 := ((hE13.keep hK4 (by simp)).keep hK5 (by simp only [List.mem_singleton]; omega)).keep hK6 (by simp only [List.mem_singleton]; omega)
    have hE26 := ((hE23.keep hK4 (by simp)).keep hK5 (by simp only [List.mem_singleton]; omega)).keep hK6 (by simp only [List.mem_singleton]; omega)
    refine l_nil ?_
    refine q_then ?_
    refine c_seq ?_
    refine c_region ?_
    refine st (y_move rfl) rfl ?_
    refine st (y_move rfl) rfl ?_
    refine st (y_nil rfl) rfl ?_
    refine st (fa48_1 rfl) rfl ?_
    refine st (y_loadb rfl one42 (by assumption) (by rfl)) rfl ?_
    refine sc rfl rfl isfn26 (c_rU64err rb (0 + 8) N c q n n B (some ⟨db, 0, none⟩) db xs T1 e1 e2 _ hr6 (by omega) (fun _ => ⟨rfl, hD6, hN, hc, h1⟩) hx8 (by omega) hn101 (Nat.le_refl _) (by omega) hE16 hE26 hrB) rfl ?_
    rintro _ w7 ⟨e, he, rfl, hK7⟩
    have hp7 := hp6'.keep hK7 (by simp only [List.mem_singleton]; omega)
    have hE17 := hE16.keep hK7 (by simp only [List.mem_singleton]; omega)
    have hE27 := hE26.keep hK7 (by simp only [List.mem_singleton]; omega)
    have hc1 := hE17.cell
    have hc2 := hE27.cell
    obtain ⟨bb, hbb⟩ := eq_some hE17 hE27 he
    have hK16 : Keep w w6 [p, rb] := ((hK13.trans hK4 (by simp)).trans hK5 (by simp)).trans hK6 (by simp)
    have hK17 : Keep w w7 [p, rb] := hK16.trans hK7 (fun i hi => by simp only [List.mem_cons, List.not_mem_nil, or_false] at hi ⊢; omega)
    clear hp6'
    refine st (y_assign rfl) rfl ?_
    refine l_nil ?_
    refine q_then ?_
    refine c_seq ?_
    refine c_seq ?_
    refine c_region ?_
    refine st (y_move rfl) rfl ?_
    refine st (y_neqV rfl ifErr) rfl ?_
    refine l_nil ?_
    refine q_then ?_
    refine c_true rfl rfl ?_
    refine c_seq ?_
    refine c_seq ?_
    refine c_region ?_
    refine st (y_move rfl) rfl ?_
    refine st (y_load rfl one50 hc1) rfl ?_
    refine st (hbb rfl rfl) rfl ?_
    refine l_nil ?_
    refine q_then ?_
    refine c_ifb rfl (fun hb => ?_) (fun hb => ?_)
    · refine c_region ?_
      refine st (y_load rfl one50 hc2) rfl ?_
      have hst := hp7
      clear hp7
      refine st (y_assign rfl) rfl ?_
      refine l_nil ?_
      refine q_then ?_
      refine c_seq ?_
      refine c_region ?_
      refine st (y_move rfl) rfl ?_
      refine st (y_move rfl) rfl ?_
      refine st (y_nil rfl) rfl ?_
      refine st (fa48_1 rfl) rfl ?_
      refine st (y_loadb rfl one42 (by assumption) (by rfl)) rfl ?_
      refine st (y_slice_h (h := 0) rfl rfl Tryd.underlying42 sz43 (Nat.zero_le _)) rfl ?_
      refine st (y_nil rfl) rfl ?_
      refine st (fa48_1 rfl) rfl ?_
      refine st_store rfl rfl rfl sz42 (by assumption) (by first | simp | (simp; omega)) rfl ?_
      intro w8 hp8 hK8 hS8
      clear hst
      have hp8' : Blk w8 p 48 [vU s.length, vS q 0 n] := hp8
      clear hp8
      refine l_nil ?_
      refine q_then ?_
      refine c_seq ?_
      refine c_region ?_
      refine st (y_move rfl) rfl ?_
      refine st (y_nil rfl) rfl ?_
      refine st (fa48_0 rfl) rfl ?_
      refine st_store rfl rfl rfl sz22 (by assumption) (by first | simp | (simp; omega)) rfl ?_
      intro w9 hp9 hK9 hS9
      refine l_nil ?_
      refine q_then ?_
      refine c_seq ?_
      refine c_region ?_
      refine st (y_move rfl) rfl ?_
      refine st (y_assign (v := vI ((0 : Nat) : Int)) rfl) rfl ?_
      refine st (y_assign rfl) rfl ?_
      refine l_nil ?_
      refine q_then ?_
      refine c_ret ?_
      refine q_then_ret ?_
      refine q_end2 (.inl rfl) rfl rfl rfl ?_
      exact ⟨_, rfl, e2, rfl, (hK17.trans hK8 (by simp)).trans hK9 (by simp)⟩
    ·
      have hst := hp7
      clear hp7
      refine c_skip ?_
      refine q_then ?_
      refine c_seq ?_
      refine c_region ?_
      refine st (y_move rfl) rfl ?_
      refine st (y_move rfl) rfl ?_
      refine st (y_nil rfl) rfl ?_
      refine st (fa48_1 rfl) rfl ?_
      refine st (y_loadb rfl one42 (by assumption) (by rfl)) rfl ?_
      refine st (y_slice_h (h := 0) rfl rfl Tryd.underlying42 sz43 (Nat.zero_le _)) rfl ?_
      refine st (y_nil rfl) rfl ?_
      refine st (fa48_1 rfl) rfl ?_
      refine st_store rfl rfl rfl sz42 (by assumption) (by first | simp | (simp; omega)) rfl ?_
      intro w8 hp8 hK8 hS8
      clear hst
      have hp8' : Blk w8 p 48 [vU s.length, vS q 0 n] := hp8
      clear hp8
      refine l_nil ?_
      refine q_then ?_
      refine c_seq ?_
      refine c_region ?_
      refine st (y_move rfl) rfl ?_
      refine st (y_nil rfl) rfl ?_
      refine st (fa48_0 rfl) rfl ?_
      refine st_store rfl rfl rfl sz22 (by assumption) (by first | simp | (simp; omega)) rfl ?_
      intro w9 hp9 hK9 hS9
      refine l_nil ?_
      refine q_then ?_
      refine c_seq ?_
      refine c_region ?_
      refine st (y_move rfl) rfl ?_
      refine st (y_assign (v := vI ((0 : Nat) : Int)) rfl) rfl ?_
      refine st (y_assign rfl) rfl ?_
      refine l_nil ?_
      refine q_then ?_
      refine c_ret ?_
      refine q_then_ret ?_
      refine q_end2 (.inl rfl) rfl rfl rfl ?_
      exact ⟨_, rfl, e, rfl, (hK17.trans hK8 (by simp)).trans hK9 (by simp)⟩

end Go.Proofs.YtkemlhhpakjojaaDoor

/- UnmarshalBinary, the thin package's Unmarshal and Read: the bytes of a set, and what is cut of them; each by its contract. -/
set_option linter.unusedVariables false
set_option linter.unusedSimpArgs false
set_option maxRecDepth 100000
set_option maxHeartbeats 2000000
namespace Go.Proofs.YtkemlhhpakjojaaDoor
open Go Go.RowKit

theorem getD_take {l : List Nat} {k t : Nat} (h : t < k) : (l.take k).getD t 0 = l.getD t 0 := by
  rw [List.getD_eq_getElem?_getD, List.getD_eq_getElem?_getD, List.getElem?_take_of_lt h]
theorem sm_set {ys : List Nat} {s : List Bool} {k m : Nat} (hx : ys.take k = (setB s).take k) (hk : m ≤ k) (h8 : m ≤ 8) (hs : s.length ≤ 6000) : sm ys m ≤ 6000 := by
  refine Nat.le_trans (sm_le (x := s.length) (by omega) m h8 fun t ht => ?_) hs
  rw [← getD_take (show t < k by omega), hx, getD_take (show t < k by omega), setB_split, List.getD_eq_getElem?_getD, List.getElem?_append_left (by rw [be8_len]; omega), ← List.getD_eq_getElem?_getD, be8_getD (by omega)]
theorem Rset.mono {base base' : Nat} {w : World} {p : Nat} {s : List Bool} (h : Rset base w p s) (hb : base' ≤ base) : Rset base' w p s := by
  rcases h with h | ⟨q, hq, h⟩
  · exact .inl h
  · exact .inr ⟨q, Nat.le_trans hb hq, h⟩

theorem c_ReadFrom (p rb db N c : Nat) (xs : List Nat) (s : List Bool) (T1 : TypeId) (w : World) (hp : Blk w p 48 [vU 0, .slice none 0 0]) (hr : Blk w rb 74 [vS db N c, vI ((0 : Nat) : Int), vI (-1)]) (hD : Blk w db T1 (xs.map v8)) (hN : N ≤ xs.length) (hNm : N ≤ 1000000) (hc : N ≤ c)
    (hx : xs.take (setB s).length = setB s) (hle : (setB s).length ≤ N) (hs : s.length ≤ 6001) (h1 : rb ≠ db) (h2 : p ≠ rb) (h3 : p ≠ db) :
    Cal Tryd.prog 17 [vP p, .iface 56 (vP rb)] w fun v w' => v = vT [vI ((setB s).length : Nat), .nilIface] ∧ Rset w.heap.size w' p s ∧ Keep w w' [p, rb] := by
  rcases Nat.eq_zero_or_pos s.length with h0 | h0
  · have e : s = [] := List.eq_nil_of_length_eq_zero h0
    subst e
    have hl := setB_len []
    have e8 : (setB []).length = 8 := by rw [hl]; rfl
    rw [e8] at hx hle ⊢
    have hx8 : xs.take 8 = be8 0 := head8 (s := []) (k := 8) (by rw [hx, List.take_of_length_le (by omega)]) (Nat.le_refl _)
    refine (c_ReadFrom0 p rb db N c xs T1 w hp hr hD hN hNm hc hx8 hle h1 h2 h3).mono ?_
    rintro v w' ⟨rfl, h, hK⟩
    exact ⟨rfl, .inl ⟨rfl, h⟩, hK⟩
  · refine (c_ReadFrom1 p rb db N c xs s T1 w hp hr hD hN hNm hc hx hle h0 hs h1 h2 h3).mono ?_
    rintro v w' ⟨rfl, h, hK⟩
    exact ⟨rfl, .inr h, hK⟩

theorem c_toldR (base p : Nat) (s : List Bool) (w : World) (hT : Tb w) (hB : Rset base w p s) (hs : s.length ≤ 100000) :
    Cal Tryd.prog 16 [vP p] w fun v w' => ∃ A c, v = aB s.length A (nums s).length c ∧ Ow w' w.heap.size 22 (.slice A (nums s).length c) ((nums s).map vU) ∧ Keep w w' [] := by
  rcases hB with ⟨rfl, hB⟩ | ⟨q, _, hB⟩
  · refine (c_told0 p none 0 w hB).mono ?_
    rintro v w' ⟨rfl, hK⟩
    exact ⟨none, 0, rfl, Ow.nil _ _ _, hK⟩
  · exact c_told p q s w hT hB hs

theorem c_UnmBin (p db N c : Nat) (xs : List Nat) (s : List Bool) (T1 : TypeId) (w : World) (hp : Blk w p 48 [vU 0, .slice none 0 0]) (hD : Blk w db T1 (xs.map v8)) (hN : N ≤ xs.length) (hNm : N ≤ 1000000) (hc : N ≤ c)
    (hx : xs.take (setB s).length = setB s) (hle : (setB s).length ≤ N) (hs : s.length ≤ 6001) (h3 : p ≠ db) :
    Cal Tryd.prog 14 [vP p, vS db N c] w fun v w' => v = .nilIface ∧ Rset w.heap.size w' p s ∧ Keep w w' [p] := by
  have hpl := hp.lt
  have hdl := hD.lt
  refine go_in' Tryd.func14 rfl Tryd.ntmps14 (Nat.le_of_ble_eq_true rfl) ?_
  refine c_seq ?_
  refine c_region ?_
  refine st (y_assign rfl) rfl ?_
  refine l_nil ?_
  refine q_then ?_
  refine c_seq ?_
  refine c_region ?_
  refine st (y_move rfl) rfl ?_
  refine sc rfl rfl isfn18 (c_NewReader (some ⟨db, 0, none⟩) N c _) rfl ?_
  rintro _ w1 ⟨rb, rfl, hrb, hr, hK1⟩
  have hp1 := hp.keep hK1 (by simp)
  have hD1 := hD.keep hK1 (by simp)
  refine st (y_assign rfl) rfl ?_
  refine l_nil ?_
  refine q_then ?_
  refine c_seq ?_
  refine c_region ?_
  refine st (y_move rfl) rfl ?_
  refine st (y_move rfl) rfl ?_
  refine st (y_mkIface rfl Tryd.underlying56) rfl ?_
  refine sc rfl rfl isfn17 (c_ReadFrom p rb db N c xs s T1 _ hp1 hr hD1 hN hNm hc hx hle hs (by omega) (by omega) h3) rfl ?_
  rintro _ w2 ⟨rfl, hR, hK2⟩
  refine st (y_move rfl) rfl ?_
  refine st (y_extract rfl rfl) rfl ?_
  refine st (y_extract rfl rfl) rfl ?_
  refine st (y_assign rfl) rfl ?_
  refine st (y_assign rfl) rfl ?_
  refine l_nil ?_
  refine q_then ?_
  refine c_seq ?_
  refine c_region ?_
  refine st (y_move rfl) rfl ?_
  refine st (y_assign rfl) rfl ?_
  refine l_nil ?_
  refine q_then ?_
  refine c_ret ?_
  refine q_end1 (.inl rfl) rfl rfl ?_
  exact ⟨_, rfl, rfl, hR.mono hK1.size, (hK1.mono (fun i hi => by cases hi)).trans hK2 (fun i hi => by simp only [List.mem_cons, List.not_mem_nil, or_false] at hi ⊢; omega)⟩

theorem c_UnmBinErr (p N c B : Nat) (A : Option Addr) (db : Nat) (xs : List Nat) (s : List Bool) (T1 : TypeId) (e1 e2 : Addr) (w : World) (hp : Blk w p 48 [vU 0, .slice none 0 0]) (hD : 0 < N → A = some ⟨db, 0, none⟩ ∧ Blk w db T1 (xs.map v8) ∧ N ≤ xs.length ∧ N ≤ c ∧ p ≠ db) (hx8 : ∀ x ∈ xs, x < 256)
    (hx : xs.take N = (setB s).take N) (hlt : N < (setB s).length) (hs : s.length ≤ 6001) (hE1 : Sen B w 1 80 e1) (hE2 : Sen B w 2 80 e2) (hpB : B ≤ p) :
    Cal Tryd.prog 14 [vP p, .slice A N c] w fun v w' => ∃ e, v = .iface 80 (.pointer (some e)) ∧ Keep w w' [p] := by
  have hpl := hp.lt
  have hBs := hE1.size
  refine go_in' Tryd.func14 rfl Tryd.ntmps14 (Nat.le_of_ble_eq_true rfl) ?_
  refine c_seq ?_
  refine c_region ?_
  refine st (y_assign rfl) rfl ?_
  refine l_nil ?_
  refine q_then ?_
  refine c_seq ?_
  refine c_region ?_
  refine st (y_move rfl) rfl ?_
  refine sc rfl rfl isfn18 (c_NewReader A N c _) rfl ?_
  rintro _ w1 ⟨rb, rfl, hrb, hr, hK1⟩
  have hp1 := hp.keep hK1 (by simp)
  refine st (y_assign rfl) rfl ?_
  refine l_nil ?_
  refine q_then ?_
  refine c_seq ?_
  refine c_region ?_
  refine st (y_move rfl) rfl ?_
  refine st (y_move rfl) rfl ?_
  refine st (y_mkIface rfl Tryd.underlying56) rfl ?_
  refine sc rfl rfl isfn17 (c_ReadFromErr p rb N c B A db xs s T1 e1 e2 _ hp1 hr (fun h => by obtain ⟨h1, h2, h3, h4, h5⟩ := hD h; have := h2.lt; exact ⟨h1, h2.keep hK1 (by simp), h3, h4, by omega, h5⟩) hx8 hx hlt hs (by omega) (hE1.keep hK1 (by simp)) (hE2.keep hK1 (by simp)) (by omega) hpB) rfl ?_
  rintro _ w2 ⟨e, rfl, hK2⟩
  refine st (y_move rfl) rfl ?_
  refine st (y_extract rfl rfl) rfl ?_
  refine st (y_extract rfl rfl) rfl ?_
  refine st (y_assign rfl) rfl ?_
  refine st (y_assign rfl) rfl ?_
  refine l_nil ?_
  refine q_then ?_
  refine c_seq ?_
  refine c_region ?_
  refine st (y_move rfl) rfl ?_
  refine st (y_assign rfl) rfl ?_
  refine l_nil ?_
  refine q_then ?_
  refine c_ret ?_
  refine q_end1 (.inl rfl) rfl rfl ?_
  exact ⟨_, rfl, e, rfl, (hK1.mono (fun i hi => by cases hi)).trans hK2 (fun i hi => by simp only [List.mem_cons, List.not_mem_nil, or_false] at hi ⊢; omega)⟩

theorem c_implUnm (A : Option Addr) (n c : Nat) (ys : List Nat) (s : List Bool) (w : World) (hT : Tb w) (hR : Rd8 w A n ys) (hA : A = none → c = 0) (hy8 : ∀ y ∈ ys, y < 256) (hx : ys.take (setB s).length = setB s) (hle : (setB s).length ≤ n) (hn : n ≤ 100000) (hs : s.length ≤ 6000) :
    Cal Tryd.prog 8 [.slice A n c] w fun v w' => ∃ A' c', v = vT [aB s.length A' (nums s).length c', vB true] ∧ Ow w' w.heap.size 22 (.slice A' (nums s).length c') ((nums s).map vU) ∧ Keep w w' [] := by
  have hyl := hR.1
  have hsl := setB_len s
  have hsm := sm_set (ys := ys) (s := s) (k := (setB s).length) (m := min n 8) (by rw [hx, List.take_length]) (by omega) (by omega) hs
  refine go_in' Tryd.func8 rfl Tryd.ntmps8 (Nat.le_of_ble_eq_true rfl) ?_
  refine c_seq ?_
  refine c_region ?_
  refine st_alloc [.int .u64 0, .slice none 0 0] zv25 rfl rfl ?_
  intro b2 w1 hb2 hB2 hK1 hS1
  refine st (y_assign rfl) rfl ?_
  refine l_nil ?_
  refine q_then ?_
  refine c_seq ?_
  refine c_seq ?_
  refine c_region ?_
  refine st (y_move rfl) rfl ?_
  refine sc rfl rfl isfn13 (c_small A n c ys _ (hR.keep hK1 (by simp)) hy8 (by omega)) rfl ?_
  rintro _ _ ⟨hv, rfl⟩
  rw [decide_eq_true hsm] at hv
  subst hv
  refine st (y_not rfl) rfl ?_
  refine l_nil ?_
  refine q_then ?_
  refine c_false rfl rfl ?_
  refine c_skip ?_
  refine q_then ?_
  refine c_seq ?_
  refine c_region ?_
  refine st_alloc [.int .u64 0, .slice none 0 0] zv48 rfl rfl ?_
  intro p w2 hp hB3 hK2 hS2
  have hp2 : Blk w2 p 48 [vU 0, .slice none 0 0] := hB3
  clear hB3
  have hB2 := hB2.keep hK2 (by simp only [List.mem_cons, List.not_mem_nil, or_false, not_or, not_false_eq_true] <;> omega)
  have hK12 := hK1.trans hK2 (by simp)
  refine st (y_assign rfl) rfl ?_
  refine l_nil ?_
  refine q_then ?_
  refine c_seq ?_
  refine c_seq ?_
  refine c_region ?_
  refine st (y_move rfl) rfl ?_
  refine st (y_move rfl) rfl ?_
  refine sc rfl rfl isfn15 (c_Clone8 A n c ys hA hn _ (hR.keep hK12 (by simp))) rfl ?_
  rintro v3 w3 ⟨hK3, hcl⟩
  rcases hcl with ⟨hn0, _⟩ | ⟨hn0, db, c3, rfl, hc1, hc2, hdb, hBd⟩
  · omega
  have hp3 := hp2.keep hK3 (by simp)
  have hB2 := hB2.keep hK3 (by simp only [List.mem_cons, List.not_mem_nil, or_false, not_or, not_false_eq_true] <;> omega)
  have hK13 := hK12.trans hK3 (by simp)
  refine sc rfl rfl isfn14 (c_UnmBin p db n c3 (ys ++ List.replicate (c3 - n) 0) s _ _ hp3 hBd (by rw [List.length_append]; omega) (by omega) hc1 (by rw [List.take_append_of_le_length (by omega)]; exact hx) hle (by omega) (by omega)) rfl ?_
  rintro _ w4 ⟨rfl, hR4, hK4⟩
  have hB24 := hB2.keep hK4 (by simp only [List.mem_singleton]; omega)
  have hK14 := hK13.trans hK4 (fun i hi => by simp only [List.mem_singleton] at hi; exact .inr (by omega))
  have hsz4 := hK14.size
  clear hB2
  refine st (y_neqI rfl ifErr) rfl ?_
  refine l_nil ?_
  refine q_then ?_
  refine c_false rfl rfl ?_
  refine c_skip ?_
  refine q_then ?_
  refine c_seq ?_
  refine c_region ?_
  refine st (y_move rfl) rfl ?_
  refine sc rfl rfl isfn16 (c_toldR _ p s _ (hT.keep hK14 (by simp)) hR4 (by omega)) rfl ?_
  rintro _ w5 ⟨A5, c5, rfl, hO5, hK5⟩
  have hB25 := hB24.keep hK5 (by simp)
  have hb2l := hB24.lt
  clear hB24
  have hK15 := hK14.trans hK5 (by simp)
  refine st_storeagg rfl rfl (by simp [Value.oneCell']) sz25 rfl (by assumption) (by simp) rfl ?_
  intro w6 hB6 hK6 hS6
  refine st (y_assign rfl) rfl ?_
  refine l_nil ?_
  refine q_then ?_
  refine c_ret ?_
  refine q_endct (.inl rfl) rfl rfl agg25 us25 sz25 hB6 rfl rfl ?_
  exact ⟨_, rfl, A5, c5, rfl, (hO5.keep hK6 (fun i hi => by simp only [List.mem_singleton] at hi; left; omega)).base (by omega), hK15.trans hK6 (fun i hi => by simp only [List.mem_singleton] at hi; exact .inr (by omega))⟩

theorem c_implUnmErr (B : Nat) (A : Option Addr) (n c : Nat) (ys : List Nat) (s : List Bool) (e1 e2 : Addr) (w : World) (hR : Rd8 w A n ys) (hA : A = none → c = 0) (hy8 : ∀ y ∈ ys, y < 256) (hx : ys.take n = (setB s).take n) (hlt : n < (setB s).length) (hs : s.length ≤ 6000)
    (hE1 : Sen B w 1 80 e1) (hE2 : Sen B w 2 80 e2) :
    Cal Tryd.prog 8 [.slice A n c] w fun v w' => v = vT [aB 0 none 0 0, vB false] ∧ Keep w w' [] := by
  have hyl := hR.1
  have hsl := setB_len s
  have hnW : nW s.length ≤ 100 := by unfold nW; omega
  have hsm := sm_set (ys := ys) (s := s) (k := n) (m := min n 8) hx (by omega) (by omega) hs
  have hBs := hE1.size
  refine go_in' Tryd.func8 rfl Tryd.ntmps8 (Nat.le_of_ble_eq_true rfl) ?_
  refine c_seq ?_
  refine c_region ?_
  refine st_alloc [.int .u64 0, .slice none 0 0] zv25 rfl rfl ?_
  intro b2 w1 hb2 hB2 hK1 hS1
  refine st (y_assign rfl) rfl ?_
  refine l_nil ?_
  refine q_then ?_
  refine c_seq ?_
  refine c_seq ?_
  refine c_region ?_
  refine st (y_move rfl) rfl ?_
  refine sc rfl rfl isfn13 (c_small A n c ys _ (hR.keep hK1 (by simp)) hy8 (by omega)) rfl ?_
  rintro _ _ ⟨hv, rfl⟩
  rw [decide_eq_true hsm] at hv
  subst hv
  refine st (y_not rfl) rfl ?_
  refine l_nil ?_
  refine q_then ?_
  refine c_false rfl rfl ?_
  refine c_skip ?_
  refine q_then ?_
  refine c_seq ?_
  refine c_region ?_
  refine st_alloc [.int .u64 0, .slice none 0 0] zv48 rfl rfl ?_
  intro p w2 hp hB3 hK2 hS2
  have hp2 : Blk w2 p 48 [vU 0, .slice none 0 0] := hB3
  clear hB3
  have hB2 := hB2.keep hK2 (by simp only [List.mem_cons, List.not_mem_nil, or_false, not_or, not_false_eq_true] <;> omega)
  have hK12 := hK1.trans hK2 (by simp)
  refine st (y_assign rfl) rfl ?_
  refine l_nil ?_
  refine q_then ?_
  refine c_seq ?_
  refine c_seq ?_
  refine c_region ?_
  refine st (y_move rfl) rfl ?_
  refine st (y_move rfl) rfl ?_
  refine sc rfl rfl isfn15 (c_Clone8 A n c ys hA (by omega) _ (hR.keep hK12 (by simp))) rfl ?_
  rintro v3 w3 ⟨hK3, hcl⟩
  have hp3 := hp2.keep hK3 (by simp)
  have hB2 := hB2.keep hK3 (by simp only [List.mem_cons, List.not_mem_nil, or_false, not_or, not_false_eq_true] <;> omega)
  have hK13 := hK12.trans hK3 (by simp)
  have hcl' : ∃ A3 db c3, v3 = .slice A3 n c3 ∧ (0 < n → A3 = some ⟨db, 0, none⟩ ∧ Blk w3 db 5 ((ys ++ List.replicate (c3 - n) 0).map v8) ∧ n ≤ (ys ++ List.replicate (c3 - n) 0).length ∧ n ≤ c3 ∧ p ≠ db) := by
    rcases hcl with ⟨hn0, A', c', rfl⟩ | ⟨hn0, db, c3, rfl, hc1, hc2, hdb, hBd⟩
    · exact ⟨A', 0, c', by rw [hn0], fun h => by omega⟩
    · exact ⟨_, db, c3, rfl, fun _ => ⟨rfl, hBd, by rw [List.length_append]; omega, hc1, by omega⟩⟩
  obtain ⟨A3, db, c3, rfl, hD3⟩ := hcl'
  refine sc rfl rfl isfn14 (c_UnmBinErr p n c3 B A3 db (ys ++ List.replicate (c3 - n) 0) s _ e1 e2 _ hp3 hD3 (fun x hx => by rcases List.mem_append.1 hx with h | h; exact hy8 x h; have := List.eq_of_mem_replicate h; omega) (by rw [List.take_append_of_le_length (by omega)]; exact hx) hlt (by omega) (hE1.keep hK13 (by simp)) (hE2.keep hK13 (by simp)) (by omega)) rfl ?_
  rintro _ w4 ⟨e, rfl, hK4⟩
  have hB24 := hB2.keep hK4 (by simp only [List.mem_singleton]; omega)
  have hK14 := hK13.trans hK4 (fun i hi => by simp only [List.mem_singleton] at hi; exact .inr (by omega))
  clear hB2
  refine st (y_neqV rfl ifErr) rfl ?_
  refine l_nil ?_
  refine q_then ?_
  refine c_true rfl rfl ?_
  refine c_seq ?_
  refine c_region ?_
  refine st (bld25_) rfl ?_
  refine st_storeagg rfl rfl (by simp [Value.oneCell']) sz25 rfl (by assumption) (by simp) rfl ?_
  intro w6 hB6 hK6 hS6
  refine st (y_assign rfl) rfl ?_
  refine l_nil ?_
  refine q_then ?_
  refine c_ret ?_
  refine q_then_ret ?_
  refine q_endct (.inl rfl) rfl rfl agg25 us25 sz25 hB6 rfl rfl ?_
  exact ⟨_, rfl, rfl, hK14.trans hK6 (fun i hi => by simp only [List.mem_singleton] at hi; exact .inr (by omega))⟩

theorem c_implRead (A : Option Addr) (n c : Nat) (ys : List Nat) (s : List Bool) (w : World) (hT : Tb w) (hR : Rd8 w A n ys) (hA : A = none → c = 0) (hy8 : ∀ y ∈ ys, y < 256) (hx : ys.take (setB s).length = setB s) (hle : (setB s).length ≤ n) (hn : n ≤ 100000) (hs : s.length ≤ 6000) :
    Cal Tryd.prog 9 [.slice A n c] w fun v w' => ∃ A' c', v = vT [aB s.length A' (nums s).length c', vI ((setB s).length : Nat), vB true] ∧ Ow w' w.heap.size 22 (.slice A' (nums s).length c') ((nums s).map vU) ∧ Keep w w' [] := by
  have hyl := hR.1
  have hsl := setB_len s
  have hsm := sm_set (ys := ys) (s := s) (k := (setB s).length) (m := min n 8) (by rw [hx, List.take_length]) (by omega) (by omega) hs
  refine go_in' Tryd.func9 rfl Tryd.ntmps9 (Nat.le_of_ble_eq_true rfl) ?_
  refine c_seq ?_
  refine c_region ?_
  refine st_alloc [.int .u64 0, .slice none 0 0] zv25 rfl rfl ?_
  intro b2 w1 hb2 hB2 hK1 hS1
  refine st (y_assign (v := vI ((0 : Nat) : Int)) rfl) rfl ?_
  refine st (y_assign rfl) rfl ?_
  refine l_nil ?_
  refine q_then ?_
  refine c_seq ?_
  refine c_seq ?_
  refine c_region ?_
  refine st (y_move rfl) rfl ?_
  refine sc rfl rfl isfn13 (c_small A n c ys _ (hR.keep hK1 (by simp)) hy8 (by omega)) rfl ?_
  rintro _ _ ⟨hv, rfl⟩
  rw [decide_eq_true hsm] at hv
  subst hv
  refine st (y_not rfl) rfl ?_
  refine l_nil ?_
  refine q_then ?_
  refine c_false rfl rfl ?_
  refine c_skip ?_
  refine q_then ?_
  refine c_seq ?_
  refine c_region ?_
  refine st_alloc [.int .u64 0, .slice none 0 0] zv48 rfl rfl ?_
  intro p w2 hp hB3 hK2 hS2
  have hp2 : Blk w2 p 48 [vU 0, .slice none 0 0] := hB3
  clear hB3
  have hB2 := hB2.keep hK2 (by simp only [List.mem_cons, List.not_mem_nil, or_false, not_or, not_false_eq_true] <;> omega)
  have hK12 := hK1.trans hK2 (by simp)
  refine st (y_assign rfl) rfl ?_
  refine l_nil ?_
  refine q_then ?_
  refine c_seq ?_
  refine c_region ?_
  refine st (y_move rfl) rfl ?_
  refine st (y_move rfl) rfl ?_
  refine sc rfl rfl isfn15 (c_Clone8 A n c ys hA hn _ (hR.keep hK12 (by simp))) rfl ?_
  rintro v3 w3 ⟨hK3, hcl⟩
  rcases hcl with ⟨hn0, _⟩ | ⟨hn0, db, c3, rfl, hc1, hc2, hdb, hBd⟩
  · omega
  have hp3 := hp2.keep hK3 (by simp)
  have hB2 := hB2.keep hK3 (by simp only [List.mem_cons, List.not_mem_nil, or_false, not_or, not_false_eq_true] <;> omega)
  have hK13 := hK12.trans hK3 (by simp)
  have hBdl := hBd.lt
  refine sc rfl rfl isfn18 (c_NewReader (some ⟨db, 0, none⟩) n c3 _) rfl ?_
  rintro _ w4 ⟨rb, rfl, hrb, hr, hK4⟩
  have hp4 := hp3.keep hK4 (by simp)
  have hBd4 := hBd.keep hK4 (by simp)
  have hB2 := hB2.keep hK4 (by simp only [List.mem_cons, List.not_mem_nil, or_false, not_or, not_false_eq_true] <;> omega)
  have hK14 := hK13.trans hK4 (by simp)
  have hpl3 := hp3.lt
  refine st (y_mkIface rfl Tryd.underlying56) rfl ?_
  refine sc rfl rfl isfn17 (c_ReadFrom p rb db n c3 (ys ++ List.replicate (c3 - n) 0) s _ _ hp4 hr hBd4 (by rw [List.length_append]; omega) (by omega) hc1 (by rw [List.take_append_of_le_length (by omega)]; exact hx) hle (by omega) (by omega) (by omega) (by omega)) rfl ?_
  rintro _ w5 ⟨rfl, hR5, hK5⟩
  have hb2l := hB2.lt
  have hB25 := hB2.keep hK5 (by simp only [List.mem_cons, List.not_mem_nil, or_false]; omega)
  have hsz3 := hK13.size
  have hK15 := hK14.trans hK5 (fun i hi => by simp only [List.mem_cons, List.not_mem_nil, or_false] at hi; exact .inr (by omega))
  have hsz5 := hK15.size
  clear hB2
  refine st (y_move rfl) rfl ?_
  refine st (y_extract rfl rfl) rfl ?_
  refine st (y_extract rfl rfl) rfl ?_
  refine st (y_assign rfl) rfl ?_
  refine st (y_assign rfl) rfl ?_
  refine l_nil ?_
  refine q_then ?_
  refine c_seq ?_
  refine c_seq ?_
  refine c_region ?_
  refine st (y_move rfl) rfl ?_
  refine st (y_neqI rfl ifErr) rfl ?_
  refine l_nil ?_
  refine q_then ?_
  refine c_false rfl rfl ?_
  refine c_skip ?_
  refine q_then ?_
  refine c_seq ?_
  refine c_region ?_
  refine st (y_move rfl) rfl ?_
  refine sc rfl rfl isfn16 (c_toldR _ p s _ (hT.keep hK15 (by simp)) hR5 (by omega)) rfl ?_
  rintro _ w6 ⟨A6, c6, rfl, hO6, hK6⟩
  have hB26 := hB25.keep hK6 (by simp)
  have hb2l5 := hB25.lt
  clear hB25
  have hK16 := hK15.trans hK6 (by simp)
  refine st (y_move rfl) rfl ?_
  refine st_storeagg rfl rfl (by simp [Value.oneCell']) sz25 rfl (by assumption) (by simp) rfl ?_
  intro w7 hB7 hK7 hS7
  refine st (y_assign rfl) rfl ?_
  refine st (y_assign rfl) rfl ?_
  refine l_nil ?_
  refine q_then ?_
  refine c_ret ?_
  refine q_endctt (.inl rfl) rfl rfl agg25 us25 sz25 hB7 rfl rfl rfl ?_
  exact ⟨_, rfl, A6, c6, rfl, (hO6.keep hK7 (fun i hi => by simp only [List.mem_singleton] at hi; left; omega)).base (by omega), hK16.trans hK7 (fun i hi => by simp only [List.mem_singleton] at hi; exact .inr (by omega))⟩

end Go.Proofs.YtkemlhhpakjojaaDoor

/- A list of bytes that the call appends to, in a row of its own. -/
set_option linter.unusedVariables false
set_option linter.unusedSimpArgs false
namespace Go.Proofs.YtkemlhhpakjojaaDoor
open Go Go.RowKit

theorem snoc_len8 {P : List Nat} {x : Nat} : (P.map v8).length + 1 = (P ++ [x]).length := by simp
theorem snoc_map8 {P : List Nat} {x : Nat} : P.map v8 ++ [v8 x] = (P ++ [x]).map v8 := by simp
/-- a list of numbers that the call appends to, in a row of its own -/
structure One8 (w0 w : World) (b6 pb pc : Nat) (P : List Nat) : Prop where
  keep : Keep w0 w [b6]
  p6 : b6 ≤ pb
  pl : pb = b6 ∨ w0.heap.size ≤ pb
  po : Ow w b6 5 (vS pb P.length pc) (P.map v8)
theorem One8.move {w0 w1 w2 : World} {b6 pb pc : Nat} {P : List Nat} (h : One8 w0 w1 b6 pb pc P) (k1 : Keep w1 w2 []) : One8 w0 w2 b6 pb pc P :=
  ⟨h.keep.trans k1 (by simp), h.p6, h.pl, h.po.keepA k1 (by simp)⟩
theorem One8.app {w0 w2 w3 : World} {b6 pb pc b' c' : Nat} {P P' : List Nat} (h : One8 w0 w2 b6 pb pc P) (hb : b' = pb ∨ b' = w2.heap.size) (hO : Ow w3 b6 5 (vS b' P'.length c') (P'.map v8)) (k2 : Keep w2 w3 [pb]) : One8 w0 w3 b6 b' c' P' := by
  have s0 := h.keep.size
  have hp6 := h.p6; have hpl := h.pl
  have hpw := h.po.at.1
  refine ⟨h.keep.trans k2 (fun i hi => ?_), by omega, by omega, hO⟩
  simp only [List.mem_singleton] at hi ⊢
  subst hi
  omega

end Go.Proofs.YtkemlhhpakjojaaDoor

/- The reference's Words and Bytes; each by its contract. -/
set_option linter.unusedVariables false
set_option linter.unusedSimpArgs false
set_option maxRecDepth 100000
set_option maxHeartbeats 1000000
namespace Go.Proofs.YtkemlhhpakjojaaDoor
open Go Go.RowKit

theorem one_mapU' (xs : List Nat) : ∀ v ∈ xs.map vU, v.oneCell' = true := by
  intro v hv; obtain ⟨x, _, rfl⟩ := List.mem_map.1 hv; rfl
theorem Ow.ofBlk {w : World} {b : Nat} {e : TypeId} {v : Value} (h : Blk w b e [v]) : Ow w b e (vS b 1 1) [v] :=
  .inr ⟨b, 1, [], rfl, Nat.le_refl _, by simpa using h, by simp, by unfold maxLen; omega⟩

theorem c_specWords (b : Nat) (s : List Bool) (w : World) (hB : Bl w b s) (hs : s.length ≤ 6001) :
    Cal Tryd.prog 12 [vS b s.length s.length] w fun v w' => ∃ q, v = vS q (pack s).length (pack s).length ∧ w.heap.size ≤ q ∧ Blk w' q 43 ((pack s).map vU) ∧ Keep w w' [] := by
  have hn : nW s.length ≤ 100 := by unfold nW; omega
  have hnn : (s.length + 63) / 64 = nW s.length := rfl
  have hBl : Blk w b 4 (s.map vB) := hB
  have hbl := hBl.lt
  obtain ⟨N, hN⟩ : ∃ N, nW s.length = N := ⟨_, rfl⟩
  have hpl : ∀ t : List Bool, t.length = s.length → (pack t).length = N := fun t ht => by rw [pack_length, ht]; exact hN
  have hps := hpl s rfl
  refine go_in' Tryd.func12 rfl Tryd.ntmps12 (Nat.le_of_ble_eq_true rfl) ?_
  refine c_seq ?_
  refine c_region ?_
  refine st (y_assign rfl) rfl ?_
  refine l_nil ?_
  refine q_then ?_
  refine c_seq ?_
  refine c_region ?_
  refine st (y_move rfl) rfl ?_
  refine st (y_len rfl Tryd.underlying29) rfl ?_
  first | refine st (y_add_in (b := 63) rfl rfl (by omega)) rfl ?_ | refine st (y_add_i (b := 63) rfl rfl (by omega) (by omega)) rfl ?_
  refine st (y_quo_i (b := 64) rfl rfl (by omega) (by omega)) rfl ?_
  rw [hnn, hN]
  refine mk42 rfl rfl (by omega) (by omega) rfl ?_
  intro q w1 hq hB1 hK1 hS1
  refine st (y_assign rfl) rfl ?_
  refine l_nil ?_
  refine q_then ?_
  refine c_seq ?_
  refine c_seq ?_
  refine c_region ?_
  refine st (y_move rfl) rfl ?_
  refine st (y_len rfl Tryd.underlying29) rfl ?_
  refine st (y_move (v := vI ((0 : Nat) : Int)) rfl) rfl ?_
  refine l_nil ?_
  refine q_then ?_
  refine c_block ?_
  refine c_loop (fun k : Nat => [(3, vS q N N), (11, vS b s.length s.length), (12, vI (s.length : Nat)), (13, vI (k : Nat))]) (fun k w' => k ≤ s.length ∧ Blk w' q 43 ((pack (upto s k)).map vU) ∧ Keep w1 w' [q]) (fun k => s.length - k) 0 ?_ ?_ ?_
  · exact ⟨rfl, rfl, rfl, rfl, trivial⟩
  · refine ⟨Nat.zero_le _, ?_, Keep.refl _ _⟩
    rw [upto_zero, pack_zeros, hN]
    simpa using hB1
  · rintro k w2 ⟨hk, hBk, hK2⟩
    have hK12 : Keep w w2 [] := hK1.trans hK2 (fun i hi => by simp only [List.mem_singleton] at hi; exact .inr (by omega))
    have hB2 := hBl.keep hK12 (by simp)
    have hul := hpl (upto s k) (upto_len hk)
    refine c_seq ?_
    refine c_region ?_
    refine st_if (y_lt_i rfl rfl) rfl (fun hlt => ?_) (fun hlt => ?_)
    · have hkl : k < s.length := by omega
      have hkN : k / 64 < N := by rw [← hN]; unfold nW; omega
      refine l_nil ?_
      refine q_then ?_
      refine c_seq ?_
      refine c_true rfl rfl ?_
      refine c_skip ?_
      refine q_then ?_
      refine c_seq ?_
      refine c_block ?_
      refine c_seq ?_
      refine c_region ?_
      refine st (y_move rfl) rfl ?_
      first | refine st (y_index0 rfl rfl Tryd.underlying29 sz4 (by omega)) rfl ?_ | refine st (y_index rfl rfl Tryd.underlying29 sz4 (by omega)) rfl ?_ | refine st (y_indexA rfl rfl Tryd.underlying29 sz4 (by omega)) rfl ?_
      first | refine st (y_loadM (false) rfl one4 (by assumption) (by first | omega | (simp only [List.length_append, List.length_map, List.length_replicate, List.length_set, List.length_take, List.length_drop]; omega) | (simp; done))) rfl ?_ | refine st (y_load rfl one4 (by assumption)) rfl ?_
      refine st (y_assign rfl) rfl ?_
      refine st (y_assign rfl) rfl ?_
      refine l_nil ?_
      refine q_then ?_
      refine c_seq ?_
      refine c_region ?_
      refine st (y_move rfl) rfl ?_
      refine l_nil ?_
      refine q_then ?_
      refine c_ifb rfl (fun hb => ?_) (fun hb => ?_)
      · have hset := pack_set (upto s k) k (by rw [upto_len hk]; exact hkl)
        rw [upto_true hkl hb] at hset
        have hgd := pack_getD_lt (upto s k) (k / 64)
        have hBkd := hBk.drew
        refine c_tail 10 mixed (by kernel_rfl) ?_
        refine ss (y_move rfl) rfl ?_
        refine ss (y_move rfl) rfl ?_
        refine ss (y_quo_i (b := 64) rfl rfl (by omega) (by omega)) rfl ?_
        first | refine ss (y_index0 rfl rfl Tryd.underlying42 sz43 (by omega)) rfl ?_ | refine ss (y_index rfl rfl Tryd.underlying42 sz43 (by omega)) rfl ?_ | refine ss (y_indexA rfl rfl Tryd.underlying42 sz43 (by omega)) rfl ?_
        first | refine ss (y_loadM (0) rfl one43 (by assumption) (by first | omega | (simp only [List.length_append, List.length_map, List.length_replicate, List.length_set, List.length_take, List.length_drop]; omega) | (simp; done))) rfl ?_ | refine ss (y_load rfl one43 (by assumption)) rfl ?_
        refine ss (y_move rfl) rfl ?_
        refine ss (y_rem_i (b := 64) rfl rfl (by omega)) rfl ?_
        refine ss (y_shl (a := 1) rfl rfl) rfl ?_
        refine ss (y_or rfl rfl (by first | omega | assumption | (repeat (first | assumption | omega | decide | exact shl_lt64 _ _ | apply and_lt64 | apply or_lt64 | apply xor_lt64 | apply nt_lt | apply shr_lt64 | apply getD_lt64))) (by first | omega | assumption | (repeat (first | assumption | omega | decide | exact shl_lt64 _ _ | apply and_lt64 | apply or_lt64 | apply xor_lt64 | apply nt_lt | apply shr_lt64 | apply getD_lt64)))) rfl ?_
        first | refine ss (y_index0 rfl rfl Tryd.underlying42 sz43 (by omega)) rfl ?_ | refine ss (y_index rfl rfl Tryd.underlying42 sz43 (by omega)) rfl ?_ | refine ss (y_indexA rfl rfl Tryd.underlying42 sz43 (by omega)) rfl ?_
        refine s_nil ?_
        show wpL _ _ _ _ _ _ _ _
        refine st_storeM vU rfl rfl rfl sz43 (by assumption) (by first | omega | (simp only [List.length_append, List.length_map, List.length_replicate, List.length_set, List.length_take, List.length_drop]; omega)) rfl ?_
        intro w3 hB3 hK3 hS3
        refine l_nil ?_
        refine q_block ?_
        refine q_then ?_
        refine c_region ?_
        first | refine st (y_add_in (b := 1) rfl rfl (by omega)) rfl ?_ | refine st (y_add_i (b := 1) rfl rfl (by omega) (by omega)) rfl ?_
        refine st (y_move rfl) rfl ?_
        refine l_nil ?_
        refine q_round (k + 1) ⟨rfl, rfl, rfl, rfl, trivial⟩ ⟨by omega, ?_, (hK2.trans (Keep.drew w2 []) (by simp)).trans hK3 (fun i h => .inl h)⟩ (by omega)
        rw [hset] at hB3
        exact hB3
      ·
        have e := upto_false hkl hb
        refine c_skip ?_
        refine q_block ?_
        refine q_then ?_
        refine c_region ?_
        first | refine st (y_add_in (b := 1) rfl rfl (by omega)) rfl ?_ | refine st (y_add_i (b := 1) rfl rfl (by omega) (by omega)) rfl ?_
        refine st (y_move rfl) rfl ?_
        refine l_nil ?_
        exact q_round (k + 1) ⟨rfl, rfl, rfl, rfl, trivial⟩ ⟨by omega, by rw [← e]; exact hBk, hK2⟩ (by omega)
    ·
      have hke : k = s.length := by omega
      subst hke
      rw [upto_full] at hBk
      refine l_nil ?_
      refine q_then ?_
      refine c_seq ?_
      refine c_false rfl rfl ?_
      refine c_exit ?_
      refine q_then_exit ?_
      refine q_then_exit ?_
      refine q_block_hit ?_
      refine q_then ?_
      refine c_seq ?_
      refine c_region ?_
      refine st (y_move rfl) rfl ?_
      refine st (y_assign rfl) rfl ?_
      refine l_nil ?_
      refine q_then ?_
      refine c_ret ?_
      refine q_end1 (.inl rfl) rfl rfl ?_
      exact ⟨_, rfl, q, by rw [hps], by omega, hBk, hK12⟩

theorem be8_val {x u : Nat} : ((x >>> (56 - 8 * u)) % 256) = ((x >>> (56 - 8 * u)) % 256) := rfl

theorem c_specBytes (b : Nat) (s : List Bool) (w : World) (hB : Bl w b s) (hs : s.length ≤ 6001) :
    Cal Tryd.prog 7 [vS b s.length s.length] w fun v w' => ∃ pb pc, v = vS pb (setB s).length pc ∧ Ow w' w.heap.size 5 (vS pb (setB s).length pc) ((setB s).map v8) ∧ Keep w w' [] := by
  have hn : nW s.length ≤ 100 := by unfold nW; omega
  have hpl := pack_length s
  obtain ⟨X, hX⟩ : ∃ X, s.length :: pack s = X := ⟨_, rfl⟩
  have hXl : X.length = nW s.length + 1 := by rw [← hX, List.length_cons, hpl]
  have hXlt : ∀ x ∈ X, x < 18446744073709551616 := by
    intro x hx
    rw [← hX] at hx
    rcases List.mem_cons.1 hx with h | h
    · omega
    · exact pack_lt s x h
  have hset : setB s = byt X := by unfold setB; rw [hX]
  refine go_in' Tryd.func7 rfl Tryd.ntmps7 (Nat.le_of_ble_eq_true rfl) ?_
  refine c_seq ?_
  refine c_region ?_
  refine st (y_assign rfl) rfl ?_
  refine l_nil ?_
  refine q_then ?_
  refine c_seq ?_
  refine c_region ?_
  refine st_buildSlice0 Tryd.underlying32 sz5 rfl ?_
  intro b6 w6 hb6 hB6 hK6 hS6
  have hO6 : Ow w6 b6 5 (vS b6 0 0) ([] : List Value) := Ow.empty hB6 (Nat.le_refl _)
  have hBl6 := Blk.keep hB hK6 (by simp)
  refine st (y_assign rfl) rfl ?_
  refine l_nil ?_
  refine q_then ?_
  refine c_seq ?_
  refine c_seq ?_
  refine c_region ?_
  refine st (y_move rfl) rfl ?_
  refine st (y_len rfl Tryd.underlying29) rfl ?_
  refine st (y_conv_iu rfl us3 Tryd.underlying43 rfl (by omega)) rfl ?_
  refine st_buildSlice [vU s.length] Tryd.underlying42 sz43 zv43 rfl (by decide) (by decide) (by kernel_rfl) rfl ?_
  intro b7 w7 hb7 hB7 hK7 hS7
  have hB6 := hB6.keep hK7 (by simp only [List.mem_cons, List.not_mem_nil, or_false, not_or, not_false_eq_true] <;> omega)
  have hBl7 := Blk.keep hBl6 hK7 (by simp)
  have hK17 := hK6.trans hK7 (by simp)
  refine st (y_move rfl) rfl ?_
  refine sc rfl rfl isfn12 (c_specWords b s _ hBl7 hs) rfl ?_
  rintro _ w8 ⟨q, rfl, hq, hBq, hK8⟩
  have hB6 := hB6.keep hK8 (by simp only [List.mem_cons, List.not_mem_nil, or_false, not_or, not_false_eq_true] <;> omega)
  have hB7 := hB7.keep hK8 (by simp only [List.mem_cons, List.not_mem_nil, or_false, not_or, not_false_eq_true] <;> omega)
  have hK18 := hK17.trans hK8 (by simp)
  have hO7 : Ow w8 b7 43 (vS b7 1 1) ([vU s.length]) := Ow.ofBlk hB7
  have hsz8 := hK8.size
  have hqn : ∀ j u', ((pack s).map vU)[j]? = some u' → w8.cell? ((⟨q, 0, none⟩ : Addr).add j) = some u' := by
    intro j u' hj
    rw [add_pt, Nat.zero_add]
    exact hBq.cell hj
  obtain ⟨i43, hi1, hi2, hi3, hi4⟩ := info_parts inf43
  refine st_appendB (news := (pack s).map vU) rfl rfl Tryd.underlying42 hi1 hi2 hi3 (by omega) rfl (by simp) (hqn) (one_mapU' _) (by assumption) (by first | omega | (simp only [List.length_map, List.length_nil, List.length_append, List.length_cons, List.length_take, List.length_drop]; omega) | simp) (by omega) (by omega) rfl ?_
  clear hi1 hi2 hi3 hi4
  intro v9 w9 hO9 hK9
  have hO9' : Ow w9 b7 43 v9 (X.map vU) := by rw [← hX]; exact hO9
  obtain ⟨A9, c9, rfl⟩ := hO9'.form
  have hO99 : Ow w9 b7 43 (.slice A9 X.length c9) (X.map vU) := by simpa using hO9'
  rw [List.length_map]
  have hRX := hO99.rd'
  have hXb : ∀ ad, A9 = some ad → b6 < ad.block := by
    intro ad e
    subst e
    have := hO99.blk
    omega
  have hB69 := hB6.keep hK9 (by simp only [List.mem_singleton]; omega)
  have hb69 := hB69.lt
  have hO69 : Ow w9 b6 5 (vS b6 0 0) ([] : List Value) := Ow.empty hB69 (Nat.le_refl _)
  have hK19 := hK18.trans hK9 (fun i hi => by simp only [List.mem_singleton] at hi; exact .inr (by omega))
  have hbt := fun k => byt_len (X.take k)
  refine st (y_len rfl Tryd.underlying42) rfl ?_
  refine st (y_move (v := vI ((0 : Nat) : Int)) rfl) rfl ?_
  refine l_nil ?_
  refine q_then ?_
  refine c_block ?_
  refine c_loop (fun x : Nat × Nat × Nat => [(3, vS x.2.1 (byt (X.take x.1)).length x.2.2), (14, .slice A9 X.length c9), (15, vI (X.length : Nat)), (16, vI (x.1 : Nat))]) (fun x w' => x.1 ≤ X.length ∧ One8 w9 w' b6 x.2.1 x.2.2 (byt (X.take x.1))) (fun x => X.length - x.1) (0, b6, 0) ?_ ?_ ?_
  · exact ⟨rfl, rfl, rfl, rfl, trivial⟩
  · exact ⟨Nat.zero_le _, Keep.refl _ _, Nat.le_refl _, .inl rfl, hO69⟩
  · rintro ⟨k, pb, pc⟩ w10 ⟨hk, h3⟩
    simp only at hk h3 ⊢
    have hK10 := h3.keep
    have hRX10 : Rd w10 A9 X.length X := by
      refine ⟨hRX.1, hRX.2.1, fun h0 => ?_⟩
      obtain ⟨ad, e, hadl, hc⟩ := hRX.2.2 h0
      refine ⟨ad, e, Nat.lt_of_lt_of_le hadl hK10.size, fun j hj => ?_⟩
      rw [← hc j hj]
      have := hXb ad e
      have e2 : (ad.add j).block = ad.block := by unfold Addr.add; split <;> rfl
      refine World.cell?_of_block (hK10.same _ (by omega) ?_)
      simp only [List.mem_singleton]; omega
    refine c_seq ?_
    refine c_region ?_
    refine st_if (y_lt_i rfl rfl) rfl (fun hlt => ?_) (fun hlt => ?_)
    · have hkX : k < X.length := by omega
      obtain ⟨ad, rfl, hadl, hcell⟩ := hRX10.2.2 (by omega)
      have hc := hcell k hkX
      obtain ⟨x, hx⟩ : ∃ x, X.getD k 0 = x := ⟨_, rfl⟩
      have hx64 : x < 18446744073709551616 := by rw [← hx]; exact getD_lt64 hXlt k
      have hbk := byt_take hkX
      rw [hx] at hc hbk
      have hbkl := hbt k
      rw [List.length_take, Nat.min_eq_left hk] at hbkl
      have h8l := be8_len x
      refine l_nil ?_
      refine q_then ?_
      refine c_seq ?_
      refine c_true rfl rfl ?_
      refine c_skip ?_
      refine q_then ?_
      refine c_seq ?_
      refine c_block ?_
      refine c_seq ?_
      refine c_region ?_
      first | refine st (y_index0 rfl rfl Tryd.underlying42 sz43 (by omega)) rfl ?_ | refine st (y_index rfl rfl Tryd.underlying42 sz43 (by omega)) rfl ?_ | refine st (y_indexA rfl rfl Tryd.underlying42 sz43 (by omega)) rfl ?_
      refine st (y_load rfl one43 (by assumption)) rfl ?_
      refine st (y_assign rfl) rfl ?_
      refine l_nil ?_
      refine q_then ?_
      refine c_seq ?_
      refine c_region ?_
      refine st (y_assign (v := vI ((56 : Nat) : Int)) rfl) rfl ?_
      refine l_nil ?_
      refine q_then ?_
      refine c_block ?_
      refine c_loop (fun y : Nat × Nat × Nat => [(3, vS y.2.1 (byt (X.take k) ++ (be8 x).take y.1).length y.2.2), (5, vU x), (6, vI ((56 : Int) - 8 * (y.1 : Int))), (14, .slice (some ad) X.length c9), (15, vI (X.length : Nat)), (16, vI (k : Nat))]) (fun y w' => y.1 ≤ 8 ∧ One8 w9 w' b6 y.2.1 y.2.2 (byt (X.take k) ++ (be8 x).take y.1)) (fun y => 8 - y.1) (0, pb, pc) ?_ ?_ ?_
      · exact ⟨by simp only [List.take_zero, List.append_nil]; rfl, rfl, rfl, rfl, rfl, rfl, trivial⟩
      · exact ⟨Nat.zero_le _, by simp only [List.take_zero, List.append_nil]; exact h3⟩
      · rintro ⟨u, pb2, pc2⟩ w11 ⟨hu, h4⟩
        simp only at hu h4 ⊢
        refine c_seq ?_
        refine c_seq ?_
        refine c_region ?_
        refine st (y_move rfl) rfl ?_
        refine st_if (y_ge_i (b := 0) rfl rfl) rfl (fun hge => ?_) (fun hge => ?_)
        · have hu8 : u < 8 := by omega
          have hstep := be8_take (x := x) hu8
          rw [show (56 : Int) - 8 * (u : Int) = ((56 - 8 * u : Nat) : Int) by omega]
          have hK11 := h4.keep
          have hsz11 := hK11.size
          have hPl : (byt (X.take k) ++ (be8 x).take u).length ≤ 10000 := by simp only [List.length_append, List.length_take]; omega
          have hP1 : byt (X.take k) ++ (be8 x).take (u + 1) = (byt (X.take k) ++ (be8 x).take u) ++ [(x >>> (56 - 8 * u)) % 256] := by rw [hstep, List.append_assoc]
          refine l_nil ?_
          refine q_then ?_
          refine c_true rfl rfl ?_
          refine c_skip ?_
          refine q_then ?_
          refine c_seq ?_
          refine c_block ?_
          refine c_region ?_
          refine st (y_move rfl) rfl ?_
          refine st (y_move rfl) rfl ?_
          refine st (y_move rfl) rfl ?_
          refine st (y_shr rfl rfl (by first | omega | assumption | (repeat (first | assumption | omega | decide | exact shl_lt64 _ _ | apply and_lt64 | apply or_lt64 | apply xor_lt64 | apply nt_lt | apply shr_lt64 | apply getD_lt64)))) rfl ?_
          refine st (y_conv_u8 rfl us43 Tryd.underlying5) rfl ?_
          refine st_buildSlice [v8 ((x >>> (56 - 8 * u)) % 256)] Tryd.underlying32 sz5 zv5 rfl (by decide) (by decide) (by kernel_rfl) rfl ?_
          intro b12 w12 hb12 hB12 hK12 hS12
          have h5 := h4.move hK12
          have hO12 := h5.po
          obtain ⟨i5, hi1, hi2, hi3, hi4⟩ := info_parts inf5
          refine st_appendA (news := [v8 ((x >>> (56 - 8 * u)) % 256)]) rfl rfl Tryd.underlying32 hi1 hi2 hi3 (by omega) rfl rfl (news_one (by assumption)) (by intro u hu; simp only [List.mem_singleton] at hu; subst hu; rfl) (by assumption) (by first | omega | (simp only [List.length_map, List.length_nil, List.length_append, List.length_cons, List.length_take, List.length_drop]; omega) | simp) (by omega) (by omega) rfl ?_
          clear hi1 hi2 hi3 hi4
          intro b13 c13 w13 hb13 hO13 hK13
          rw [snoc_len8 (x := (x >>> (56 - 8 * u)) % 256), ← hP1, snoc_map8, ← hP1] at hO13
          rw [snoc_len8 (x := (x >>> (56 - 8 * u)) % 256), ← hP1]
          refine st (y_assign rfl) rfl ?_
          refine l_nil ?_
          refine q_block ?_
          refine q_then ?_
          refine c_region ?_
          refine st (y_move rfl) rfl ?_
          refine st (y_sub_i (b := 8) rfl rfl (by omega) (by omega)) rfl ?_
          rw [show ((56 - 8 * u : Nat) : Int) - 8 = (56 : Int) - 8 * ((u + 1 : Nat) : Int) by omega]
          refine st (y_assign rfl) rfl ?_
          refine l_nil ?_
          exact q_round (u + 1, b13, c13) ⟨rfl, rfl, rfl, rfl, rfl, rfl, trivial⟩ ⟨by simp only; omega, h5.app hb13 hO13 hK13⟩ (by simp only; omega)
        ·
          have hu8 : u = 8 := by omega
          subst hu8
          have ht8 : (be8 x).take 8 = be8 x := List.take_of_length_le (by omega)
          rw [ht8, ← hbk] at h4 ⊢
          refine l_nil ?_
          refine q_then ?_
          refine c_false rfl rfl ?_
          refine c_exit ?_
          refine q_then_exit ?_
          refine q_then_exit ?_
          refine q_block_hit ?_
          refine q_block ?_
          refine q_then ?_
          refine c_region ?_
          first | refine st (y_add_in (b := 1) rfl rfl (by omega)) rfl ?_ | refine st (y_add_i (b := 1) rfl rfl (by omega) (by omega)) rfl ?_
          refine st (y_move rfl) rfl ?_
          refine l_nil ?_
          exact q_round (k + 1, pb2, pc2) ⟨rfl, rfl, rfl, rfl, trivial⟩ ⟨by simp only; omega, h4⟩ (by simp only; omega)
    ·
      have hke : k = X.length := by omega
      subst hke
      rw [List.take_length, ← hset] at h3 ⊢
      refine l_nil ?_
      refine q_then ?_
      refine c_seq ?_
      refine c_false rfl rfl ?_
      refine c_exit ?_
      refine q_then_exit ?_
      refine q_then_exit ?_
      refine q_block_hit ?_
      refine q_then ?_
      refine c_seq ?_
      refine c_region ?_
      refine st (y_move rfl) rfl ?_
      refine st (y_assign rfl) rfl ?_
      refine l_nil ?_
      refine q_then ?_
      refine c_ret ?_
      refine q_end1 (.inl rfl) rfl rfl ?_
      exact ⟨_, rfl, pb, pc, rfl, h3.po.base (by omega), hK19.trans hK10 (fun i hi => by simp only [List.mem_singleton] at hi; exact .inr (by omega))⟩

end Go.Proofs.YtkemlhhpakjojaaDoor

/- append of nothing at all to a slice; a 16-bit number as an int; no statement of the program is proved here. -/
set_option linter.unusedVariables false
set_option linter.unusedSimpArgs false
namespace Go.Proofs.YtkemlhhpakjojaaDoor
open Go Go.RowKit
section
variable {P : Program} {ops : Array Oper} {Q : Exit → Act → World → Prop} {n : Nat} {D : List Deferred} {F : Fr} {rest : List Oper} {w : World} {T : TypeId} {pos : String} {af : Array Edge}
theorem st_appendN {d : Nat} {x y : Operand} {t e : TypeId} {i : TypeInfo} {base : Nat} {v : Value} {xs : List Value} (hx : ev F x = some v) (hy : ev F y = some (.slice none 0 0)) (ht : P.underlying t = some (.slice e)) (hi : P.info? e = some i)
    (hO : Ow w base e v xs) (hd : Nat.blt d n = true) (k : wpL P ops Q n D ((d, v) :: F) rest w) : wpL P ops Q n D F (⟨some d, .call ⟨.builtin .append, #[x, y], #[t, t]⟩, T, pos, af, none⟩ :: rest) w := by
  have hr := run_append_owned_none (P := P) (w := w) base t T e i 1 ht hi v xs.length xs hO.owns
  refine st (v := v) (w' := w) ?_ hd k
  exact fun dst pos af gd ρ hρ => .inl (by
    rw [exec_builtin hρ (vals := [v, .slice none 0 0]) (by simp [evs, hx, hy])]
    simp [builtin, hr])
/-- append of a slice that may be nil, onto one whose block is known -/
theorem st_appendU {d : Nat} {x y : Operand} {t e : TypeId} {i : TypeInfo} {z : Value} {base m c1 b0 n0 c0 : Nat} {A1 : Option Addr} {xs news : List Value} (hx : ev F x = some (vS b0 n0 c0)) (hy : ev F y = some (.slice A1 m c1)) (ht : P.underlying t = some (.slice e)) (hi : P.info? e = some i) (hz : i.zero = some z) (hs : i.size = 1) (hb : i.bytes ≤ 64) (hz1 : z.oneCell' = true)
    (hA : A1 = none → m = 0 ∧ c1 = 0) (hl : news.length = m) (hnews : ∀ ad, A1 = some ad → ∀ j u', news[j]? = some u' → w.cell? (ad.add j) = some u') (hu : ∀ u ∈ news, u.oneCell' = true)
    (hO : Ow w base e (vS b0 n0 c0) xs) (hlen : xs.length ≤ 1000000) (hm : m ≤ 1000000) (hbase : base ≤ w.heap.size) (hd : Nat.blt d n = true)
    (k : ∀ v' w1, Ow w1 base e v' (xs ++ news) → Keep w w1 [b0] → wpL P ops Q n D ((d, v') :: F) rest w1) : wpL P ops Q n D F (⟨some d, .call ⟨.builtin .append, #[x, y], #[t, t]⟩, T, pos, af, none⟩ :: rest) w := by
  rcases A1 with _ | ad
  · obtain ⟨rfl, rfl⟩ := hA rfl
    have : news = [] := List.eq_nil_of_length_eq_zero hl
    subst this
    exact st_appendN hx hy ht hi hO hd (k _ _ (by rw [List.append_nil]; exact hO) (Keep.refl _ _))
  · exact st_appendB hx hy ht hi hz hs hb hz1 hl (hnews ad rfl) hu hO hlen hm hbase hd k
theorem y_conv_16i {x : Operand} {s t : TypeId} {m : Nat} (hx : ev F x = some (.int .u16 (m : Nat))) (hs : (P.underlying s).isSome = true) (ht : P.underlying t = some (.int .i64)) (h : m < 65536) : Zv P w F (.convert s t x) T (vI m) w := by
  have := y_conv (T := T) (w := w) hx hs ht
  rwa [wrap_i64 _ (by omega) (by omega)] at this
end
end Go.Proofs.YtkemlhhpakjojaaDoor

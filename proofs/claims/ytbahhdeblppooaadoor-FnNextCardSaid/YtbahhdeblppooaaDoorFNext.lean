/- The next number that is in a set or is not, and the one ahead: the reference's, the thin package's, and the statement's own walk. -/
import Derived.Test.YtbahhdeblppooaaDoorM2
import Derived.Test.YtbahhdeblppooaaDoorT2
set_option linter.unusedVariables false
set_option linter.unusedSimpArgs false
set_option maxRecDepth 100000
set_option maxHeartbeats 1000000
namespace Go.Proofs.YtbahhdeblppooaaDoor
open Go Go.RowKit

/-- what a kind of search finds, or that there is nothing -/
def NextR (k : Nat) (s : List Bool) (i : Nat) : Option Nat → Prop
  | some x => if k = 0 then Nxt s i x else if k = 1 then Nxt (bnots s) i x else if k = 2 then PrvF (fun j => s.getD j false) i x else PrvF (fun j => !s.getD j false) i x
  | none => if k = 0 then Non s i else if k = 1 then Non (bnots s) i else if k = 2 then NoPF (fun j => s.getD j false) i else NoPF (fun j => !s.getD j false) i
theorem NextR.no {k : Nat} {s : List Bool} {i x : Nat} (h : NextR k s i (some x)) (h' : NextR k s i none) : False := by
  simp only [NextR] at h h'
  by_cases h0 : k = 0
  · rw [if_pos h0] at h h'; exact h.not h'
  · rw [if_neg h0] at h h'
    by_cases h1 : k = 1
    · rw [if_pos h1] at h h'; exact h.not h'
    · rw [if_neg h1] at h h'
      by_cases h2 : k = 2
      · rw [if_pos h2] at h h'; exact h.not h'
      · rw [if_neg h2] at h h'; exact h.not h'
theorem NextR.one {k : Nat} {s : List Bool} {i x y : Nat} (h : NextR k s i (some x)) (h' : NextR k s i (some y)) : x = y := by
  simp only [NextR] at h h'
  by_cases h0 : k = 0
  · rw [if_pos h0] at h h'; exact h.unique h'
  · rw [if_neg h0] at h h'
    by_cases h1 : k = 1
    · rw [if_pos h1] at h h'; exact h.unique h'
    · rw [if_neg h1] at h h'
      by_cases h2 : k = 2
      · rw [if_pos h2] at h h'; exact h.unique h'
      · rw [if_neg h2] at h h'; exact h.unique h'
theorem NextR.unique {k : Nat} {s : List Bool} {i : Nat} {r r' : Option Nat} (h : NextR k s i r) (h' : NextR k s i r') : r = r' := by
  cases r with
  | none =>
    cases r' with
    | none => rfl
    | some y => exact (h'.no h).elim
  | some x =>
    cases r' with
    | none => exact (h.no h').elim
    | some y => rw [h.one h']

theorem c_specNext (b : Nat) (s : List Bool) (i : Nat) (y : Bool) (w : World) (hB : Bl w b s) (hs : s.length ≤ 100000) (hi : i ≤ 100000) :
    Cal Tryd.prog 11 [vS b s.length s.length, vI (i : Nat), vB y] w fun v w' => w = w' ∧ ∃ r, v = vT [vU (r.getD 0), vB r.isSome] ∧ NextR (if y then 0 else 1) s i r := by
  obtain ⟨t, ht⟩ : ∃ t, (if y then s else bnots s) = t := ⟨_, rfl⟩
  have htl : t.length = s.length := by rw [← ht]; cases y <;> simp [bnots]
  have hfin : ∀ r, (match r with | some x => Nxt t i x | none => Non t i) → NextR (if y then 0 else 1) s i r := by
    intro r h
    unfold NextR
    cases y <;> cases r <;> simpa [← ht] using h
  have htb : ∀ k, k < s.length → (t.getD k false = decide (s.getD k false = y)) := by
    intro k hk
    rw [← ht]
    cases y with
    | true => simp
    | false =>
      simp only [Bool.false_eq_true, if_false]
      rw [bnots_getD]
      cases s.getD k false <;> simp [hk]
  have hBl : Blk w b 4 (s.map vB) := hB
  refine go_in' Tryd.func11 rfl Tryd.ntmps11 (Nat.le_of_ble_eq_true rfl) ?_
  refine c_seq ?_
  refine c_region ?_
  refine st (y_assign (v := vU 0) rfl) rfl ?_
  refine st (y_assign rfl) rfl ?_
  refine l_nil ?_
  refine q_then ?_
  refine c_seq ?_
  refine c_block ?_
  refine c_loop (fun k : Nat => [(0, vS b s.length s.length), (1, vI (k : Nat)), (2, vB y)]) (fun k w' => w = w' ∧ k ≤ 200000 ∧ i ≤ k ∧ ∀ j, i ≤ j → j < k → t.getD j false = false) (fun k => s.length - k) i ?_ ?_ ?_
  · exact ⟨rfl, rfl, rfl, trivial⟩
  · exact ⟨rfl, by omega, Nat.le_refl _, fun j h1 h2 => by omega⟩
  · rintro k w1 ⟨rfl, hk2, hik, hg⟩
    refine c_seq ?_
    refine c_seq ?_
    refine c_region ?_
    refine st (y_move rfl) rfl ?_
    refine st (y_move rfl) rfl ?_
    refine st (y_len rfl Tryd.underlying28) rfl ?_
    refine st_if (y_lt_i rfl rfl) rfl (fun hlt => ?_) (fun hlt => ?_)
    · have hlt' : k < s.length := by omega
      refine l_nil ?_
      refine q_then ?_
      refine c_true rfl rfl ?_
      refine c_skip ?_
      refine q_then ?_
      refine c_seq ?_
      refine c_block ?_
      refine c_seq ?_
      refine c_region ?_
      refine st (y_move rfl) rfl ?_
      refine st (y_move rfl) rfl ?_
      first | refine st (y_index0 rfl rfl Tryd.underlying28 sz4 (by omega)) rfl ?_ | refine st (y_index rfl rfl Tryd.underlying28 sz4 (by omega)) rfl ?_ | refine st (y_indexA rfl rfl Tryd.underlying28 sz4 (by omega)) rfl ?_
      first | refine st (y_loadM (false) rfl one4 (by assumption) (by first | omega | (simp only [List.length_append, List.length_map, List.length_replicate, List.length_set, List.length_take, List.length_drop]; omega) | (simp; done))) rfl ?_ | refine st (y_load rfl one4 (by assumption)) rfl ?_
      refine st (y_move rfl) rfl ?_
      refine st_if (y_eq_b rfl rfl Tryd.underlying4) rfl (fun he => ?_) (fun he => ?_)
      · have hk := htb k hlt'
        rw [decide_eq_true he] at hk
        refine l_nil ?_
        refine q_then ?_
        refine c_true rfl rfl ?_
        refine c_seq ?_
        refine c_region ?_
        refine st (y_move rfl) rfl ?_
        refine st (y_conv_iu rfl us3 Tryd.underlying22 rfl (by omega)) rfl ?_
        refine st (y_assign rfl) rfl ?_
        refine st (y_assign rfl) rfl ?_
        refine l_nil ?_
        refine q_then ?_
        refine c_ret ?_
        refine q_block_ret ?_
        refine q_then_ret ?_
        refine q_then_ret ?_
        refine q_block_ret ?_
        refine q_then_ret ?_
        refine q_end2 (.inl rfl) rfl rfl rfl ?_
        exact ⟨_, rfl, rfl, some k, rfl, hfin (some k) ⟨hik, hk, hg⟩⟩
      ·
        have hk := htb k hlt'
        rw [decide_eq_false he] at hk
        refine l_nil ?_
        refine q_then ?_
        refine c_false rfl rfl ?_
        refine c_skip ?_
        refine q_block ?_
        refine q_then ?_
        refine c_region ?_
        refine st (y_move rfl) rfl ?_
        first | refine st (y_add_in (b := 1) rfl rfl (by omega)) rfl ?_ | refine st (y_add_i (b := 1) rfl rfl (by omega) (by omega)) rfl ?_
        refine st (y_assign rfl) rfl ?_
        refine l_nil ?_
        refine q_round (k + 1) ⟨rfl, rfl, rfl, trivial⟩ ⟨rfl, by omega, by omega, fun j h1 h2 => ?_⟩ (by omega)
        rcases Nat.lt_or_ge j k with h3 | h3
        · exact hg j h1 h3
        · rw [show j = k by omega]; exact hk
    ·
      refine l_nil ?_
      refine q_then ?_
      refine c_false rfl rfl ?_
      refine c_exit ?_
      refine q_then_exit ?_
      refine q_then_exit ?_
      refine q_block_hit ?_
      refine q_then ?_
      refine c_seq ?_
      refine c_region ?_
      refine st (y_assign (v := vU 0) rfl) rfl ?_
      refine st (y_assign rfl) rfl ?_
      refine l_nil ?_
      refine q_then ?_
      refine c_ret ?_
      refine q_end2 (.inl rfl) rfl rfl rfl ?_
      refine ⟨_, rfl, rfl, none, rfl, hfin none fun j hj => ?_⟩
      rcases Nat.lt_or_ge j k with h3 | h3
      · exact hg j hj h3
      · exact getD_ge _ false (by omega)

theorem c_specPrevious (b : Nat) (s : List Bool) (i : Nat) (y : Bool) (w : World) (hB : Bl w b s) (hs : s.length ≤ 100000) (hi : i ≤ 100000) :
    Cal Tryd.prog 12 [vS b s.length s.length, vI (i : Nat), vB y] w fun v w' => w = w' ∧ ∃ r, v = vT [vU (r.getD 0), vB r.isSome] ∧ NextR (if y then 2 else 3) s i r := by
  have hfb : ∀ j, (if y then s.getD j false else !s.getD j false) = decide (s.getD j false = y) := by
    intro j
    cases y <;> cases s.getD j false <;> rfl
  have hfin : ∀ r, (match r with | some x => PrvF (fun j => decide (s.getD j false = y)) i x | none => NoPF (fun j => decide (s.getD j false = y)) i) → NextR (if y then 2 else 3) s i r := by
    intro r h
    unfold NextR
    cases r with
    | none =>
      have h2 := NoPF.congr (g := fun j => if y then s.getD j false else !s.getD j false) h (fun j _ => (hfb j).symm)
      cases y <;> simpa using h2
    | some x =>
      have h2 := PrvF.congr (g := fun j => if y then s.getD j false else !s.getD j false) h (fun j _ => (hfb j).symm)
      cases y <;> simpa using h2
  refine go_in' Tryd.func12 rfl Tryd.ntmps12 (Nat.le_of_ble_eq_true rfl) ?_
  refine c_seq ?_
  refine c_region ?_
  refine st (y_assign (v := vU 0) rfl) rfl ?_
  refine st (y_assign rfl) rfl ?_
  refine l_nil ?_
  refine q_then ?_
  refine c_seq ?_
  refine c_block ?_
  refine c_loop (fun k : Nat => [(0, vS b s.length s.length), (1, vI ((k : Int) - 1)), (2, vB y)]) (fun k w' => w = w' ∧ k ≤ i + 1 ∧ ∀ j, k ≤ j → j ≤ i → s.getD j false ≠ y) (fun k => k) (i + 1) ?_ ?_ ?_
  · refine ⟨rfl, ?_, rfl, trivial⟩
    rw [show (((i + 1 : Nat) : Int) - 1) = (i : Int) by omega]; rfl
  · exact ⟨rfl, Nat.le_refl _, fun j h1 h2 => by omega⟩
  · rintro k w1 ⟨rfl, hk, hg⟩
    refine c_seq ?_
    refine c_seq ?_
    refine c_region ?_
    refine st (y_move rfl) rfl ?_
    refine st_if (y_ge_i (b := 0) rfl rfl) rfl (fun hge => ?_) (fun hge => ?_)
    · have hk0 : 0 < k := by omega
      rw [sub1_int hk0]
      refine l_nil ?_
      refine q_then ?_
      refine c_true rfl rfl ?_
      refine c_skip ?_
      refine q_then ?_
      refine c_seq ?_
      refine c_block ?_
      refine c_seq ?_
      refine c_region ?_
      refine st (y_move rfl) rfl ?_
      refine st (y_move rfl) rfl ?_
      refine sc rfl rfl isfn27 (c_Has b s (k - 1) _ hB (by omega)) rfl ?_
      rintro _ _ ⟨rfl, rfl⟩
      refine st (y_move rfl) rfl ?_
      refine st_if (y_eq_b rfl rfl Tryd.underlying4) rfl (fun he => ?_) (fun he => ?_)
      · refine l_nil ?_
        refine q_then ?_
        refine c_true rfl rfl ?_
        refine c_seq ?_
        refine c_region ?_
        refine st (y_move rfl) rfl ?_
        refine st (y_conv_iu rfl us3 Tryd.underlying22 rfl (by omega)) rfl ?_
        refine st (y_assign rfl) rfl ?_
        refine st (y_assign rfl) rfl ?_
        refine l_nil ?_
        refine q_then ?_
        refine c_ret ?_
        refine q_block_ret ?_
        refine q_then_ret ?_
        refine q_then_ret ?_
        refine q_block_ret ?_
        refine q_then_ret ?_
        refine q_end2 (.inl rfl) rfl rfl rfl ?_
        exact ⟨_, rfl, rfl, some (k - 1), rfl, hfin (some (k - 1)) ⟨by omega, decide_eq_true he, fun j h1 h2 => decide_eq_false (hg j (by omega) h2)⟩⟩
      ·
        refine l_nil ?_
        refine q_then ?_
        refine c_false rfl rfl ?_
        refine c_skip ?_
        refine q_block ?_
        refine q_then ?_
        refine c_region ?_
        refine st (y_move rfl) rfl ?_
        refine st (y_sub_i (b := 1) rfl rfl (by omega) (by omega)) rfl ?_
        refine st (y_assign rfl) rfl ?_
        refine l_nil ?_
        refine q_round (k - 1) ⟨rfl, rfl, rfl, trivial⟩ ⟨rfl, by omega, fun j h1 h2 => ?_⟩ (by omega)
        rcases Nat.lt_or_ge j k with h3 | h3
        · rw [show j = k - 1 by omega]; exact he
        · exact hg j h3 h2
    ·
      refine l_nil ?_
      refine q_then ?_
      refine c_false rfl rfl ?_
      refine c_exit ?_
      refine q_then_exit ?_
      refine q_then_exit ?_
      refine q_block_hit ?_
      refine q_then ?_
      refine c_seq ?_
      refine c_region ?_
      refine st (y_assign (v := vU 0) rfl) rfl ?_
      refine st (y_assign rfl) rfl ?_
      refine l_nil ?_
      refine q_then ?_
      refine c_ret ?_
      refine q_end2 (.inl rfl) rfl rfl rfl ?_
      exact ⟨_, rfl, rfl, none, rfl, hfin none fun j hj => decide_eq_false (hg j (by omega) hj)⟩

theorem c_implNext (k : Nat) (hk : k < 4) (L : Nat) (A : Option Addr) (n c : Nat) (xs : List Nat) (i : Nat) (w : World) (hT : Tb w) (hR : Rd w A n xs) (hL : L ≤ 6000) (hx : ∀ x ∈ xs, x ≤ 6000) (hi : i < (mkS L xs).length) :
    Cal Tryd.prog 10 [vI (k : Nat), aB L A n c, vU i] w fun v w' => Keep w w' [] ∧ ∃ r, v = vT [vU (r.getD 0), vB r.isSome] ∧ NextR k (mkS L xs) i r := by
  have hlen : (mkS L xs).length ≤ 6001 := mkS_length_le L 6001 xs (by omega) fun x h => by have := hx x h; omega
  have hT0 := hT.1
  refine go_in' Tryd.func10 rfl Tryd.ntmps10 (Nat.le_of_ble_eq_true rfl) ?_
  refine c_seq ?_
  refine c_region ?_
  refine st_box _ rfl rfl rfl ?_
  intro b1 w1 hb1 hB1 hK1 hS1
  refine st (y_assign (v := vU 0) rfl) rfl ?_
  refine st (y_assign rfl) rfl ?_
  refine l_nil ?_
  refine q_then ?_
  refine c_seq ?_
  refine c_region ?_
  refine st (y_loadagg rfl agg25 us25 sz25 (by assumption) (by simp) (by rfl)) rfl ?_
  refine sc rfl rfl isfn22 (c_made L A n c xs _ (hR.keep hK1 (by simp)) hL hx) rfl ?_
  rintro _ w3 ⟨p, q, rfl, hp, hq, hS, hK3⟩
  have hK13 := hK1.trans hK3 (by simp)
  have hT3 := hT.keep hK13 (by simp)
  obtain ⟨s, hs⟩ : ∃ s, mkS L xs = s := ⟨_, rfl⟩
  rw [hs] at hS hi hlen ⊢
  refine st (y_move rfl) rfl ?_
  refine st (y_extract rfl rfl) rfl ?_
  refine st (y_extract rfl rfl) rfl ?_
  refine st (y_assign rfl) rfl ?_
  refine st (y_assign rfl) rfl ?_
  refine l_nil ?_
  refine q_then ?_
  refine c_seq ?_
  refine c_seq ?_
  refine c_region ?_
  refine st (y_move rfl) rfl ?_
  refine st (y_not rfl) rfl ?_
  refine st (y_move rfl) rfl ?_
  refine stg rfl rfl (y_move rfl) rfl ?_
  refine stg_f rfl rfl (y_gt_u (b := 6000) rfl rfl) (by omega) rfl ?_
  refine st (y_pickF rfl rfl) rfl ?_
  refine l_nil ?_
  refine q_then ?_
  refine c_false rfl rfl ?_
  refine c_skip ?_
  refine q_then ?_
  refine c_seq ?_
  refine c_seq ?_
  refine c_region ?_
  refine st (y_move rfl) rfl ?_
  refine l_nil ?_
  refine q_then ?_
  refine c_block ?_
  refine c_seq ?_
  refine c_region ?_
  refine st_if (y_eq_i (b := 0) rfl rfl) rfl (fun h0 => ?_) (fun h0 => ?_)
  · have e : k = 0 := by omega
    subst e
    refine st (y_assign rfl) rfl ?_
    refine l_nil ?_
    refine q_then ?_
    refine c_true rfl rfl ?_
    refine c_seq ?_
    refine c_region ?_
    refine st (y_move rfl) rfl ?_
    refine st (y_move rfl) rfl ?_
    refine sc rfl rfl isfn23 (c_NextSet p q s i _ hT3 hS (by omega) (by omega)) rfl ?_
    rintro v4 w4 ⟨hK4, hr⟩
    obtain ⟨r, hv4, hn4⟩ : ∃ r, v4 = vT [vU (r.getD 0), vB r.isSome] ∧ NextR 0 s i r := by
      rcases hr with ⟨x, e, h⟩ | ⟨e, h⟩
      · exact ⟨some x, e, h⟩
      · exact ⟨none, e, h⟩
    clear hr
    subst hv4
    refine st (y_extract rfl rfl) rfl ?_
    refine st (y_extract rfl rfl) rfl ?_
    refine st (y_assign rfl) rfl ?_
    refine st (y_assign rfl) rfl ?_
    refine l_nil ?_
    refine q_then ?_
    refine c_ret ?_
    refine q_block_ret ?_
    refine q_then_ret ?_
    refine q_end2 (.inl rfl) rfl rfl rfl ?_
    exact ⟨_, rfl, hK13.trans hK4 (by simp), r, rfl, hn4⟩
  ·
    refine st (y_assign rfl) rfl ?_
    refine l_nil ?_
    refine q_then ?_
    refine c_false rfl rfl ?_
    refine c_seq ?_
    refine c_region ?_
    refine st_if (y_eq_i (b := 1) rfl rfl) rfl (fun h1 => ?_) (fun h1 => ?_)
    · have e : k = 1 := by omega
      subst e
      refine st (y_assign rfl) rfl ?_
      refine l_nil ?_
      refine q_then ?_
      refine c_true rfl rfl ?_
      refine c_seq ?_
      refine c_region ?_
      refine st (y_move rfl) rfl ?_
      refine st (y_move rfl) rfl ?_
      refine sc rfl rfl isfn24 (c_NextClear p q s i _ hT3 hS hi (by omega)) rfl ?_
      rintro v4 w4 ⟨hK4, hr⟩
      obtain ⟨r, hv4, hn4⟩ : ∃ r, v4 = vT [vU (r.getD 0), vB r.isSome] ∧ NextR 1 s i r := by
        rcases hr with ⟨x, e, h⟩ | ⟨e, h⟩
        · exact ⟨some x, e, h⟩
        · exact ⟨none, e, h⟩
      clear hr
      subst hv4
      refine st (y_extract rfl rfl) rfl ?_
      refine st (y_extract rfl rfl) rfl ?_
      refine st (y_assign rfl) rfl ?_
      refine st (y_assign rfl) rfl ?_
      refine l_nil ?_
      refine q_then ?_
      refine c_ret ?_
      refine q_block_ret ?_
      refine q_then_ret ?_
      refine q_end2 (.inl rfl) rfl rfl rfl ?_
      exact ⟨_, rfl, hK13.trans hK4 (by simp), r, rfl, hn4⟩
    ·
      refine st (y_assign rfl) rfl ?_
      refine l_nil ?_
      refine q_then ?_
      refine c_false rfl rfl ?_
      refine c_seq ?_
      refine c_region ?_
      refine st_if (y_eq_i (b := 2) rfl rfl) rfl (fun h2 => ?_) (fun h2 => ?_)
      · have e : k = 2 := by omega
        subst e
        refine st (y_assign rfl) rfl ?_
        refine l_nil ?_
        refine q_then ?_
        refine c_true rfl rfl ?_
        refine c_seq ?_
        refine c_region ?_
        refine st (y_move rfl) rfl ?_
        refine st (y_move rfl) rfl ?_
        refine sc rfl rfl isfn25 (c_PreviousSet p q s i _ hS hi (by omega)) rfl ?_
        rintro v4 w4 ⟨hK4, hr⟩
        obtain ⟨r, hv4, hn4⟩ : ∃ r, v4 = vT [vU (r.getD 0), vB r.isSome] ∧ NextR 2 s i r := by
          rcases hr with ⟨x, e, h⟩ | ⟨e, h⟩
          · exact ⟨some x, e, h⟩
          · exact ⟨none, e, h⟩
        clear hr
        subst hv4
        refine st (y_extract rfl rfl) rfl ?_
        refine st (y_extract rfl rfl) rfl ?_
        refine st (y_assign rfl) rfl ?_
        refine st (y_assign rfl) rfl ?_
        refine l_nil ?_
        refine q_then ?_
        refine c_ret ?_
        refine q_block_ret ?_
        refine q_then_ret ?_
        refine q_end2 (.inl rfl) rfl rfl rfl ?_
        exact ⟨_, rfl, hK13.trans hK4 (by simp), r, rfl, hn4⟩
      ·
        have e : k = 3 := by omega
        subst e
        refine st (y_assign rfl) rfl ?_
        refine l_nil ?_
        refine q_then ?_
        refine c_false rfl rfl ?_
        refine c_seq ?_
        refine c_region ?_
        refine st_t (y_eq_i (b := 3) rfl rfl) (by omega) rfl ?_
        refine st (y_assign rfl) rfl ?_
        refine l_nil ?_
        refine q_then ?_
        refine c_true rfl rfl ?_
        refine c_seq ?_
        refine c_region ?_
        refine st (y_move rfl) rfl ?_
        refine st (y_move rfl) rfl ?_
        refine sc rfl rfl isfn26 (c_PreviousClear p q s i _ hS hi (by omega)) rfl ?_
        rintro v4 w4 ⟨hK4, hr⟩
        obtain ⟨r, hv4, hn4⟩ : ∃ r, v4 = vT [vU (r.getD 0), vB r.isSome] ∧ NextR 3 s i r := by
          rcases hr with ⟨x, e, h⟩ | ⟨e, h⟩
          · exact ⟨some x, e, h⟩
          · exact ⟨none, e, h⟩
        clear hr
        subst hv4
        refine st (y_extract rfl rfl) rfl ?_
        refine st (y_extract rfl rfl) rfl ?_
        refine st (y_assign rfl) rfl ?_
        refine st (y_assign rfl) rfl ?_
        refine l_nil ?_
        refine q_then ?_
        refine c_ret ?_
        refine q_block_ret ?_
        refine q_then_ret ?_
        refine q_end2 (.inl rfl) rfl rfl rfl ?_
        exact ⟨_, rfl, hK13.trans hK4 (by simp), r, rfl, hn4⟩

theorem c_FnNext (k : Nat) (L : Nat) (A : Option Addr) (n c : Nat) (xs : List Nat) (i : Nat) (w : World) (hT : Tb w) (hR : Rd w A n xs) (hk : k < 256) (hi : i < 18446744073709551616) :
    Cal Tryd.prog 3 [v8 k, aB L A n c, vU i] w fun v w' => v = vB true ∧ Keep w w' [] := by
  have hT0 := hT.1
  have hk4 : k % 4 < 4 := Nat.mod_lt _ (by decide)
  refine go_in' Tryd.func3 rfl Tryd.ntmps3 (Nat.le_of_ble_eq_true rfl) ?_
  refine c_seq ?_
  refine c_region ?_
  refine st_box _ rfl rfl rfl ?_
  intro b1 w1 hb1 hB1 hK1 hS1
  refine st (y_assign rfl) rfl ?_
  refine l_nil ?_
  refine q_then ?_
  refine c_seq ?_
  refine c_seq ?_
  refine c_region ?_
  refine st (y_loadagg rfl agg25 us25 sz25 (by assumption) (by simp) (by rfl)) rfl ?_
  refine sc rfl rfl isfn8 (c_zzFits1 L A n c _) rfl ?_
  rintro _ w2 ⟨rfl, hK2⟩
  have hB1 := hB1.keep hK2 (by simp only [List.mem_cons, List.not_mem_nil, or_false, not_or, not_false_eq_true] <;> omega)
  have hK := hK1.trans hK2 (by simp)
  clear hK1 hK2
  refine st (y_not rfl) rfl ?_
  refine l_nil ?_
  refine q_then ?_
  refine c_ifb rfl (fun hz => ?_) (fun hz => ?_)
  · refine c_seq ?_
    refine c_region ?_
    refine st (y_assign rfl) rfl ?_
    refine l_nil ?_
    refine q_then ?_
    refine c_ret ?_
    refine q_then_ret ?_
    refine q_end1 (.inl rfl) rfl rfl ?_
    exact ⟨_, rfl, rfl, hK⟩
  ·
    refine c_skip ?_
    refine q_then ?_
    refine c_seq ?_
    refine c_region ?_
    refine st (y_loadagg rfl agg25 us25 sz25 (by assumption) (by simp) (by rfl)) rfl ?_
    refine sc rfl rfl isfn9 (c_set L A n c xs _ (hR.keep hK (by simp))) rfl ?_
    rintro _ w3 ⟨hK3, ⟨ho, b, rfl, hBl, hb⟩ | rfl⟩
    · have hB1 := hB1.keep hK3 (by simp only [List.mem_cons, List.not_mem_nil, or_false, not_or, not_false_eq_true] <;> omega)
      have hK' := hK.trans hK3 (by simp)
      have hlen := ho.len
      clear hK hK3
      obtain ⟨s, hs⟩ : ∃ s, mkS L xs = s := ⟨_, rfl⟩
      rw [hs] at hlen hBl ⊢
      refine st (y_move rfl) rfl ?_
      refine st (y_extract rfl rfl) rfl ?_
      refine st (y_extract rfl rfl) rfl ?_
      refine st (y_assign rfl) rfl ?_
      refine st (y_assign rfl) rfl ?_
      refine l_nil ?_
      refine q_then ?_
      refine c_seq ?_
      refine c_seq ?_
      refine c_region ?_
      refine st (y_move rfl) rfl ?_
      refine st (y_not rfl) rfl ?_
      refine st (y_move rfl) rfl ?_
      refine stg rfl rfl (y_move rfl) rfl ?_
      refine stg rfl rfl (y_move rfl) rfl ?_
      refine stg rfl rfl (y_len rfl Tryd.underlying28) rfl ?_
      refine stg rfl rfl (y_conv_iu rfl us3 Tryd.underlying22 rfl (by omega)) rfl ?_
      refine stg_if rfl rfl (y_ge_u rfl rfl) rfl (fun h1 => ?_) (fun h1 => ?_)
      · refine st (y_pickF rfl rfl) rfl ?_
        refine l_nil ?_
        refine q_then ?_
        refine c_true rfl rfl ?_
        refine c_seq ?_
        refine c_region ?_
        refine st (y_assign rfl) rfl ?_
        refine l_nil ?_
        refine q_then ?_
        refine c_ret ?_
        refine q_then_ret ?_
        refine q_end1 (.inl rfl) rfl rfl ?_
        exact ⟨_, rfl, rfl, hK'⟩
      ·
        obtain ⟨m, hm⟩ : ∃ m, k % 4 = m := ⟨_, rfl⟩
        refine st (y_pickF rfl rfl) rfl ?_
        refine l_nil ?_
        refine q_then ?_
        refine c_false rfl rfl ?_
        refine c_skip ?_
        refine q_then ?_
        refine c_seq ?_
        refine c_region ?_
        refine st (y_move rfl) rfl ?_
        refine st (y_rem_8 (b := 4) rfl rfl (by omega)) rfl ?_
        refine st (y_conv_8i rfl us5 Tryd.underlying3 (by omega)) rfl ?_
        refine st (y_assign rfl) rfl ?_
        refine l_nil ?_
        refine q_then ?_
        rw [hm] at hk4 ⊢
        refine c_seq ?_
        refine c_region ?_
        refine st (y_move rfl) rfl ?_
        refine st (y_loadagg rfl agg25 us25 sz25 (by assumption) (by simp) (by rfl)) rfl ?_
        refine st (y_move rfl) rfl ?_
        refine sc rfl rfl isfn10 (c_implNext m hk4 L A n c xs i _ (hT.keep hK' (by simp)) (hR.keep hK' (by simp)) (by have := ho.1; omega) (fun x h => by have := ho.2.2 x h; omega) (by rw [hs]; omega)) rfl ?_
        rintro _ w4 ⟨hK4, r, rfl, hr⟩
        rw [hs] at hr
        have hBl4 := hBl.keep hK4 (by simp)
        have hK14 := hK'.trans hK4 (by simp)
        refine st (y_move rfl) rfl ?_
        refine st (y_extract rfl rfl) rfl ?_
        refine st (y_extract rfl rfl) rfl ?_
        refine st (y_assign rfl) rfl ?_
        refine st (y_assign rfl) rfl ?_
        refine l_nil ?_
        refine q_then ?_
        refine c_seq ?_
        refine c_region ?_
        refine st (y_assign (v := vU 0) rfl) rfl ?_
        refine st (y_assign rfl) rfl ?_
        refine l_nil ?_
        refine q_then ?_
        refine c_cut (fun _ : Unit => [(10, vU (r.getD 0)), (11, vB r.isSome), (12, vU (r.getD 0)), (13, vB r.isSome)]) (fun _ w' => Keep w w' []) ?_ ?_
        · refine c_seq ?_
          refine c_region ?_
          refine st (y_move rfl) rfl ?_
          refine st_if (y_lt_i (b := 2) rfl rfl) rfl (fun h2 => ?_) (fun h2 => ?_)
          · refine l_nil ?_
            refine q_then ?_
            refine c_true rfl rfl ?_
            refine c_region ?_
            refine st (y_move rfl) rfl ?_
            refine st (y_move rfl) rfl ?_
            refine st (y_conv_ui rfl us22 Tryd.underlying3 (by omega)) rfl ?_
            refine st (y_move rfl) rfl ?_
            refine st (y_eq_i (b := 0) rfl rfl) rfl ?_
            refine sc rfl rfl isfn11 (c_specNext b s i (decide ((m : Int) = 0)) _ hBl4 (by omega) (by omega)) rfl ?_
            rintro _ w5 ⟨rfl, r5, rfl, hr5⟩
            have er : r5 = r := by
              refine NextR.unique hr5 ?_
              have : m = 0 ∨ m = 1 := by omega
              rcases this with rfl | rfl <;> exact hr
            subst er
            refine st (y_move rfl) rfl ?_
            refine st (y_extract rfl rfl) rfl ?_
            refine st (y_extract rfl rfl) rfl ?_
            refine st (y_assign rfl) rfl ?_
            refine st (y_assign rfl) rfl ?_
            refine l_nil ?_
            exact q_meet () ⟨rfl, rfl, rfl, rfl, trivial⟩ hK14
          ·
            refine l_nil ?_
            refine q_then ?_
            refine c_false rfl rfl ?_
            refine c_region ?_
            refine st (y_move rfl) rfl ?_
            refine st (y_move rfl) rfl ?_
            refine st (y_conv_ui rfl us22 Tryd.underlying3 (by omega)) rfl ?_
            refine st (y_move rfl) rfl ?_
            refine st (y_eq_i (b := 2) rfl rfl) rfl ?_
            refine sc rfl rfl isfn12 (c_specPrevious b s i (decide ((m : Int) = 2)) _ hBl4 (by omega) (by omega)) rfl ?_
            rintro _ w5 ⟨rfl, r5, rfl, hr5⟩
            have er : r5 = r := by
              refine NextR.unique hr5 ?_
              have : m = 2 ∨ m = 3 := by omega
              rcases this with rfl | rfl <;> exact hr
            subst er
            refine st (y_move rfl) rfl ?_
            refine st (y_extract rfl rfl) rfl ?_
            refine st (y_extract rfl rfl) rfl ?_
            refine st (y_assign rfl) rfl ?_
            refine st (y_assign rfl) rfl ?_
            refine l_nil ?_
            exact q_meet () ⟨rfl, rfl, rfl, rfl, trivial⟩ hK14
        ·
          rintro _ w6 hK6
          refine c_seq ?_
          refine c_region ?_
          refine sc rfl rfl isfn13 (c_three _) rfl ?_
          rintro _ w7 ⟨b3, rfl, hR3, hb3, hK7⟩
          have hK17 := hK6.trans hK7 (by simp)
          refine sc rfl rfl isfn10 (c_implNext 0 (by omega) 9 _ 3 3 [1, 2, 5] 0 _ (hT.keep hK17 (by simp)) hR3 (by omega) (by decide) (by decide)) rfl ?_
          rintro _ w8 ⟨hK8, r8, rfl, hr8⟩
          have hK18 := hK17.trans hK8 (by simp)
          obtain ⟨y8, hy8⟩ : ∃ y, r8 = some y := by
            cases r8 with
            | some y => exact ⟨y, rfl⟩
            | none =>
              have := hr8 1 (by omega)
              rw [mkS_getD] at this
              simp at this
          subst hy8
          cases r with
          | none =>
            refine st (y_move rfl) rfl ?_
            refine st (y_extract rfl rfl) rfl ?_
            refine st (y_extract rfl rfl) rfl ?_
            refine st (y_assign rfl) rfl ?_
            refine st (y_assign rfl) rfl ?_
            refine l_nil ?_
            refine q_then ?_
            refine c_seq ?_
            refine c_region ?_
            refine st (y_move rfl) rfl ?_
            refine st (y_move rfl) rfl ?_
            refine st_t (y_eq_b rfl rfl Tryd.underlying4) (rfl) rfl ?_
            refine st (y_move rfl) rfl ?_
            refine stg rfl rfl (y_move rfl) rfl ?_
            refine stg rfl rfl (y_not rfl) rfl ?_
            refine stg rfl rfl (y_move rfl) rfl ?_
            refine sno rfl rfl rfl rfl ?_
            refine sno rfl rfl rfl rfl ?_
            refine sno rfl rfl rfl rfl ?_
            refine stg rfl rfl (y_pickT rfl rfl) rfl ?_
            refine st (y_pickT rfl rfl) rfl ?_
            refine st (y_move rfl) rfl ?_
            refine stg rfl rfl (y_move rfl) rfl ?_
            refine st (y_pickT rfl rfl) rfl ?_
            refine st (y_assign rfl) rfl ?_
            refine l_nil ?_
            refine q_then ?_
            refine c_ret ?_
            refine q_end1 (.inl rfl) rfl rfl ?_
            exact ⟨_, rfl, rfl, hK18⟩
          | some x =>
            refine st (y_move rfl) rfl ?_
            refine st (y_extract rfl rfl) rfl ?_
            refine st (y_extract rfl rfl) rfl ?_
            refine st (y_assign rfl) rfl ?_
            refine st (y_assign rfl) rfl ?_
            refine l_nil ?_
            refine q_then ?_
            refine c_seq ?_
            refine c_region ?_
            refine st (y_move rfl) rfl ?_
            refine st (y_move rfl) rfl ?_
            refine st_t (y_eq_b rfl rfl Tryd.underlying4) (rfl) rfl ?_
            refine st (y_move rfl) rfl ?_
            refine stg rfl rfl (y_move rfl) rfl ?_
            refine stg rfl rfl (y_not rfl) rfl ?_
            refine stg rfl rfl (y_move rfl) rfl ?_
            refine stg rfl rfl (y_move rfl) rfl ?_
            refine stg rfl rfl (y_move rfl) rfl ?_
            refine stg_t rfl rfl (y_eq_u rfl rfl) (rfl) rfl ?_
            refine stg rfl rfl (y_pickF rfl rfl) rfl ?_
            refine st (y_pickT rfl rfl) rfl ?_
            refine st (y_move rfl) rfl ?_
            refine stg rfl rfl (y_move rfl) rfl ?_
            refine st (y_pickT rfl rfl) rfl ?_
            refine st (y_assign rfl) rfl ?_
            refine l_nil ?_
            refine q_then ?_
            refine c_ret ?_
            refine q_end1 (.inl rfl) rfl rfl ?_
            exact ⟨_, rfl, rfl, hK18⟩
    ·
      refine st (y_move rfl) rfl ?_
      refine st (y_extract rfl rfl) rfl ?_
      refine st (y_extract rfl rfl) rfl ?_
      refine st (y_assign rfl) rfl ?_
      refine st (y_assign rfl) rfl ?_
      refine l_nil ?_
      refine q_then ?_
      refine c_seq ?_
      refine c_seq ?_
      refine c_region ?_
      refine st (y_move rfl) rfl ?_
      refine st (y_not rfl) rfl ?_
      refine st (y_move rfl) rfl ?_
      refine sno rfl rfl rfl rfl ?_
      refine sno rfl rfl rfl rfl ?_
      refine sno rfl rfl rfl rfl ?_
      refine sno rfl rfl rfl rfl ?_
      refine sno rfl rfl rfl rfl ?_
      refine st (y_pickT rfl rfl) rfl ?_
      refine l_nil ?_
      refine q_then ?_
      refine c_true rfl rfl ?_
      refine c_seq ?_
      refine c_region ?_
      refine st (y_assign rfl) rfl ?_
      refine l_nil ?_
      refine q_then ?_
      refine c_ret ?_
      refine q_then_ret ?_
      refine q_end1 (.inl rfl) rfl rfl ?_
      exact ⟨_, rfl, rfl, hK.trans hK3 (by simp)⟩

end Go.Proofs.YtbahhdeblppooaaDoor

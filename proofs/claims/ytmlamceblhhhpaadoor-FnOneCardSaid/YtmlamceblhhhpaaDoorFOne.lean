/- A number put in, taken out or turned: impl.Change for those, and the statement's own walk. -/
import Derived.Test.YtmlamceblhhhpaaDoorT2
import Derived.Test.YtmlamceblhhhpaaDoorG1
set_option linter.unusedVariables false
set_option linter.unusedSimpArgs false
set_option maxRecDepth 100000
namespace Go.Proofs.YtmlamceblhhhpaaDoor
open Go Go.RowKit

def chg (k : Nat) (s : List Bool) (i : Nat) : List Bool := if k = 0 then put s i true else if k = 1 then clr s i else if k = 2 then flp s i else if k = 3 then put s i true else clr s i
theorem chg_len (k : Nat) (s : List Bool) (i : Nat) : (chg k s i).length ≤ max s.length (i + 1) := by
  have h1 := put_length s i true
  have h2 : (clr s i).length = s.length := by unfold clr; split <;> simp
  have h3 : (flp s i).length ≤ max s.length (i + 1) := by
    unfold flp; split
    · simp; omega
    · omega
  unfold chg
  split
  · omega
  · split
    · omega
    · split
      · exact h3
      · split <;> omega

theorem c_implChange (k : Nat) (hk : k ≤ 4) (L : Nat) (A : Option Addr) (n c : Nat) (xs : List Nat) (i : Nat) (w : World) (hT : Tb w) (hR : Rd w A n xs) (hL : L ≤ 6000) (hx : ∀ x ∈ xs, x ≤ 6000) (hi : i ≤ 6000) :
    Cal Tryd.prog 14 [vI (k : Nat), aB L A n c, vU i] w fun v w' => ∃ A' c', v = aB (chg k (mkS L xs) i).length A' (nums (chg k (mkS L xs) i)).length c' ∧ Ow w' w.heap.size 22 (.slice A' (nums (chg k (mkS L xs) i)).length c') ((nums (chg k (mkS L xs) i)).map vU) ∧ Keep w w' [] := by
  have hlen : (mkS L xs).length ≤ 6001 := mkS_length_le L 6001 xs (by omega) fun x h => by have := hx x h; omega
  have hcl := chg_len k (mkS L xs) i
  have hT0 := hT.1
  refine go_in' Tryd.func14 rfl Tryd.ntmps14 (Nat.le_of_ble_eq_true rfl) ?_
  refine c_seq ?_
  refine c_region ?_
  refine st_box _ rfl rfl rfl ?_
  intro b1 w1 hb1 hB1 hK1 hS1
  refine st_alloc [.int .u64 0, .slice none 0 0] zv25 rfl rfl ?_
  intro b2 w2 hb2 hB2 hK2 hS2
  have hB1 := hB1.keep hK2 (by simp only [List.mem_cons, List.not_mem_nil, or_false, not_or, not_false_eq_true] <;> omega)
  have hK12 := hK1.trans hK2 (by simp)
  refine l_nil ?_
  refine q_then ?_
  refine c_seq ?_
  refine c_region ?_
  refine st (y_loadagg rfl agg25 us25 sz25 (by assumption) (by simp) (by rfl)) rfl ?_
  refine sc rfl rfl isfn19 (c_made L A n c xs _ (hR.keep hK12 (by simp)) hL hx) rfl ?_
  rintro _ w3 ⟨p, q, rfl, hp, hq, hS, hK3⟩
  have hB2 := hB2.keep hK3 (by simp only [List.mem_cons, List.not_mem_nil, or_false, not_or, not_false_eq_true] <;> omega)
  have hK13 := hK12.trans hK3 (by simp)
  have hlt3 := hS.lts
  refine st (y_move rfl) rfl ?_
  refine st (y_extract rfl rfl) rfl ?_
  refine st (y_extract rfl rfl) rfl ?_
  refine st (y_assign rfl) rfl ?_
  refine st (y_assign rfl) rfl ?_
  refine l_nil ?_
  refine q_then ?_
  refine c_seq ?_
  refine c_seq ?_
  refine c_region ?_
  refine st (y_move rfl) rfl ?_
  refine st (y_not rfl) rfl ?_
  refine st (y_move rfl) rfl ?_
  refine stg rfl rfl (y_move rfl) rfl ?_
  refine stg_f rfl rfl (y_gt_u (b := 6000) rfl rfl) (by omega) rfl ?_
  refine st (y_pickF rfl rfl) rfl ?_
  refine l_nil ?_
  refine q_then ?_
  refine c_false rfl rfl ?_
  refine c_skip ?_
  refine q_then ?_
  refine c_cut (fun _ : Nat => [(6, vP b2), (7, vP p)]) (fun q4 w4 => BSet w4 p q4 (chg k (mkS L xs) i) ∧ (q4 = q ∨ w3.heap.size ≤ q4) ∧ Keep w3 w4 [p, q]) ?_ ?_
  · refine c_seq ?_
    refine c_region ?_
    refine st (y_move rfl) rfl ?_
    refine l_nil ?_
    refine q_then ?_
    refine c_block ?_
    refine c_seq ?_
    refine c_region ?_
    refine st_if (y_eq_i (b := 0) rfl rfl) rfl (fun h0 => ?_) (fun h0 => ?_)
    · have e : k = 0 := by omega
      subst e
      refine st (y_assign rfl) rfl ?_
      refine l_nil ?_
      refine q_then ?_
      refine c_true rfl rfl ?_
      refine c_region ?_
      refine st (y_move rfl) rfl ?_
      refine st (y_move rfl) rfl ?_
      refine sc rfl rfl isfn20 (c_Set p q _ i _ hS (by omega) (by omega)) rfl ?_
      rintro _ w4 ⟨rfl, q4, hS4, hq4, hK4⟩
      refine l_nil ?_
      refine q_block ?_
      exact q_meet q4 ⟨rfl, rfl, trivial⟩ ⟨hS4, hq4, hK4⟩
    ·
      refine st (y_assign rfl) rfl ?_
      refine l_nil ?_
      refine q_then ?_
      refine c_false rfl rfl ?_
      refine c_seq ?_
      refine c_region ?_
      refine st_if (y_eq_i (b := 1) rfl rfl) rfl (fun h1 => ?_) (fun h1 => ?_)
      · have e : k = 1 := by omega
        subst e
        refine st (y_assign rfl) rfl ?_
        refine l_nil ?_
        refine q_then ?_
        refine c_true rfl rfl ?_
        refine c_region ?_
        refine st (y_move rfl) rfl ?_
        refine st (y_move rfl) rfl ?_
        refine sc rfl rfl isfn21 (c_Clear p q _ i _ hS (by omega) (by omega)) rfl ?_
        rintro _ w4 ⟨rfl, q4, hS4, hq4, hK4⟩
        refine l_nil ?_
        refine q_block ?_
        exact q_meet q4 ⟨rfl, rfl, trivial⟩ ⟨hS4, hq4, hK4⟩
      ·
        refine st (y_assign rfl) rfl ?_
        refine l_nil ?_
        refine q_then ?_
        refine c_false rfl rfl ?_
        refine c_seq ?_
        refine c_region ?_
        refine st_if (y_eq_i (b := 2) rfl rfl) rfl (fun h2 => ?_) (fun h2 => ?_)
        · have e : k = 2 := by omega
          subst e
          refine st (y_assign rfl) rfl ?_
          refine l_nil ?_
          refine q_then ?_
          refine c_true rfl rfl ?_
          refine c_region ?_
          refine st (y_move rfl) rfl ?_
          refine st (y_move rfl) rfl ?_
          refine sc rfl rfl isfn22 (c_Flip p q _ i _ hS (by omega) (by omega)) rfl ?_
          rintro _ w4 ⟨rfl, q4, hS4, hq4, hK4⟩
          refine l_nil ?_
          refine q_block ?_
          exact q_meet q4 ⟨rfl, rfl, trivial⟩ ⟨hS4, hq4, hK4⟩
        ·
          refine st (y_assign rfl) rfl ?_
          refine l_nil ?_
          refine q_then ?_
          refine c_false rfl rfl ?_
          refine c_seq ?_
          refine c_region ?_
          refine st_if (y_eq_i (b := 3) rfl rfl) rfl (fun h3 => ?_) (fun h3 => ?_)
          · have e : k = 3 := by omega
            subst e
            refine st (y_assign rfl) rfl ?_
            refine l_nil ?_
            refine q_then ?_
            refine c_true rfl rfl ?_
            refine c_region ?_
            refine st (y_move rfl) rfl ?_
            refine st (y_move rfl) rfl ?_
            refine sc rfl rfl isfn23 (c_SetTo p q _ i true _ hS (by omega) (by omega)) rfl ?_
            rintro _ w4 ⟨rfl, q4, hS4, hq4, hK4⟩
            refine l_nil ?_
            refine q_block ?_
            exact q_meet q4 ⟨rfl, rfl, trivial⟩ ⟨hS4, hq4, hK4⟩
          ·
            have e : k = 4 := by omega
            subst e
            refine st (y_assign rfl) rfl ?_
            refine l_nil ?_
            refine q_then ?_
            refine c_false rfl rfl ?_
            refine c_seq ?_
            refine c_region ?_
            refine st_t (y_eq_i (b := 4) rfl rfl) (by omega) rfl ?_
            refine st (y_assign rfl) rfl ?_
            refine l_nil ?_
            refine q_then ?_
            refine c_true rfl rfl ?_
            refine c_region ?_
            refine st (y_move rfl) rfl ?_
            refine st (y_move rfl) rfl ?_
            refine sc rfl rfl isfn23 (c_SetTo p q _ i false _ hS (by omega) (by omega)) rfl ?_
            rintro _ w4 ⟨rfl, q4, hS4, hq4, hK4⟩
            refine l_nil ?_
            refine q_block ?_
            exact q_meet q4 ⟨rfl, rfl, trivial⟩ ⟨hS4, hq4, hK4⟩
  ·
    rintro q4 w4 ⟨hS4, hq4, hK4⟩
    have hsz3 := hK3.size
    have hB24 := hB2.keep hK4 (by simp only [List.mem_cons, List.not_mem_nil, or_false]; omega)
    have hK14 := hK13.trans hK4 (fun i hi => by simp only [List.mem_cons, List.not_mem_nil, or_false] at hi; exact .inr (by have := hK12.size; omega))
    refine c_seq ?_
    refine c_region ?_
    refine st (y_move rfl) rfl ?_
    refine sc rfl rfl isfn30 (c_told p q4 _ _ (hT.keep hK14 (by simp)) hS4 (by omega)) rfl ?_
    rintro _ w5 ⟨A5, c5, rfl, hO5, hK5⟩
    have hB24 := hB24.keep hK5 (by simp only [List.mem_cons, List.not_mem_nil, or_false, not_or, not_false_eq_true] <;> omega)
    have hK15 := hK14.trans hK5 (by simp)
    refine st_storeagg rfl rfl (by simp [Value.oneCell']) sz25 rfl (by assumption) (by simp) rfl ?_
    intro w6 hB6 hK6 hS6
    refine l_nil ?_
    refine q_then ?_
    refine c_ret ?_
    refine q_endc (.inl rfl) rfl rfl agg25 us25 sz25 (by assumption) (by rfl) ?_
    have hsz4 := hK4.size
    exact ⟨_, rfl, A5, c5, rfl, (hO5.keep hK6 (fun i hi => by simp only [List.mem_singleton] at hi; left; omega)).base (by omega), hK15.trans hK6 (fun i hi => by simp only [List.mem_singleton] at hi; exact .inr (by omega))⟩

theorem c_FnOne (k : Nat) (L : Nat) (A : Option Addr) (n c : Nat) (xs : List Nat) (i : Nat) (w : World) (hT : Tb w) (hR : Rd w A n xs) (hk : k < 256) (hi : i < 18446744073709551616) :
    Cal Tryd.prog 3 [v8 k, aB L A n c, vU i] w fun v w' => v = vB true ∧ Keep w w' [] := by
  have hT0 := hT.1
  have hk5 : k % 5 < 5 := Nat.mod_lt _ (by decide)
  refine go_in' Tryd.func3 rfl Tryd.ntmps3 (Nat.le_of_ble_eq_true rfl) ?_
  refine c_seq ?_
  refine c_region ?_
  refine st_box _ rfl rfl rfl ?_
  intro b1 w1 hb1 hB1 hK1 hS1
  refine st (y_assign rfl) rfl ?_
  refine l_nil ?_
  refine q_then ?_
  refine c_seq ?_
  refine c_seq ?_
  refine c_region ?_
  refine st (y_loadagg rfl agg25 us25 sz25 (by assumption) (by simp) (by rfl)) rfl ?_
  refine sc rfl rfl isfn9 (c_zzFits1 L A n c _) rfl ?_
  rintro _ w2 ⟨rfl, hK2⟩
  have hB1 := hB1.keep hK2 (by simp only [List.mem_cons, List.not_mem_nil, or_false, not_or, not_false_eq_true] <;> omega)
  have hK := hK1.trans hK2 (by simp)
  clear hK1 hK2
  refine st (y_not rfl) rfl ?_
  refine l_nil ?_
  refine q_then ?_
  refine c_ifb rfl (fun hz => ?_) (fun hz => ?_)
  · refine c_seq ?_
    refine c_region ?_
    refine st (y_assign rfl) rfl ?_
    refine l_nil ?_
    refine q_then ?_
    refine c_ret ?_
    refine q_then_ret ?_
    refine q_end1 (.inl rfl) rfl rfl ?_
    exact ⟨_, rfl, rfl, hK⟩
  ·
    refine c_skip ?_
    refine q_then ?_
    refine c_seq ?_
    refine c_region ?_
    refine st (y_loadagg rfl agg25 us25 sz25 (by assumption) (by simp) (by rfl)) rfl ?_
    refine sc rfl rfl isfn10 (c_set L A n c xs _ (hR.keep hK (by simp))) rfl ?_
    rintro _ w3 ⟨hK3, ⟨ho, b, rfl, hBl, hb⟩ | rfl⟩
    · have hB1 := hB1.keep hK3 (by simp only [List.mem_cons, List.not_mem_nil, or_false, not_or, not_false_eq_true] <;> omega)
      have hK' := hK.trans hK3 (by simp)
      have hlen := ho.len
      clear hK hK3
      refine st (y_move rfl) rfl ?_
      refine st (y_extract rfl rfl) rfl ?_
      refine st (y_extract rfl rfl) rfl ?_
      refine st (y_assign rfl) rfl ?_
      refine st (y_assign rfl) rfl ?_
      refine l_nil ?_
      refine q_then ?_
      refine c_seq ?_
      refine c_seq ?_
      refine c_region ?_
      refine st (y_move rfl) rfl ?_
      refine st (y_not rfl) rfl ?_
      refine st (y_move rfl) rfl ?_
      refine stg rfl rfl (y_move rfl) rfl ?_
      refine stg_if rfl rfl (y_gt_u (b := 3000) rfl rfl) rfl (fun h1 => ?_) (fun h1 => ?_)
      · refine st (y_pickF rfl rfl) rfl ?_
        refine l_nil ?_
        refine q_then ?_
        refine c_true rfl rfl ?_
        refine c_seq ?_
        refine c_region ?_
        refine st (y_assign rfl) rfl ?_
        refine l_nil ?_
        refine q_then ?_
        refine c_ret ?_
        refine q_then_ret ?_
        refine q_end1 (.inl rfl) rfl rfl ?_
        exact ⟨_, rfl, rfl, hK'⟩
      ·
        obtain ⟨s, hs⟩ : ∃ s, mkS L xs = s := ⟨_, rfl⟩
        obtain ⟨m, hm⟩ : ∃ m, k % 5 = m := ⟨_, rfl⟩
        have hcl := chg_len m s i
        rw [hs] at hlen hBl ⊢
        have hrb := hBl.rdB (by omega)
        refine st (y_pickF rfl rfl) rfl ?_
        refine l_nil ?_
        refine q_then ?_
        refine c_false rfl rfl ?_
        refine c_skip ?_
        refine q_then ?_
        refine c_seq ?_
        refine c_region ?_
        refine st (y_move rfl) rfl ?_
        refine st (y_rem_8 (b := 5) rfl rfl (by omega)) rfl ?_
        refine st (y_conv_8i rfl us5 Tryd.underlying3 (by omega)) rfl ?_
        refine st (y_assign rfl) rfl ?_
        refine l_nil ?_
        refine q_then ?_
        refine c_seq ?_
        refine c_region ?_
        refine st (y_move rfl) rfl ?_
        refine st (y_assign rfl) rfl ?_
        refine l_nil ?_
        refine q_then ?_
        rw [hm] at hk5 ⊢
        refine c_cut (fun v : Value => [(2, vU i), (4, vP b1), (9, vI (m : Nat)), (10, v)]) (fun v w' => (∃ A1 c1, v = .slice A1 (chg m s i).length c1 ∧ RdB w' A1 (chg m s i).length (chg m s i)) ∧ Keep w w' [] ∧ Blk w' b1 25 [vU L, .slice A n c]) ?_ ?_
        · refine c_seq ?_
          refine c_region ?_
          refine st (y_move rfl) rfl ?_
          refine l_nil ?_
          refine q_then ?_
          refine c_block ?_
          refine c_seq ?_
          refine c_seq ?_
          refine c_region ?_
          refine st_if (y_eq_i (b := 0) rfl rfl) rfl (fun h0 => ?_) (fun h0 => ?_)
          · have e : m = 0 := by omega
            subst e
            refine st (y_assign rfl) rfl ?_
            refine l_nil ?_
            refine q_then ?_
            refine c_true rfl rfl ?_
            refine c_skip ?_
            refine q_then ?_
            refine c_true rfl rfl ?_
            refine c_region ?_
            refine st (y_move rfl) rfl ?_
            refine st (y_move rfl) rfl ?_
            refine st (y_conv_ui rfl us22 Tryd.underlying3 (by omega)) rfl ?_
            refine sc rfl rfl isfn11 (c_Put _ _ _ s i true _ hrb (by omega) (by omega)) rfl ?_
            rintro v4 w4 ⟨hO4, hK4⟩
            obtain ⟨A4, c4, rfl⟩ := hO4.form
            rw [List.length_map] at hO4 ⊢
            have hB1 := hB1.keep hK4 (by simp only [List.mem_cons, List.not_mem_nil, or_false, not_or, not_false_eq_true] <;> omega)
            refine st (y_assign rfl) rfl ?_
            refine l_nil ?_
            refine q_block ?_
            exact q_meet _ ⟨rfl, rfl, rfl, rfl, trivial⟩ ⟨⟨_, _, rfl, hO4.rdB.2⟩, hK'.trans hK4 (by simp), hB1⟩
          ·
            refine st (y_assign rfl) rfl ?_
            refine l_nil ?_
            refine q_then ?_
            refine c_false rfl rfl ?_
            refine c_region ?_
            refine st_if (y_eq_i (b := 3) rfl rfl) rfl (fun h3 => ?_) (fun h3 => ?_)
            · have e : m = 3 := by omega
              subst e
              refine st (y_assign rfl) rfl ?_
              refine l_nil ?_
              refine q_then ?_
              refine c_true rfl rfl ?_
              refine c_region ?_
              refine st (y_move rfl) rfl ?_
              refine st (y_move rfl) rfl ?_
              refine st (y_conv_ui rfl us22 Tryd.underlying3 (by omega)) rfl ?_
              refine sc rfl rfl isfn11 (c_Put _ _ _ s i true _ hrb (by omega) (by omega)) rfl ?_
              rintro v4 w4 ⟨hO4, hK4⟩
              obtain ⟨A4, c4, rfl⟩ := hO4.form
              rw [List.length_map] at hO4 ⊢
              have hB1 := hB1.keep hK4 (by simp only [List.mem_cons, List.not_mem_nil, or_false, not_or, not_false_eq_true] <;> omega)
              refine st (y_assign rfl) rfl ?_
              refine l_nil ?_
              refine q_block ?_
              exact q_meet _ ⟨rfl, rfl, rfl, rfl, trivial⟩ ⟨⟨_, _, rfl, hO4.rdB.2⟩, hK'.trans hK4 (by simp), hB1⟩
            ·
              refine st (y_assign rfl) rfl ?_
              refine l_nil ?_
              refine q_then ?_
              refine c_false rfl rfl ?_
              refine c_seq ?_
              refine c_seq ?_
              refine c_region ?_
              refine st_if (y_eq_i (b := 1) rfl rfl) rfl (fun h14 => ?_) (fun h14 => ?_)
              · have e : m = 1 := by omega
                subst e
                have ec : chg 1 s i = clr s i := rfl
                rw [ec]
                refine st (y_assign rfl) rfl ?_
                refine l_nil ?_
                refine q_then ?_
                refine c_true rfl rfl ?_
                refine c_skip ?_
                refine q_then ?_
                refine c_true rfl rfl ?_
                refine c_seq ?_
                refine c_region ?_
                refine st (y_move rfl) rfl ?_
                refine st (y_conv_ui rfl us22 Tryd.underlying3 (by omega)) rfl ?_
                refine st (y_move rfl) rfl ?_
                refine st (y_len rfl Tryd.underlying28) rfl ?_
                refine st_if (y_lt_i rfl rfl) rfl (fun hlt => ?_) (fun hlt => ?_)
                · have e2 : clr s i = put s i false := by unfold clr; rw [if_pos (by omega), put_of_lt _ (by omega)]
                  rw [e2]
                  refine l_nil ?_
                  refine q_then ?_
                  refine c_true rfl rfl ?_
                  refine c_region ?_
                  refine st (y_move rfl) rfl ?_
                  refine st (y_move rfl) rfl ?_
                  refine st (y_conv_ui rfl us22 Tryd.underlying3 (by omega)) rfl ?_
                  refine sc rfl rfl isfn11 (c_Put _ _ _ s i false _ hrb (by omega) (by omega)) rfl ?_
                  rintro v4 w4 ⟨hO4, hK4⟩
                  obtain ⟨A4, c4, rfl⟩ := hO4.form
                  rw [List.length_map] at hO4 ⊢
                  have hB1 := hB1.keep hK4 (by simp only [List.mem_cons, List.not_mem_nil, or_false, not_or, not_false_eq_true] <;> omega)
                  refine st (y_assign rfl) rfl ?_
                  refine l_nil ?_
                  refine q_block ?_
                  exact q_meet _ ⟨rfl, rfl, rfl, rfl, trivial⟩ ⟨⟨_, _, rfl, hO4.rdB.2⟩, hK'.trans hK4 (by simp), hB1⟩
                ·
                  have e2 : clr s i = s := by unfold clr; rw [if_neg (by omega)]
                  rw [e2]
                  refine l_nil ?_
                  refine q_then ?_
                  refine c_false rfl rfl ?_
                  refine c_skip ?_
                  refine q_block ?_
                  exact q_meet _ ⟨rfl, rfl, rfl, rfl, trivial⟩ ⟨⟨_, _, rfl, hrb⟩, hK', hB1⟩
              ·
                refine st (y_assign rfl) rfl ?_
                refine l_nil ?_
                refine q_then ?_
                refine c_false rfl rfl ?_
                refine c_region ?_
                refine st_if (y_eq_i (b := 4) rfl rfl) rfl (fun h4 => ?_) (fun h4 => ?_)
                · have e : m = 4 := by omega
                  subst e
                  have ec : chg 4 s i = clr s i := rfl
                  rw [ec]
                  refine st (y_assign rfl) rfl ?_
                  refine l_nil ?_
                  refine q_then ?_
                  refine c_true rfl rfl ?_
                  refine c_seq ?_
                  refine c_region ?_
                  refine st (y_move rfl) rfl ?_
                  refine st (y_conv_ui rfl us22 Tryd.underlying3 (by omega)) rfl ?_
                  refine st (y_move rfl) rfl ?_
                  refine st (y_len rfl Tryd.underlying28) rfl ?_
                  refine st_if (y_lt_i rfl rfl) rfl (fun hlt => ?_) (fun hlt => ?_)
                  · have e2 : clr s i = put s i false := by unfold clr; rw [if_pos (by omega), put_of_lt _ (by omega)]
                    rw [e2]
                    refine l_nil ?_
                    refine q_then ?_
                    refine c_true rfl rfl ?_
                    refine c_region ?_
                    refine st (y_move rfl) rfl ?_
                    refine st (y_move rfl) rfl ?_
                    refine st (y_conv_ui rfl us22 Tryd.underlying3 (by omega)) rfl ?_
                    refine sc rfl rfl isfn11 (c_Put _ _ _ s i false _ hrb (by omega) (by omega)) rfl ?_
                    rintro v4 w4 ⟨hO4, hK4⟩
                    obtain ⟨A4, c4, rfl⟩ := hO4.form
                    rw [List.length_map] at hO4 ⊢
                    have hB1 := hB1.keep hK4 (by simp only [List.mem_cons, List.not_mem_nil, or_false, not_or, not_false_eq_true] <;> omega)
                    refine st (y_assign rfl) rfl ?_
                    refine l_nil ?_
                    refine q_block ?_
                    exact q_meet _ ⟨rfl, rfl, rfl, rfl, trivial⟩ ⟨⟨_, _, rfl, hO4.rdB.2⟩, hK'.trans hK4 (by simp), hB1⟩
                  ·
                    have e2 : clr s i = s := by unfold clr; rw [if_neg (by omega)]
                    rw [e2]
                    refine l_nil ?_
                    refine q_then ?_
                    refine c_false rfl rfl ?_
                    refine c_skip ?_
                    refine q_block ?_
                    exact q_meet _ ⟨rfl, rfl, rfl, rfl, trivial⟩ ⟨⟨_, _, rfl, hrb⟩, hK', hB1⟩
                ·
                  have e : m = 2 := by omega
                  subst e
                  have ec : chg 2 s i = put s i (!s.getD i false) := by
                    show flp s i = _
                    unfold flp
                    by_cases h : i < s.length
                    · rw [if_pos h, put_of_lt _ h]
                    · rw [if_neg h, getD_ge s false (by omega)]; rfl
                  rw [ec]
                  refine st (y_assign rfl) rfl ?_
                  refine l_nil ?_
                  refine q_then ?_
                  refine c_false rfl rfl ?_
                  refine c_seq ?_
                  refine c_region ?_
                  refine st_t (y_eq_i (b := 2) rfl rfl) (rfl) rfl ?_
                  refine st (y_assign rfl) rfl ?_
                  refine l_nil ?_
                  refine q_then ?_
                  refine c_true rfl rfl ?_
                  refine c_region ?_
                  refine st (y_move rfl) rfl ?_
                  refine st (y_move rfl) rfl ?_
                  refine st (y_conv_ui rfl us22 Tryd.underlying3 (by omega)) rfl ?_
                  refine st (y_move rfl) rfl ?_
                  refine st (y_move rfl) rfl ?_
                  refine st (y_conv_ui rfl us22 Tryd.underlying3 (by omega)) rfl ?_
                  refine sc rfl rfl isfn12 (c_Has b s i _ hBl (by omega)) rfl ?_
                  rintro _ _ ⟨rfl, rfl⟩
                  refine st (y_not rfl) rfl ?_
                  refine sc rfl rfl isfn11 (c_Put _ _ _ s i (!s.getD i false) _ hrb (by omega) (by omega)) rfl ?_
                  rintro v4 w4 ⟨hO4, hK4⟩
                  obtain ⟨A4, c4, rfl⟩ := hO4.form
                  rw [List.length_map] at hO4 ⊢
                  have hB1 := hB1.keep hK4 (by simp only [List.mem_cons, List.not_mem_nil, or_false, not_or, not_false_eq_true] <;> omega)
                  refine st (y_assign rfl) rfl ?_
                  refine l_nil ?_
                  refine q_block ?_
                  exact q_meet _ ⟨rfl, rfl, rfl, rfl, trivial⟩ ⟨⟨_, _, rfl, hO4.rdB.2⟩, hK'.trans hK4 (by simp), hB1⟩
        ·
          rintro v w5 ⟨⟨A1, c1, rfl, hR1⟩, hK5, hB5⟩
          refine c_seq ?_
          refine c_region ?_
          refine st (y_move rfl) rfl ?_
          refine st (y_loadagg rfl agg25 us25 sz25 (by assumption) (by simp) (by rfl)) rfl ?_
          refine st (y_move rfl) rfl ?_
          refine sc rfl rfl isfn14 (c_implChange m (by omega) L A n c xs i _ (hT.keep hK5 (by simp)) (hR.keep hK5 (by simp)) (by have := ho.1; omega) (fun x h => by have := ho.2.2 x h; omega) (by omega)) rfl ?_
          rintro _ w6 ⟨A6, c6, rfl, hO6, hK6⟩
          rw [hs] at hO6 ⊢
          have hK7 := hK5.trans hK6 (by simp)
          refine st (y_move rfl) rfl ?_
          refine sc rfl rfl isfn13 (c_exactly _ _ _ _ _ _ _ _ _ _ hO6.rd' (hR1.keep hK6 (by simp)) (by omega) rfl rfl) rfl ?_
          rintro _ w8 ⟨rfl, hK8⟩
          have hK9 := hK7.trans hK8 (by simp)
          refine st (y_move rfl) rfl ?_
          refine scg rfl rfl rfl rfl isfn15 (c_alive _ (hT.keep hK9 (by simp))) rfl ?_
          rintro _ w10 ⟨rfl, hK10⟩
          refine st (y_pickT rfl rfl) rfl ?_
          refine st (y_assign rfl) rfl ?_
          refine l_nil ?_
          refine q_then ?_
          refine c_ret ?_
          refine q_end1 (.inl rfl) rfl rfl ?_
          exact ⟨_, rfl, rfl, hK9.trans hK10 (by simp)⟩
    ·
      refine st (y_move rfl) rfl ?_
      refine st (y_extract rfl rfl) rfl ?_
      refine st (y_extract rfl rfl) rfl ?_
      refine st (y_assign rfl) rfl ?_
      refine st (y_assign rfl) rfl ?_
      refine l_nil ?_
      refine q_then ?_
      refine c_seq ?_
      refine c_seq ?_
      refine c_region ?_
      refine st (y_move rfl) rfl ?_
      refine st (y_not rfl) rfl ?_
      refine st (y_move rfl) rfl ?_
      refine sno rfl rfl rfl rfl ?_
      refine sno rfl rfl rfl rfl ?_
      refine st (y_pickT rfl rfl) rfl ?_
      refine l_nil ?_
      refine q_then ?_
      refine c_true rfl rfl ?_
      refine c_seq ?_
      refine c_region ?_
      refine st (y_assign rfl) rfl ?_
      refine l_nil ?_
      refine q_then ?_
      refine c_ret ?_
      refine q_then_ret ?_
      refine q_end1 (.inl rfl) rfl rfl ?_
      exact ⟨_, rfl, rfl, hK.trans hK3 (by simp)⟩

end Go.Proofs.YtmlamceblhhhpaaDoor

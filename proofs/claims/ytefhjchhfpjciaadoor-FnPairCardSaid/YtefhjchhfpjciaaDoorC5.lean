/- The four counts of two sets joined, Equal, IsSuperSet and IsStrictSuperSet, each by its contract. -/
import Derived.Test.YtefhjchhfpjciaaDoorC4
import Derived.Test.YtefhjchhfpjciaaDoorB1
set_option linter.unusedVariables false
set_option linter.unusedSimpArgs false
set_option maxRecDepth 100000
namespace Go.Proofs.YtefhjchhfpjciaaDoor
open Go Go.RowKit

theorem zipw_take (op : Nat → Nat → Nat) (xs ys : List Nat) (l a b : Nat) (ha : l ≤ a) (hb : l ≤ b) : zipw op (xs.take a) (ys.take b) l = zipw op xs ys l := by
  unfold zipw
  apply List.map_congr_left
  intro k hk
  have : k < l := by simpa using hk
  simp only [List.getD_eq_getElem?_getD]
  rw [List.getElem?_take_of_lt (by omega), List.getElem?_take_of_lt (by omega)]

theorem c_wordsNeededUnbound (i : Nat) (hi : i < 4611686018427387904) (w : World) : Cal Tryd.prog 38 [vU i] w fun v w' => v = vI ((nW i : Nat) : Int) ∧ w = w' := by
  refine go_in' Tryd.func38 rfl Tryd.ntmps38 (Nat.le_of_ble_eq_true rfl) ?_
  refine c_seq ?_
  refine c_region ?_
  refine st (y_assign (v := vI ((0 : Nat) : Int)) rfl) rfl ?_
  refine l_nil ?_
  refine q_then ?_
  refine c_seq ?_
  refine c_region ?_
  refine st (y_move rfl) rfl ?_
  refine st (y_conv_ui rfl us22 Tryd.underlying3 (by omega)) rfl ?_
  first | refine st (y_add_in (b := 63) rfl rfl (by omega)) rfl ?_ | refine st (y_add_i (b := 63) rfl rfl (by omega) (by omega)) rfl ?_
  refine st (y_shr_i (k := 6) rfl rfl (by omega)) rfl ?_
  refine st (y_assign rfl) rfl ?_
  refine l_nil ?_
  refine q_then ?_
  refine c_ret ?_
  refine q_end1 (.inl rfl) rfl rfl ?_
  refine ⟨_, rfl, ?_, rfl⟩
  simp [nW, Nat.shiftRight_eq_div_pow]

theorem c_wordCount (p q : Nat) (s : List Bool) (w : World) (hB : BSet w p q s) (hs : s.length ≤ 100001) :
    Cal Tryd.prog 30 [vP p] w fun v w' => v = vI (((pack s).length : Nat) : Int) ∧ w = w' := by
  obtain ⟨tl, hB⟩ := hB
  have hst := hB.st
  rw [pack_length]
  refine go_in' Tryd.func30 rfl Tryd.ntmps30 (Nat.le_of_ble_eq_true rfl) ?_
  refine c_seq ?_
  refine c_region ?_
  refine st (y_assign (v := vI ((0 : Nat) : Int)) rfl) rfl ?_
  refine l_nil ?_
  refine q_then ?_
  refine c_seq ?_
  refine c_region ?_
  refine st (y_move rfl) rfl ?_
  refine st (y_nil rfl) rfl ?_
  refine st (fa58_0 rfl) rfl ?_
  refine st (y_loadb rfl one22 (by assumption) (by rfl)) rfl ?_
  refine sc rfl rfl isfn38 (c_wordsNeededUnbound _ (by omega) _) rfl ?_
  rintro _ _ ⟨rfl, rfl⟩
  refine st (y_assign rfl) rfl ?_
  refine l_nil ?_
  refine q_then ?_
  refine c_ret ?_
  refine q_end1 (.inl rfl) rfl rfl ?_
  exact ⟨_, rfl, rfl, rfl⟩

theorem c_sortByLength (p q p2 q2 : Nat) (s t : List Bool) (w : World) (hB : BSet w p q s) (hB2 : BSet w p2 q2 t) (hs : s.length ≤ 100001) (ht : t.length ≤ 100001) :
    Cal Tryd.prog 34 [vP p, vP p2] w fun v w' => ∃ a qa sa b qb sb, v = vT [vP a, vP b] ∧ BSet w' a qa sa ∧ BSet w' b qb sb ∧ sa.length ≤ sb.length ∧ ((sa = s ∧ sb = t) ∨ (sa = t ∧ sb = s)) ∧ Keep w w' [] := by
  have hBd := hB.keep (Keep.drew w []) (by simp) (by simp)
  have hB2d := hB2.keep (Keep.drew w []) (by simp) (by simp)
  obtain ⟨tl, hB⟩ := hB
  obtain ⟨tl2, hB2⟩ := hB2
  have hst := hB.st
  have hst2 := hB2.st
  refine go_in' Tryd.func34 rfl Tryd.ntmps34 (Nat.le_of_ble_eq_true rfl) ?_
  refine c_seq ?_
  refine c_region ?_
  refine st (y_assign rfl) rfl ?_
  refine st (y_assign rfl) rfl ?_
  refine l_nil ?_
  refine q_then ?_
  refine c_seq ?_
  refine c_seq ?_
  refine c_still mixed (by kernel_rfl) ?_
  have hst := hst.drew
  have hst2 := hst2.drew
  refine ss (y_move rfl) rfl ?_
  refine ss (y_nil rfl) rfl ?_
  refine ss (fa58_0 rfl) rfl ?_
  refine ss (y_loadb rfl one22 (by assumption) (by rfl)) rfl ?_
  refine ss (y_move rfl) rfl ?_
  refine ss (y_nil rfl) rfl ?_
  refine ss (fa58_0 rfl) rfl ?_
  refine ss (y_loadb rfl one22 (by assumption) (by rfl)) rfl ?_
  refine ss_if (y_le_u rfl rfl) rfl (fun hle => ?_) (fun hle => ?_)
  · refine s_nil ?_
    refine q_then ?_
    refine c_true rfl rfl ?_
    refine c_region ?_
    refine st (y_move rfl) rfl ?_
    refine st (y_move rfl) rfl ?_
    refine st (y_assign rfl) rfl ?_
    refine st (y_assign rfl) rfl ?_
    refine l_nil ?_
    refine q_then ?_
    refine c_ret ?_
    refine q_end2 (.inl rfl) rfl rfl rfl ?_
    exact ⟨_, rfl, p, q, s, p2, q2, t, rfl, hBd, hB2d, hle, .inl ⟨rfl, rfl⟩, Keep.drew _ _⟩
  ·
    refine s_nil ?_
    refine q_then ?_
    refine c_false rfl rfl ?_
    refine c_region ?_
    refine st (y_move rfl) rfl ?_
    refine st (y_move rfl) rfl ?_
    refine st (y_assign rfl) rfl ?_
    refine st (y_assign rfl) rfl ?_
    refine l_nil ?_
    refine q_then ?_
    refine c_ret ?_
    refine q_end2 (.inl rfl) rfl rfl rfl ?_
    exact ⟨_, rfl, p2, q2, t, p, q, s, rfl, hB2d, hBd, by omega, .inr ⟨rfl, rfl⟩, Keep.drew _ _⟩

























































































































































































































































































































































































































































































end Go.Proofs.YtefhjchhfpjciaaDoor

/- The four counts of two sets joined, Equal, IsSuperSet and IsStrictSuperSet, each by its contract. -/
import Derived.Test.YtlhbbndedbacpaaC4
import Derived.Test.YtlhbbndedbacpaaB1
set_option linter.unusedVariables false
set_option linter.unusedSimpArgs false
set_option maxRecDepth 100000
namespace Go.Proofs.Ytlhbbndedbacpaa
open Go Go.RowKit

theorem zipw_take (op : Nat → Nat → Nat) (xs ys : List Nat) (l a b : Nat) (ha : l ≤ a) (hb : l ≤ b) : zipw op (xs.take a) (ys.take b) l = zipw op xs ys l := by
  unfold zipw
  apply List.map_congr_left
  intro k hk
  have : k < l := by simpa using hk
  simp only [List.getD_eq_getElem?_getD]
  rw [List.getElem?_take_of_lt (by omega), List.getElem?_take_of_lt (by omega)]

theorem c_wordsNeededUnbound (i : Nat) (hi : i < 4611686018427387904) (w : World) : Cal Try.prog 78 [vU i] w fun v w' => v = vI ((nW i : Nat) : Int) ∧ w = w' := by
  refine go_in' Try.func78 rfl Try.ntmps78 (Nat.le_of_ble_eq_true rfl) ?_
  refine c_seq ?_
  refine c_region ?_
  refine st (y_assign (v := vI ((0 : Nat) : Int)) rfl) rfl ?_
  refine l_nil ?_
  refine q_then ?_
  refine c_seq ?_
  refine c_region ?_
  refine st (y_move rfl) rfl ?_
  refine st (y_conv_ui rfl us22 Try.underlying3 (by omega)) rfl ?_
  first | refine st (y_add_in (b := 63) rfl rfl (by omega)) rfl ?_ | refine st (y_add_i (b := 63) rfl rfl (by omega) (by omega)) rfl ?_
  refine st (y_shr_i (k := 6) rfl rfl (by omega)) rfl ?_
  refine st (y_assign rfl) rfl ?_
  refine l_nil ?_
  refine q_then ?_
  refine c_ret ?_
  refine q_end1 (.inl rfl) rfl rfl ?_
  refine ⟨_, rfl, ?_, rfl⟩
  simp [nW, Nat.shiftRight_eq_div_pow]

theorem c_wordCount (p q : Nat) (s : List Bool) (w : World) (hB : BSet w p q s) (hs : s.length ≤ 100001) :
    Cal Try.prog 69 [vP p] w fun v w' => v = vI (((pack s).length : Nat) : Int) ∧ w = w' := by
  obtain ⟨tl, hB⟩ := hB
  have hst := hB.st
  rw [pack_length]
  refine go_in' Try.func69 rfl Try.ntmps69 (Nat.le_of_ble_eq_true rfl) ?_
  refine c_seq ?_
  refine c_region ?_
  refine st (y_assign (v := vI ((0 : Nat) : Int)) rfl) rfl ?_
  refine l_nil ?_
  refine q_then ?_
  refine c_seq ?_
  refine c_region ?_
  refine st (y_move rfl) rfl ?_
  refine st (y_nil rfl) rfl ?_
  refine st (fa93_0 rfl) rfl ?_
  refine st (y_loadb rfl one22 (by assumption) (by rfl)) rfl ?_
  refine sc rfl rfl isfn78 (c_wordsNeededUnbound _ (by omega) _) rfl ?_
  rintro _ _ ⟨rfl, rfl⟩
  refine st (y_assign rfl) rfl ?_
  refine l_nil ?_
  refine q_then ?_
  refine c_ret ?_
  refine q_end1 (.inl rfl) rfl rfl ?_
  exact ⟨_, rfl, rfl, rfl⟩

theorem c_sortByLength (p q p2 q2 : Nat) (s t : List Bool) (w : World) (hB : BSet w p q s) (hB2 : BSet w p2 q2 t) (hs : s.length ≤ 100001) (ht : t.length ≤ 100001) :
    Cal Try.prog 70 [vP p, vP p2] w fun v w' => ∃ a qa sa b qb sb, v = vT [vP a, vP b] ∧ BSet w' a qa sa ∧ BSet w' b qb sb ∧ sa.length ≤ sb.length ∧ ((sa = s ∧ sb = t) ∨ (sa = t ∧ sb = s)) ∧ Keep w w' [] := by
  have hBd := hB.keep (Keep.drew w []) (by simp) (by simp)
  have hB2d := hB2.keep (Keep.drew w []) (by simp) (by simp)
  obtain ⟨tl, hB⟩ := hB
  obtain ⟨tl2, hB2⟩ := hB2
  have hst := hB.st
  have hst2 := hB2.st
  refine go_in' Try.func70 rfl Try.ntmps70 (Nat.le_of_ble_eq_true rfl) ?_
  refine c_seq ?_
  refine c_region ?_
  refine st (y_assign rfl) rfl ?_
  refine st (y_assign rfl) rfl ?_
  refine l_nil ?_
  refine q_then ?_
  refine c_seq ?_
  refine c_seq ?_
  refine c_still mixed (by kernel_rfl) ?_
  have hst := hst.drew
  have hst2 := hst2.drew
  refine ss (y_move rfl) rfl ?_
  refine ss (y_nil rfl) rfl ?_
  refine ss (fa93_0 rfl) rfl ?_
  refine ss (y_loadb rfl one22 (by assumption) (by rfl)) rfl ?_
  refine ss (y_move rfl) rfl ?_
  refine ss (y_nil rfl) rfl ?_
  refine ss (fa93_0 rfl) rfl ?_
  refine ss (y_loadb rfl one22 (by assumption) (by rfl)) rfl ?_
  refine ss_if (y_le_u rfl rfl) rfl (fun hle => ?_) (fun hle => ?_)
  · refine s_nil ?_
    refine q_then ?_
    refine c_true rfl rfl ?_
    refine c_region ?_
    refine st (y_move rfl) rfl ?_
    refine st (y_move rfl) rfl ?_
    refine st (y_assign rfl) rfl ?_
    refine st (y_assign rfl) rfl ?_
    refine l_nil ?_
    refine q_then ?_
    refine c_ret ?_
    refine q_end2 (.inl rfl) rfl rfl rfl ?_
    exact ⟨_, rfl, p, q, s, p2, q2, t, rfl, hBd, hB2d, hle, .inl ⟨rfl, rfl⟩, Keep.drew _ _⟩
  ·
    refine s_nil ?_
    refine q_then ?_
    refine c_false rfl rfl ?_
    refine c_region ?_
    refine st (y_move rfl) rfl ?_
    refine st (y_move rfl) rfl ?_
    refine st (y_assign rfl) rfl ?_
    refine st (y_assign rfl) rfl ?_
    refine l_nil ?_
    refine q_then ?_
    refine c_ret ?_
    refine q_end2 (.inl rfl) rfl rfl rfl ?_
    exact ⟨_, rfl, p2, q2, t, p, q, s, rfl, hB2d, hBd, by omega, .inr ⟨rfl, rfl⟩, Keep.drew _ _⟩

theorem c_Union (p q p2 q2 : Nat) (s t : List Bool) (w : World) (hB : BSet w p q s) (hB2 : BSet w p2 q2 t) (hs : s.length ≤ 100001) (ht : t.length ≤ 100001) :
    Cal Try.prog 56 [vP p, vP p2] w fun v w' => v = vU (count (joined gOr s t)) ∧ Keep w w' [] := by
  refine go_in' Try.func56 rfl Try.ntmps56 (Nat.le_of_ble_eq_true rfl) ?_
  refine c_seq ?_
  refine c_region ?_
  refine st (y_assign (v := vU 0) rfl) rfl ?_
  refine l_nil ?_
  refine q_then ?_
  refine c_seq ?_
  refine c_region ?_
  refine st (y_move rfl) rfl ?_
  refine sc rfl rfl isfn65 (c_panicIfNull p _) rfl ?_
  rintro _ _ ⟨rfl, rfl⟩
  refine l_nil ?_
  refine q_then ?_
  refine c_seq ?_
  refine c_region ?_
  refine st (y_move rfl) rfl ?_
  refine sc rfl rfl isfn65 (c_panicIfNull p2 _) rfl ?_
  rintro _ _ ⟨rfl, rfl⟩
  refine l_nil ?_
  refine q_then ?_
  refine c_seq ?_
  refine c_region ?_
  refine st (y_move rfl) rfl ?_
  refine st (y_move rfl) rfl ?_
  refine sc rfl rfl isfn70 (c_sortByLength p q p2 q2 s t _ hB hB2 hs ht) rfl ?_
  rintro _ w1 ⟨a, qa, sa, b, qb, sb, rfl, hBa, hBb, hle, hor, hK1⟩
  have fin : count (joined gOr s t) = psum (zipw (· ||| ·) (pack sa) (pack sb) (pack sa).length) + psum ((pack sb).drop (pack sa).length) := by
    rw [← card_or sa sb hle]
    rcases hor with ⟨rfl, rfl⟩ | ⟨rfl, rfl⟩
    · rfl
    · exact congrArg count (joined_comm (g := gOr) (fun a b => by cases a <;> cases b <;> rfl) _ _)
  have hla : sa.length ≤ 100001 := by rcases hor with ⟨rfl, rfl⟩ | ⟨rfl, rfl⟩ <;> assumption
  have hlb : sb.length ≤ 100001 := by rcases hor with ⟨rfl, rfl⟩ | ⟨rfl, rfl⟩ <;> assumption
  clear hB hB2 hor
  have hna : (pack sa).length ≤ 2000 := by rw [pack_length]; unfold nW; omega
  have hnb : (pack sb).length ≤ 2000 := by rw [pack_length]; unfold nW; omega
  have hnab : (pack sa).length ≤ (pack sb).length := by rw [pack_length, pack_length]; exact nW_mono hle
  have hz := zipw_le (· ||| ·) (pack sa) (pack sb) (pack sa).length
  obtain ⟨tla, hBa⟩ := hBa
  obtain ⟨tlb, hBb⟩ := hBb
  have hsta := hBa.st
  have hstb := hBb.st
  refine st (y_move rfl) rfl ?_
  refine st (y_extract rfl rfl) rfl ?_
  refine st (y_extract rfl rfl) rfl ?_
  refine st (y_assign rfl) rfl ?_
  refine st (y_assign rfl) rfl ?_
  refine l_nil ?_
  refine q_then ?_
  refine c_seq ?_
  refine c_region ?_
  refine st (y_assign (v := vU 0) rfl) rfl ?_
  refine l_nil ?_
  refine q_then ?_
  refine c_cut (fun _ : Unit => [(0, vP a), (1, vP b), (5, vU (psum (zipw (· ||| ·) (pack sa) (pack sb) (pack sa).length)))]) (fun _ w' => Keep w1 w' []) ?_ ?_
  · refine c_seq ?_
    refine c_region ?_
    refine st (y_move rfl) rfl ?_
    refine st (y_nil rfl) rfl ?_
    refine st (fa93_1 rfl) rfl ?_
    refine st (y_loadb rfl one69 (by assumption) (by rfl)) rfl ?_
    refine st (y_len rfl Try.underlying69) rfl ?_
    refine st_if (y_gt_i (b := 0) rfl rfl) rfl (fun h0 => ?_) (fun h0 => ?_)
    · have hKd : Keep w1 w1.drew [] := Keep.drew w1 []
      refine l_nil ?_
      refine q_then ?_
      refine c_true rfl rfl ?_
      refine c_held ((fun w' => Blk w' a 93 [vU sa.length, vS qa (pack sa).length ((pack sa).length + tla.length)] ∧ Blk w' b 93 [vU sb.length, vS qb (pack sb).length ((pack sb).length + tlb.length)])) 9 mixed (by kernel_rfl) (⟨hsta.drew, hstb.drew⟩) ?_
      refine sh (fun w' hS => y_move rfl) rfl rfl ?_
      refine sh (fun w' hS => y_move rfl) rfl rfl ?_
      refine sh (fun w' hS => y_nil rfl) rfl rfl ?_
      refine sh (fun w' hS => fa93_1 rfl) rfl rfl ?_
      refine sh (fun w' hS => y_loadb rfl one69 (by first | assumption | exact hS | exact hS.1 | exact hS.2.1 | exact hS.2.2.1 | exact hS.2.2.2.1 | exact hS.2 | exact hS.2.2 | exact hS.2.2.2) (by rfl)) rfl rfl ?_
      refine sh (fun w' hS => y_move rfl) rfl rfl ?_
      refine sh (fun w' hS => y_nil rfl) rfl rfl ?_
      refine sh (fun w' hS => fa93_1 rfl) rfl rfl ?_
      refine sh (fun w' hS => y_loadb rfl one69 (by first | assumption | exact hS | exact hS.1 | exact hS.2.1 | exact hS.2.2.1 | exact hS.2.2.2.1 | exact hS.2 | exact hS.2.2 | exact hS.2.2.2) (by rfl)) rfl rfl ?_
      refine h_nil ?_
      show wpL _ _ _ _ _ _ _ _
      refine sc rfl rfl isfn71 (c_popcntOrSlice _ _ _ _ _ _ _ _ hBa.lt hBb.lt (by omega) hnab (by omega) _ (hBa.rd.keep hKd (by simp)) (hBb.rd.keep hKd (by simp))) rfl ?_
      rintro _ w3 ⟨rfl, hK3⟩
      have hK := hKd.trans hK3 (by simp)
      refine l_nil ?_
      refine q_held (⟨hsta.keep hK (by simp), hstb.keep hK (by simp)⟩) ?_
      refine ss (y_add_u rfl rfl (by omega)) rfl ?_
      refine ss (y_assign rfl) rfl ?_
      refine s_nil ?_
      refine q_meet () ⟨rfl, rfl, ?_, trivial⟩ hK
      rw [Nat.zero_add]; rfl
    ·
      refine l_nil ?_
      refine q_then ?_
      refine c_false rfl rfl ?_
      refine c_skip ?_
      refine q_meet () ⟨rfl, rfl, ?_, trivial⟩ (Keep.refl _ _)
      have e : (pack sa).length = 0 := by omega
      rw [e]; rfl
  ·
    rintro _ w4 hK4
    have hBa4 := hBa.keep (hK4.trans (Keep.drew w4 []) (by simp)) (by simp) (by simp)
    have hBb4 := hBb.keep (hK4.trans (Keep.drew w4 []) (by simp)) (by simp) (by simp)
    clear hsta hstb hBa hBb
    have hsta := hBa4.st
    have hstb := hBb4.st
    have hKK := (hK1.trans hK4 (by simp)).trans (Keep.drew w4 []) (by simp)
    clear hK1 hK4
    refine c_seq ?_
    refine c_seq ?_
    refine c_still mixed (by kernel_rfl) ?_
    refine ss (y_move rfl) rfl ?_
    refine ss (y_nil rfl) rfl ?_
    refine ss (fa93_1 rfl) rfl ?_
    refine ss (y_loadb rfl one69 (by assumption) (by rfl)) rfl ?_
    refine ss (y_len rfl Try.underlying69) rfl ?_
    refine ss (y_move rfl) rfl ?_
    refine ss (y_nil rfl) rfl ?_
    refine ss (fa93_1 rfl) rfl ?_
    refine ss (y_loadb rfl one69 (by assumption) (by rfl)) rfl ?_
    refine ss (y_len rfl Try.underlying69) rfl ?_
    refine ss_if (y_gt_i rfl rfl) rfl (fun h1 => ?_) (fun h1 => ?_)
    · have hBb5 := hBb4.keep (Keep.drew w4.drew []) (by simp) (by simp)
      have hsta := hsta.drew
      have hstb := hstb.drew
      have hps := psum_le ((pack sb).drop (pack sa).length)
      rw [List.length_drop] at hps
      refine s_nil ?_
      refine q_then ?_
      refine c_true rfl rfl ?_
      refine c_tail 13 mixed (by kernel_rfl) ?_
      refine ss (y_move rfl) rfl ?_
      refine ss (y_move rfl) rfl ?_
      refine ss (y_nil rfl) rfl ?_
      refine ss (fa93_1 rfl) rfl ?_
      refine ss (y_loadb rfl one69 (by assumption) (by rfl)) rfl ?_
      refine ss (y_move rfl) rfl ?_
      refine ss (y_nil rfl) rfl ?_
      refine ss (fa93_1 rfl) rfl ?_
      refine ss (y_loadb rfl one69 (by assumption) (by rfl)) rfl ?_
      refine ss (y_len rfl Try.underlying69) rfl ?_
      refine ss (y_slice_l rfl rfl Try.underlying69 sz34 (by omega)) rfl ?_
      refine ssc rfl rfl isfn66 (c_popcntSlice _ _ _ _ (lt_drop hBb4.lt _) (by omega) _ (hBb5.rds hnab)) rfl ?_
      refine ss (y_add_u rfl rfl (by omega)) rfl ?_
      refine s_nil ?_
      show wpL _ _ _ _ _ _ _ _
      refine st (y_assign rfl) rfl ?_
      refine l_nil ?_
      refine q_then ?_
      refine c_seq ?_
      refine c_region ?_
      refine st (y_move rfl) rfl ?_
      refine st (y_assign rfl) rfl ?_
      refine l_nil ?_
      refine q_then ?_
      refine c_ret ?_
      refine q_end1 (.inl rfl) rfl rfl ?_
      exact ⟨_, rfl, by rw [fin], hKK.trans (Keep.drew _ []) (by simp)⟩
    ·
      refine s_nil ?_
      refine q_then ?_
      refine c_false rfl rfl ?_
      refine c_skip ?_
      refine q_then ?_
      refine c_seq ?_
      refine c_region ?_
      refine st (y_move rfl) rfl ?_
      refine st (y_assign rfl) rfl ?_
      refine l_nil ?_
      refine q_then ?_
      refine c_ret ?_
      refine q_end1 (.inl rfl) rfl rfl ?_
      refine ⟨_, rfl, ?_, hKK⟩
      rw [fin, List.drop_eq_nil_of_le (by omega)]; rfl

theorem c_SymDiff (p q p2 q2 : Nat) (s t : List Bool) (w : World) (hB : BSet w p q s) (hB2 : BSet w p2 q2 t) (hs : s.length ≤ 100001) (ht : t.length ≤ 100001) :
    Cal Try.prog 59 [vP p, vP p2] w fun v w' => v = vU (count (joined gXor s t)) ∧ Keep w w' [] := by
  refine go_in' Try.func59 rfl Try.ntmps59 (Nat.le_of_ble_eq_true rfl) ?_
  refine c_seq ?_
  refine c_region ?_
  refine st (y_assign (v := vU 0) rfl) rfl ?_
  refine l_nil ?_
  refine q_then ?_
  refine c_seq ?_
  refine c_region ?_
  refine st (y_move rfl) rfl ?_
  refine sc rfl rfl isfn65 (c_panicIfNull p _) rfl ?_
  rintro _ _ ⟨rfl, rfl⟩
  refine l_nil ?_
  refine q_then ?_
  refine c_seq ?_
  refine c_region ?_
  refine st (y_move rfl) rfl ?_
  refine sc rfl rfl isfn65 (c_panicIfNull p2 _) rfl ?_
  rintro _ _ ⟨rfl, rfl⟩
  refine l_nil ?_
  refine q_then ?_
  refine c_seq ?_
  refine c_region ?_
  refine st (y_move rfl) rfl ?_
  refine st (y_move rfl) rfl ?_
  refine sc rfl rfl isfn70 (c_sortByLength p q p2 q2 s t _ hB hB2 hs ht) rfl ?_
  rintro _ w1 ⟨a, qa, sa, b, qb, sb, rfl, hBa, hBb, hle, hor, hK1⟩
  have fin : count (joined gXor s t) = psum (zipw (· ^^^ ·) (pack sa) (pack sb) (pack sa).length) + psum ((pack sb).drop (pack sa).length) := by
    rw [← card_xor sa sb hle]
    rcases hor with ⟨rfl, rfl⟩ | ⟨rfl, rfl⟩
    · rfl
    · exact congrArg count (joined_comm (g := gXor) (fun a b => by cases a <;> cases b <;> rfl) _ _)
  have hla : sa.length ≤ 100001 := by rcases hor with ⟨rfl, rfl⟩ | ⟨rfl, rfl⟩ <;> assumption
  have hlb : sb.length ≤ 100001 := by rcases hor with ⟨rfl, rfl⟩ | ⟨rfl, rfl⟩ <;> assumption
  clear hB hB2 hor
  have hna : (pack sa).length ≤ 2000 := by rw [pack_length]; unfold nW; omega
  have hnb : (pack sb).length ≤ 2000 := by rw [pack_length]; unfold nW; omega
  have hnab : (pack sa).length ≤ (pack sb).length := by rw [pack_length, pack_length]; exact nW_mono hle
  have hz := zipw_le (· ^^^ ·) (pack sa) (pack sb) (pack sa).length
  obtain ⟨tla, hBa⟩ := hBa
  obtain ⟨tlb, hBb⟩ := hBb
  have hsta := hBa.st
  have hstb := hBb.st
  refine st (y_move rfl) rfl ?_
  refine st (y_extract rfl rfl) rfl ?_
  refine st (y_extract rfl rfl) rfl ?_
  refine st (y_assign rfl) rfl ?_
  refine st (y_assign rfl) rfl ?_
  refine l_nil ?_
  refine q_then ?_
  refine c_seq ?_
  refine c_region ?_
  refine st (y_assign (v := vU 0) rfl) rfl ?_
  refine l_nil ?_
  refine q_then ?_
  refine c_cut (fun _ : Unit => [(0, vP a), (1, vP b), (5, vU (psum (zipw (· ^^^ ·) (pack sa) (pack sb) (pack sa).length)))]) (fun _ w' => Keep w1 w' []) ?_ ?_
  · refine c_seq ?_
    refine c_region ?_
    refine st (y_move rfl) rfl ?_
    refine st (y_nil rfl) rfl ?_
    refine st (fa93_1 rfl) rfl ?_
    refine st (y_loadb rfl one69 (by assumption) (by rfl)) rfl ?_
    refine st (y_len rfl Try.underlying69) rfl ?_
    refine st_if (y_gt_i (b := 0) rfl rfl) rfl (fun h0 => ?_) (fun h0 => ?_)
    · have hKd : Keep w1 w1.drew [] := Keep.drew w1 []
      refine l_nil ?_
      refine q_then ?_
      refine c_true rfl rfl ?_
      refine c_held ((fun w' => Blk w' a 93 [vU sa.length, vS qa (pack sa).length ((pack sa).length + tla.length)] ∧ Blk w' b 93 [vU sb.length, vS qb (pack sb).length ((pack sb).length + tlb.length)])) 9 mixed (by kernel_rfl) (⟨hsta.drew, hstb.drew⟩) ?_
      refine sh (fun w' hS => y_move rfl) rfl rfl ?_
      refine sh (fun w' hS => y_move rfl) rfl rfl ?_
      refine sh (fun w' hS => y_nil rfl) rfl rfl ?_
      refine sh (fun w' hS => fa93_1 rfl) rfl rfl ?_
      refine sh (fun w' hS => y_loadb rfl one69 (by first | assumption | exact hS | exact hS.1 | exact hS.2.1 | exact hS.2.2.1 | exact hS.2.2.2.1 | exact hS.2 | exact hS.2.2 | exact hS.2.2.2) (by rfl)) rfl rfl ?_
      refine sh (fun w' hS => y_move rfl) rfl rfl ?_
      refine sh (fun w' hS => y_nil rfl) rfl rfl ?_
      refine sh (fun w' hS => fa93_1 rfl) rfl rfl ?_
      refine sh (fun w' hS => y_loadb rfl one69 (by first | assumption | exact hS | exact hS.1 | exact hS.2.1 | exact hS.2.2.1 | exact hS.2.2.2.1 | exact hS.2 | exact hS.2.2 | exact hS.2.2.2) (by rfl)) rfl rfl ?_
      refine h_nil ?_
      show wpL _ _ _ _ _ _ _ _
      refine sc rfl rfl isfn74 (c_popcntXorSlice _ _ _ _ _ _ _ _ hBa.lt hBb.lt (by omega) hnab (by omega) _ (hBa.rd.keep hKd (by simp)) (hBb.rd.keep hKd (by simp))) rfl ?_
      rintro _ w3 ⟨rfl, hK3⟩
      have hK := hKd.trans hK3 (by simp)
      refine l_nil ?_
      refine q_held (⟨hsta.keep hK (by simp), hstb.keep hK (by simp)⟩) ?_
      refine ss (y_add_u rfl rfl (by omega)) rfl ?_
      refine ss (y_assign rfl) rfl ?_
      refine s_nil ?_
      refine q_meet () ⟨rfl, rfl, ?_, trivial⟩ hK
      rw [Nat.zero_add]; rfl
    ·
      refine l_nil ?_
      refine q_then ?_
      refine c_false rfl rfl ?_
      refine c_skip ?_
      refine q_meet () ⟨rfl, rfl, ?_, trivial⟩ (Keep.refl _ _)
      have e : (pack sa).length = 0 := by omega
      rw [e]; rfl
  ·
    rintro _ w4 hK4
    have hBa4 := hBa.keep (hK4.trans (Keep.drew w4 []) (by simp)) (by simp) (by simp)
    have hBb4 := hBb.keep (hK4.trans (Keep.drew w4 []) (by simp)) (by simp) (by simp)
    clear hsta hstb hBa hBb
    have hsta := hBa4.st
    have hstb := hBb4.st
    have hKK := (hK1.trans hK4 (by simp)).trans (Keep.drew w4 []) (by simp)
    clear hK1 hK4
    refine c_seq ?_
    refine c_seq ?_
    refine c_still mixed (by kernel_rfl) ?_
    refine ss (y_move rfl) rfl ?_
    refine ss (y_nil rfl) rfl ?_
    refine ss (fa93_1 rfl) rfl ?_
    refine ss (y_loadb rfl one69 (by assumption) (by rfl)) rfl ?_
    refine ss (y_len rfl Try.underlying69) rfl ?_
    refine ss (y_move rfl) rfl ?_
    refine ss (y_nil rfl) rfl ?_
    refine ss (fa93_1 rfl) rfl ?_
    refine ss (y_loadb rfl one69 (by assumption) (by rfl)) rfl ?_
    refine ss (y_len rfl Try.underlying69) rfl ?_
    refine ss_if (y_gt_i rfl rfl) rfl (fun h1 => ?_) (fun h1 => ?_)
    · have hBb5 := hBb4.keep (Keep.drew w4.drew []) (by simp) (by simp)
      have hsta := hsta.drew
      have hstb := hstb.drew
      have hps := psum_le ((pack sb).drop (pack sa).length)
      rw [List.length_drop] at hps
      refine s_nil ?_
      refine q_then ?_
      refine c_true rfl rfl ?_
      refine c_tail 13 mixed (by kernel_rfl) ?_
      refine ss (y_move rfl) rfl ?_
      refine ss (y_move rfl) rfl ?_
      refine ss (y_nil rfl) rfl ?_
      refine ss (fa93_1 rfl) rfl ?_
      refine ss (y_loadb rfl one69 (by assumption) (by rfl)) rfl ?_
      refine ss (y_move rfl) rfl ?_
      refine ss (y_nil rfl) rfl ?_
      refine ss (fa93_1 rfl) rfl ?_
      refine ss (y_loadb rfl one69 (by assumption) (by rfl)) rfl ?_
      refine ss (y_len rfl Try.underlying69) rfl ?_
      refine ss (y_slice_l rfl rfl Try.underlying69 sz34 (by omega)) rfl ?_
      refine ssc rfl rfl isfn66 (c_popcntSlice _ _ _ _ (lt_drop hBb4.lt _) (by omega) _ (hBb5.rds hnab)) rfl ?_
      refine ss (y_add_u rfl rfl (by omega)) rfl ?_
      refine s_nil ?_
      show wpL _ _ _ _ _ _ _ _
      refine st (y_assign rfl) rfl ?_
      refine l_nil ?_
      refine q_then ?_
      refine c_seq ?_
      refine c_region ?_
      refine st (y_move rfl) rfl ?_
      refine st (y_assign rfl) rfl ?_
      refine l_nil ?_
      refine q_then ?_
      refine c_ret ?_
      refine q_end1 (.inl rfl) rfl rfl ?_
      exact ⟨_, rfl, by rw [fin], hKK.trans (Keep.drew _ []) (by simp)⟩
    ·
      refine s_nil ?_
      refine q_then ?_
      refine c_false rfl rfl ?_
      refine c_skip ?_
      refine q_then ?_
      refine c_seq ?_
      refine c_region ?_
      refine st (y_move rfl) rfl ?_
      refine st (y_assign rfl) rfl ?_
      refine l_nil ?_
      refine q_then ?_
      refine c_ret ?_
      refine q_end1 (.inl rfl) rfl rfl ?_
      refine ⟨_, rfl, ?_, hKK⟩
      rw [fin, List.drop_eq_nil_of_le (by omega)]; rfl

theorem c_Intersection (p q p2 q2 : Nat) (s t : List Bool) (w : World) (hB : BSet w p q s) (hB2 : BSet w p2 q2 t) (hs : s.length ≤ 100001) (ht : t.length ≤ 100001) :
    Cal Try.prog 57 [vP p, vP p2] w fun v w' => v = vU (count (joined gAnd s t)) ∧ Keep w w' [] := by
  obtain ⟨tl, hB'⟩ := id hB
  obtain ⟨tl2, hB2'⟩ := id hB2
  have hst := hB'.st
  have hst2 := hB2'.st
  have hz0 : s.length = 0 ∨ t.length = 0 → count (joined gAnd s t) = 0 := by
    intro h
    refine cnt_false fun i _ => ?_
    rw [joined_getD (g := gAnd) rfl]
    rcases h with h | h
    · rw [getD_ge s _ (by omega)]; rfl
    · rw [getD_ge t _ (by omega)]; unfold gAnd; rw [Bool.and_false]
  refine go_in' Try.func57 rfl Try.ntmps57 (Nat.le_of_ble_eq_true rfl) ?_
  refine c_seq ?_
  refine c_region ?_
  refine st (y_assign (v := vU 0) rfl) rfl ?_
  refine l_nil ?_
  refine q_then ?_
  refine c_seq ?_
  refine c_region ?_
  refine st (y_move rfl) rfl ?_
  refine sc rfl rfl isfn65 (c_panicIfNull p _) rfl ?_
  rintro _ _ ⟨rfl, rfl⟩
  refine l_nil ?_
  refine q_then ?_
  refine c_seq ?_
  refine c_region ?_
  refine st (y_move rfl) rfl ?_
  refine sc rfl rfl isfn65 (c_panicIfNull p2 _) rfl ?_
  rintro _ _ ⟨rfl, rfl⟩
  refine l_nil ?_
  refine q_then ?_
  refine c_seq ?_
  refine c_seq ?_
  refine c_region ?_
  refine st (y_move rfl) rfl ?_
  refine st (y_nil rfl) rfl ?_
  refine st (fa93_0 rfl) rfl ?_
  refine st (y_loadb rfl one22 (by assumption) (by rfl)) rfl ?_
  refine st_if (y_eq_u (b := 0) rfl rfl) rfl (fun h1 => ?_) (fun h1 => ?_)
  · refine st (y_move rfl) rfl ?_
    refine sno rfl rfl rfl rfl ?_
    refine sno rfl rfl rfl rfl ?_
    refine sno rfl rfl rfl rfl ?_
    refine sno rfl rfl rfl rfl ?_
    refine sno rfl rfl rfl rfl ?_
    refine st (y_pickT rfl rfl) rfl ?_
    refine l_nil ?_
    refine q_then ?_
    refine c_true rfl rfl ?_
    refine c_seq ?_
    refine c_region ?_
    refine st (y_assign (v := vU 0) rfl) rfl ?_
    refine l_nil ?_
    refine q_then ?_
    refine c_ret ?_
    refine q_then_ret ?_
    refine q_end1 (.inl rfl) rfl rfl ?_
    exact ⟨_, rfl, by rw [hz0 (.inl h1)], Keep.refl _ _⟩
  ·
    refine st (y_move rfl) rfl ?_
    refine stg rfl rfl (y_move rfl) rfl ?_
    refine stg rfl rfl (y_nil rfl) rfl ?_
    refine stg rfl rfl (fa93_0 rfl) rfl ?_
    refine stg rfl rfl (y_loadb rfl one22 (by assumption) (by rfl)) rfl ?_
    refine stg_if rfl rfl (y_eq_u (b := 0) rfl rfl) rfl (fun h2 => ?_) (fun h2 => ?_)
    · refine st (y_pickF rfl rfl) rfl ?_
      refine l_nil ?_
      refine q_then ?_
      refine c_true rfl rfl ?_
      refine c_seq ?_
      refine c_region ?_
      refine st (y_assign (v := vU 0) rfl) rfl ?_
      refine l_nil ?_
      refine q_then ?_
      refine c_ret ?_
      refine q_then_ret ?_
      refine q_end1 (.inl rfl) rfl rfl ?_
      exact ⟨_, rfl, by rw [hz0 (.inr h2)], Keep.refl _ _⟩
    ·
      refine st (y_pickF rfl rfl) rfl ?_
      refine l_nil ?_
      refine q_then ?_
      refine c_false rfl rfl ?_
      refine c_skip ?_
      refine q_then ?_
      refine c_seq ?_
      refine c_region ?_
      refine st (y_move rfl) rfl ?_
      refine st (y_move rfl) rfl ?_
      refine sc rfl rfl isfn70 (c_sortByLength p q p2 q2 s t _ hB hB2 hs ht) rfl ?_
      rintro _ w1 ⟨a, qa, sa, b, qb, sb, rfl, hBa, hBb, hle, hor, hK1⟩
      have fin : count (joined gAnd s t) = psum (zipw (· &&& ·) (pack sa) (pack sb) (pack sa).length) := by
        rw [← card_and sa sb hle]
        rcases hor with ⟨rfl, rfl⟩ | ⟨rfl, rfl⟩
        · rfl
        · exact congrArg count (joined_comm (g := gAnd) (fun a b => by cases a <;> cases b <;> rfl) _ _)
      have hla : sa.length ≤ 100001 := by rcases hor with ⟨rfl, rfl⟩ | ⟨rfl, rfl⟩ <;> assumption
      have hlb : sb.length ≤ 100001 := by rcases hor with ⟨rfl, rfl⟩ | ⟨rfl, rfl⟩ <;> assumption
      have h0 : 0 < (pack sa).length := by
        rw [pack_length]; unfold nW
        rcases hor with ⟨rfl, rfl⟩ | ⟨rfl, rfl⟩ <;> omega
      clear hB hB2 hor hB' hB2' hst hst2
      have hnb : (pack sb).length ≤ 2000 := by rw [pack_length]; unfold nW; omega
      have hnab : (pack sa).length ≤ (pack sb).length := by rw [pack_length, pack_length]; exact nW_mono hle
      have hKd : Keep w1 w1.drew [] := Keep.drew w1 []
      obtain ⟨tla, hBa⟩ := hBa
      obtain ⟨tlb, hBb⟩ := hBb
      have hsta := hBa.st
      have hstb := hBb.st
      refine st (y_move rfl) rfl ?_
      refine st (y_extract rfl rfl) rfl ?_
      refine st (y_extract rfl rfl) rfl ?_
      refine st (y_assign rfl) rfl ?_
      refine st (y_assign rfl) rfl ?_
      refine l_nil ?_
      refine q_then ?_
      refine c_seq ?_
      refine c_held ((fun w' => Blk w' a 93 [vU sa.length, vS qa (pack sa).length ((pack sa).length + tla.length)] ∧ Blk w' b 93 [vU sb.length, vS qb (pack sb).length ((pack sb).length + tlb.length)])) 8 mixed (by kernel_rfl) (⟨hsta.drew, hstb.drew⟩) ?_
      refine sh (fun w' hS => y_move rfl) rfl rfl ?_
      refine sh (fun w' hS => y_nil rfl) rfl rfl ?_
      refine sh (fun w' hS => fa93_1 rfl) rfl rfl ?_
      refine sh (fun w' hS => y_loadb rfl one69 (by first | assumption | exact hS | exact hS.1 | exact hS.2.1 | exact hS.2.2.1 | exact hS.2.2.2.1 | exact hS.2 | exact hS.2.2 | exact hS.2.2.2) (by rfl)) rfl rfl ?_
      refine sh (fun w' hS => y_move rfl) rfl rfl ?_
      refine sh (fun w' hS => y_nil rfl) rfl rfl ?_
      refine sh (fun w' hS => fa93_1 rfl) rfl rfl ?_
      refine sh (fun w' hS => y_loadb rfl one69 (by first | assumption | exact hS | exact hS.1 | exact hS.2.1 | exact hS.2.2.1 | exact hS.2.2.2.1 | exact hS.2 | exact hS.2.2 | exact hS.2.2.2) (by rfl)) rfl rfl ?_
      refine h_nil ?_
      show wpL _ _ _ _ _ _ _ _
      refine sc rfl rfl isfn72 (c_popcntAndSlice _ _ _ _ _ _ _ _ hBa.lt hBb.lt h0 hnab (by omega) _ (hBa.rd.keep hKd (by simp)) (hBb.rd.keep hKd (by simp))) rfl ?_
      rintro _ w3 ⟨rfl, hK3⟩
      have hK := hKd.trans hK3 (by simp)
      refine l_nil ?_
      refine q_held (⟨hsta.keep hK (by simp), hstb.keep hK (by simp)⟩) ?_
      refine ss (y_assign rfl) rfl ?_
      refine s_nil ?_
      refine q_then ?_
      refine c_seq ?_
      refine c_region ?_
      refine st (y_move rfl) rfl ?_
      refine st (y_assign rfl) rfl ?_
      refine l_nil ?_
      refine q_then ?_
      refine c_ret ?_
      refine q_end1 (.inl rfl) rfl rfl ?_
      exact ⟨_, rfl, by rw [fin], hK1.trans hK (by simp)⟩

theorem c_Difference (p q p2 q2 : Nat) (s t : List Bool) (w : World) (hB : BSet w p q s) (hB2 : BSet w p2 q2 t) (hs : s.length ≤ 100001) (ht : t.length ≤ 100001) :
    Cal Try.prog 58 [vP p, vP p2] w fun v w' => v = vU (count (joined gDif s t)) ∧ Keep w w' [] := by
  obtain ⟨tl, hB'⟩ := id hB
  obtain ⟨tl2, hB2'⟩ := id hB2
  have hst := hB'.st
  have hst2 := hB2'.st
  have hna : (pack s).length ≤ 2000 := by rw [pack_length]; unfold nW; omega
  have hnb : (pack t).length ≤ 2000 := by rw [pack_length]; unfold nW; omega
  obtain ⟨l, hl⟩ : ∃ l, l = min (pack t).length (pack s).length := ⟨_, rfl⟩
  have fin := card_dif s t l (by rw [← pack_length, ← pack_length]; exact hl)
  have hz := zipw_le (fun x y => x &&& nt' y) (pack s) (pack t) l
  have hps := psum_le ((pack s).drop l)
  rw [List.length_drop] at hps
  refine go_in' Try.func58 rfl Try.ntmps58 (Nat.le_of_ble_eq_true rfl) ?_
  refine c_seq ?_
  refine c_region ?_
  refine st (y_assign (v := vU 0) rfl) rfl ?_
  refine l_nil ?_
  refine q_then ?_
  refine c_seq ?_
  refine c_region ?_
  refine st (y_move rfl) rfl ?_
  refine sc rfl rfl isfn65 (c_panicIfNull p _) rfl ?_
  rintro _ _ ⟨rfl, rfl⟩
  refine l_nil ?_
  refine q_then ?_
  refine c_seq ?_
  refine c_region ?_
  refine st (y_move rfl) rfl ?_
  refine sc rfl rfl isfn65 (c_panicIfNull p2 _) rfl ?_
  rintro _ _ ⟨rfl, rfl⟩
  refine l_nil ?_
  refine q_then ?_
  refine c_seq ?_
  refine c_region ?_
  refine st (y_move rfl) rfl ?_
  refine sc rfl rfl isfn69 (c_wordCount p2 q2 t _ hB2 ht) rfl ?_
  rintro _ _ ⟨rfl, rfl⟩
  refine st (y_assign rfl) rfl ?_
  refine l_nil ?_
  refine q_then ?_
  refine c_cut (fun _ : Unit => [(0, vP p), (1, vP p2), (5, vI (l : Nat))]) (fun _ w' => w = w') ?_ ?_
  · refine c_seq ?_
    refine c_region ?_
    refine st (y_move rfl) rfl ?_
    refine st (y_move rfl) rfl ?_
    refine sc rfl rfl isfn69 (c_wordCount p q s _ hB hs) rfl ?_
    rintro _ _ ⟨rfl, rfl⟩
    refine st_if (y_gt_i rfl rfl) rfl (fun hgt => ?_) (fun hgt => ?_)
    · refine l_nil ?_
      refine q_then ?_
      refine c_true rfl rfl ?_
      refine c_region ?_
      refine st (y_move rfl) rfl ?_
      refine sc rfl rfl isfn69 (c_wordCount p q s _ hB hs) rfl ?_
      rintro _ _ ⟨rfl, rfl⟩
      refine st (y_assign rfl) rfl ?_
      refine l_nil ?_
      refine q_meet () ⟨rfl, rfl, ?_, trivial⟩ rfl
      have e : l = (pack s).length := by omega
      rw [e]; rfl
    ·
      refine l_nil ?_
      refine q_then ?_
      refine c_false rfl rfl ?_
      refine c_skip ?_
      refine q_meet () ⟨rfl, rfl, ?_, trivial⟩ rfl
      have e : l = (pack t).length := by omega
      rw [e]; rfl
  ·
    rintro _ w' rfl
    refine c_seq ?_
    refine c_region ?_
    refine st (y_assign (v := vU 0) rfl) rfl ?_
    refine l_nil ?_
    refine q_then ?_
    refine c_cut (fun _ : Unit => [(0, vP p), (1, vP p2), (5, vI (l : Nat)), (6, vU (psum (zipw (fun x y => x &&& nt' y) (pack s) (pack t) l)))]) (fun _ w' => Keep w w' []) ?_ ?_
    · refine c_seq ?_
      refine c_region ?_
      refine st (y_move rfl) rfl ?_
      refine st_if (y_gt_i (b := 0) rfl rfl) rfl (fun h0 => ?_) (fun h0 => ?_)
      · have hKd : Keep w w.drew [] := Keep.drew w []
        refine l_nil ?_
        refine q_then ?_
        refine c_true rfl rfl ?_
        refine c_held ((fun w' => Blk w' p 93 [vU s.length, vS q (pack s).length ((pack s).length + tl.length)] ∧ Blk w' p2 93 [vU t.length, vS q2 (pack t).length ((pack t).length + tl2.length)])) 13 mixed (by kernel_rfl) (⟨hst.drew, hst2.drew⟩) ?_
        refine sh (fun w' hS => y_move rfl) rfl rfl ?_
        refine sh (fun w' hS => y_move rfl) rfl rfl ?_
        refine sh (fun w' hS => y_nil rfl) rfl rfl ?_
        refine sh (fun w' hS => fa93_1 rfl) rfl rfl ?_
        refine sh (fun w' hS => y_loadb rfl one69 (by first | assumption | exact hS | exact hS.1 | exact hS.2.1 | exact hS.2.2.1 | exact hS.2.2.2.1 | exact hS.2 | exact hS.2.2 | exact hS.2.2.2) (by rfl)) rfl rfl ?_
        refine sh (fun w' hS => y_move rfl) rfl rfl ?_
        refine sh (fun w' hS => y_slice_h rfl rfl Try.underlying69 sz34 (by omega)) rfl rfl ?_
        refine sh (fun w' hS => y_move rfl) rfl rfl ?_
        refine sh (fun w' hS => y_nil rfl) rfl rfl ?_
        refine sh (fun w' hS => fa93_1 rfl) rfl rfl ?_
        refine sh (fun w' hS => y_loadb rfl one69 (by first | assumption | exact hS | exact hS.1 | exact hS.2.1 | exact hS.2.2.1 | exact hS.2.2.2.1 | exact hS.2 | exact hS.2.2 | exact hS.2.2.2) (by rfl)) rfl rfl ?_
        refine sh (fun w' hS => y_move rfl) rfl rfl ?_
        refine sh (fun w' hS => y_slice_h rfl rfl Try.underlying69 sz34 (by omega)) rfl rfl ?_
        refine h_nil ?_
        show wpL _ _ _ _ _ _ _ _
        refine sc rfl rfl isfn73 (c_popcntMaskSlice _ _ _ _ _ _ _ _ (lt_take hB'.lt l) (lt_take hB2'.lt l) (by omega) (Nat.le_refl _) (by omega) _ ((hB'.rdt (by omega)).keep hKd (by simp)) ((hB2'.rdt (by omega)).keep hKd (by simp))) rfl ?_
        rintro _ w3 ⟨rfl, hK3⟩
        rw [zipw_take _ _ _ _ _ _ (Nat.le_refl _) (Nat.le_refl _)]
        have hK := hKd.trans hK3 (by simp)
        refine l_nil ?_
        refine q_held (⟨hst.keep hK (by simp), hst2.keep hK (by simp)⟩) ?_
        refine ss (y_add_u rfl rfl (by omega)) rfl ?_
        refine ss (y_assign rfl) rfl ?_
        refine s_nil ?_
        refine q_meet () ⟨rfl, rfl, rfl, ?_, trivial⟩ hK
        rw [Nat.zero_add]; rfl
      ·
        refine l_nil ?_
        refine q_then ?_
        refine c_false rfl rfl ?_
        refine c_skip ?_
        refine q_meet () ⟨rfl, rfl, rfl, ?_, trivial⟩ (Keep.refl _ _)
        have e : l = 0 := by omega
        rw [e]; rfl
    ·
      rintro _ w4 hK4
      have hBa4 := hB'.keep hK4 (by simp) (by simp)
      clear hst hst2
      have hst := hBa4.st
      refine c_seq ?_
      refine c_region ?_
      refine st (y_move rfl) rfl ?_
      refine st (y_move rfl) rfl ?_
      refine st (y_nil rfl) rfl ?_
      refine st (fa93_1 rfl) rfl ?_
      refine st (y_loadb rfl one69 (by assumption) (by rfl)) rfl ?_
      refine st (y_move rfl) rfl ?_
      refine st (y_slice_l rfl rfl Try.underlying69 sz34 (by omega)) rfl ?_
      refine sc rfl rfl isfn66 (c_popcntSlice _ _ _ _ (lt_drop hBa4.lt _) (by omega) _ (hBa4.rds (by omega))) rfl ?_
      rintro _ _ ⟨rfl, rfl⟩
      refine st (y_add_u rfl rfl (by omega)) rfl ?_
      refine st (y_assign rfl) rfl ?_
      refine l_nil ?_
      refine q_then ?_
      refine c_seq ?_
      refine c_region ?_
      refine st (y_move rfl) rfl ?_
      refine st (y_assign rfl) rfl ?_
      refine l_nil ?_
      refine q_then ?_
      refine c_ret ?_
      refine q_end1 (.inl rfl) rfl rfl ?_
      exact ⟨_, rfl, by rw [fin], hK4⟩

theorem c_Equal (p q p2 q2 : Nat) (s t : List Bool) (w : World) (hB : BSet w p q s) (hB2 : BSet w p2 q2 t) (hs : s.length ≤ 100001) (ht : t.length ≤ 100001) :
    Cal Try.prog 53 [vP p, vP p2] w fun v w' => v = vB (decide (s = t)) ∧ Keep w w' [] := by
  have hBd := hB.keep (Keep.drew w []) (by simp) (by simp)
  obtain ⟨tl, hB'⟩ := hB.keep (Keep.drew w []) (by simp) (by simp)
  obtain ⟨tl2, hB2'⟩ := hB2.keep (Keep.drew w []) (by simp) (by simp)
  have hst := hB'.st
  have hst2 := hB2'.st
  have hwd := hB'.wd
  have hwd2 := hB2'.wd
  have hna : (pack s).length ≤ 2000 := by rw [pack_length]; unfold nW; omega
  have hnb : (pack t).length ≤ 2000 := by rw [pack_length]; unfold nW; omega
  have hga : ∀ j, j < (pack s).length → (pack s ++ tl).getD j 0 = wordAt s j := fun j hj => by
    rw [List.getD_eq_getElem?_getD, List.getElem?_append_left hj, ← List.getD_eq_getElem?_getD, pack_getD]
  have hgb : ∀ j, j < (pack t).length → (pack t ++ tl2).getD j 0 = wordAt t j := fun j hj => by
    rw [List.getD_eq_getElem?_getD, List.getElem?_append_left hj, ← List.getD_eq_getElem?_getD, pack_getD]
  have hKd : Keep w w.drew [] := Keep.drew w []
  refine go_in' Try.func53 rfl Try.ntmps53 (Nat.le_of_ble_eq_true rfl) ?_
  refine c_seq ?_
  refine c_region ?_
  refine st (y_assign rfl) rfl ?_
  refine l_nil ?_
  refine q_then ?_
  refine c_seq ?_
  refine c_seq ?_
  refine c_region ?_
  refine st (y_move rfl) rfl ?_
  refine st (y_pnil_eq rfl rfl pte61) rfl ?_
  refine st (y_move rfl) rfl ?_
  refine stg rfl rfl (y_move rfl) rfl ?_
  refine stg rfl rfl (y_pnil_eq rfl rfl pte61) rfl ?_
  refine st (y_pickF rfl rfl) rfl ?_
  refine l_nil ?_
  refine q_then ?_
  refine c_false rfl rfl ?_
  refine c_skip ?_
  refine q_then ?_
  refine c_seq ?_
  refine c_seq ?_
  refine c_still mixed (by kernel_rfl) ?_
  refine ss (y_move rfl) rfl ?_
  refine ss (y_nil rfl) rfl ?_
  refine ss (fa93_0 rfl) rfl ?_
  refine ss (y_loadb rfl one22 (by assumption) (by rfl)) rfl ?_
  refine ss (y_move rfl) rfl ?_
  refine ss (y_nil rfl) rfl ?_
  refine ss (fa93_0 rfl) rfl ?_
  refine ss (y_loadb rfl one22 (by assumption) (by rfl)) rfl ?_
  refine ss_if (y_ne_u rfl rfl) rfl (fun hne => ?_) (fun hne => ?_)
  · refine s_nil ?_
    refine q_then ?_
    refine c_true rfl rfl ?_
    refine c_seq ?_
    refine c_region ?_
    refine st (y_assign rfl) rfl ?_
    refine l_nil ?_
    refine q_then ?_
    refine c_ret ?_
    refine q_then_ret ?_
    refine q_end1 (.inl rfl) rfl rfl ?_
    exact ⟨_, rfl, by rw [decide_eq_false (fun e => hne (by rw [e]))], hKd⟩
  ·
    have hlen : s.length = t.length := by omega
    refine s_nil ?_
    refine q_then ?_
    refine c_false rfl rfl ?_
    refine c_skip ?_
    refine q_then ?_
    refine c_seq ?_
    refine c_seq ?_
    refine c_region ?_
    refine st (y_move rfl) rfl ?_
    refine st (y_nil rfl) rfl ?_
    refine st (fa93_0 rfl) rfl ?_
    refine st (y_loadb rfl one22 (by assumption) (by rfl)) rfl ?_
    refine st_if (y_eq_u (b := 0) rfl rfl) rfl (fun hz => ?_) (fun hz => ?_)
    · refine l_nil ?_
      refine q_then ?_
      refine c_true rfl rfl ?_
      refine c_seq ?_
      refine c_region ?_
      refine st (y_assign rfl) rfl ?_
      refine l_nil ?_
      refine q_then ?_
      refine c_ret ?_
      refine q_then_ret ?_
      refine q_end1 (.inl rfl) rfl rfl ?_
      have e1 : s = [] := List.eq_nil_of_length_eq_zero hz
      have e2 : t = [] := List.eq_nil_of_length_eq_zero (by omega)
      exact ⟨_, rfl, by rw [e1, e2]; rfl, hKd⟩
    ·
      have hpl : (pack s).length = (pack t).length := by rw [pack_length, pack_length, hlen]
      have h0 : 0 < (pack s).length := by rw [pack_length]; unfold nW; omega
      refine l_nil ?_
      refine q_then ?_
      refine c_false rfl rfl ?_
      refine c_skip ?_
      refine q_then ?_
      refine c_seq ?_
      refine c_region ?_
      refine st (y_move rfl) rfl ?_
      refine sc rfl rfl isfn69 (c_wordCount p q s _ hBd hs) rfl ?_
      rintro _ _ ⟨rfl, rfl⟩
      refine st (y_assign rfl) rfl ?_
      refine l_nil ?_
      refine q_then ?_
      refine c_seq ?_
      refine c_seq ?_
      refine c_region ?_
      refine st (y_move rfl) rfl ?_
      refine st_f (y_le_i (b := 0) rfl rfl) (by omega) rfl ?_
      refine l_nil ?_
      refine q_then ?_
      refine c_false rfl rfl ?_
      refine c_skip ?_
      refine q_then ?_
      refine c_seq ?_
      refine c_region ?_
      refine st (y_move rfl) rfl ?_
      refine st (y_nil rfl) rfl ?_
      refine st (fa93_1 rfl) rfl ?_
      refine st (y_loadb rfl one69 (by assumption) (by rfl)) rfl ?_
      refine st (y_move rfl) rfl ?_
      refine st (y_sub_i (b := 1) rfl rfl (by omega) (by omega)) rfl ?_
      rw [show (((pack s).length : Int) - 1) = (((pack s).length - 1 : Nat) : Int) by omega]
      first | refine st (y_index0 rfl rfl Try.underlying69 sz34 (by omega)) rfl ?_ | refine st (y_index rfl rfl Try.underlying69 sz34 (by omega)) rfl ?_ | refine st (y_indexA rfl rfl Try.underlying69 sz34 (by omega)) rfl ?_
      first | refine st (y_loadM (0) rfl one34 (by assumption) (by first | omega | (simp only [List.length_append, List.length_map, List.length_replicate, List.length_set, List.length_take, List.length_drop]; omega) | (simp; done))) rfl ?_ | refine st (y_load rfl one34 (by assumption)) rfl ?_
      refine l_nil ?_
      refine q_then ?_
      refine c_seq ?_
      refine c_region ?_
      refine st (y_move rfl) rfl ?_
      refine st (y_nil rfl) rfl ?_
      refine st (fa93_1 rfl) rfl ?_
      refine st (y_loadb rfl one69 (by assumption) (by rfl)) rfl ?_
      refine st (y_move rfl) rfl ?_
      refine st (y_sub_i (b := 1) rfl rfl (by omega) (by omega)) rfl ?_
      rw [show (((pack s).length : Int) - 1) = (((pack s).length - 1 : Nat) : Int) by omega]
      first | refine st (y_index0 rfl rfl Try.underlying69 sz34 (by omega)) rfl ?_ | refine st (y_index rfl rfl Try.underlying69 sz34 (by omega)) rfl ?_ | refine st (y_indexA rfl rfl Try.underlying69 sz34 (by omega)) rfl ?_
      first | refine st (y_loadM (0) rfl one34 (by assumption) (by first | omega | (simp only [List.length_append, List.length_map, List.length_replicate, List.length_set, List.length_take, List.length_drop]; omega) | (simp; done))) rfl ?_ | refine st (y_load rfl one34 (by assumption)) rfl ?_
      refine l_nil ?_
      refine q_then ?_
      refine c_seq ?_
      refine c_seq ?_
      refine c_region ?_
      refine st (y_assign (v := vI ((0 : Nat) : Int)) rfl) rfl ?_
      refine l_nil ?_
      refine q_then ?_
      refine c_block ?_
      refine c_loop (fun k : Nat => [(0, vP p), (1, vP p2), (5, vI ((pack s).length : Nat)), (6, vI (k : Nat))]) (fun k w' => k ≤ (pack s).length ∧ Keep w.drew w' [] ∧ ∀ j, j < k → wordAt s j = wordAt t j) (fun k => (pack s).length - k) 0 ?_ ?_ ?_
      · exact ⟨rfl, rfl, rfl, rfl, trivial⟩
      · exact ⟨Nat.zero_le _, Keep.refl _ _, fun j hj => absurd hj (by omega)⟩
      · rintro k w1 ⟨hk, hK, hw⟩
        refine c_seq ?_
        refine c_seq ?_
        refine c_region ?_
        refine st (y_move rfl) rfl ?_
        refine st (y_move rfl) rfl ?_
        refine st_if (y_lt_i rfl rfl) rfl (fun hlt => ?_) (fun hlt => ?_)
        · have hK2 := hK.trans (Keep.drew w1 []) (by simp)
          have hst := hst.keep hK2 (by simp)
          have hst2 := hst2.keep hK2 (by simp)
          have hwd := hwd.keep hK2 (by simp)
          have hwd2 := hwd2.keep hK2 (by simp)
          have ea := hga k (by omega)
          have eb := hgb k (by omega)
          refine l_nil ?_
          refine q_then ?_
          refine c_true rfl rfl ?_
          refine c_skip ?_
          refine q_then ?_
          refine c_seq ?_
          refine c_block ?_
          refine c_seq ?_
          refine c_still mixed (by kernel_rfl) ?_
          refine ss (y_move rfl) rfl ?_
          refine ss (y_nil rfl) rfl ?_
          refine ss (fa93_1 rfl) rfl ?_
          refine ss (y_loadb rfl one69 (by assumption) (by rfl)) rfl ?_
          refine ss (y_move rfl) rfl ?_
          first | refine ss (y_index0 rfl rfl Try.underlying69 sz34 (by omega)) rfl ?_ | refine ss (y_index rfl rfl Try.underlying69 sz34 (by omega)) rfl ?_ | refine ss (y_indexA rfl rfl Try.underlying69 sz34 (by omega)) rfl ?_
          first | refine ss (y_loadM (0) rfl one34 (by assumption) (by first | omega | (simp only [List.length_append, List.length_map, List.length_replicate, List.length_set, List.length_take, List.length_drop]; omega) | (simp; done))) rfl ?_ | refine ss (y_load rfl one34 (by assumption)) rfl ?_
          refine ss (y_move rfl) rfl ?_
          refine ss (y_nil rfl) rfl ?_
          refine ss (fa93_1 rfl) rfl ?_
          refine ss (y_loadb rfl one69 (by assumption) (by rfl)) rfl ?_
          refine ss (y_move rfl) rfl ?_
          first | refine ss (y_index0 rfl rfl Try.underlying69 sz34 (by omega)) rfl ?_ | refine ss (y_index rfl rfl Try.underlying69 sz34 (by omega)) rfl ?_ | refine ss (y_indexA rfl rfl Try.underlying69 sz34 (by omega)) rfl ?_
          first | refine ss (y_loadM (0) rfl one34 (by assumption) (by first | omega | (simp only [List.length_append, List.length_map, List.length_replicate, List.length_set, List.length_take, List.length_drop]; omega) | (simp; done))) rfl ?_ | refine ss (y_load rfl one34 (by assumption)) rfl ?_
          rw [ea, eb]
          refine ss_if (y_ne_u rfl rfl) rfl (fun hww => ?_) (fun hww => ?_)
          · refine s_nil ?_
            refine q_then ?_
            refine c_true rfl rfl ?_
            refine c_seq ?_
            refine c_region ?_
            refine st (y_assign rfl) rfl ?_
            refine l_nil ?_
            refine q_then ?_
            refine c_ret ?_
            refine q_block_ret ?_
            refine q_then_ret ?_
            refine q_then_ret ?_
            refine q_block_ret ?_
            refine q_then_ret ?_
            refine q_end1 (.inl rfl) rfl rfl ?_
            exact ⟨_, rfl, by rw [decide_eq_false (fun e => hww (by rw [e]))], hKd.trans hK2 (by simp)⟩
          ·
            refine s_nil ?_
            refine q_then ?_
            refine c_false rfl rfl ?_
            refine c_skip ?_
            refine q_block ?_
            refine q_then ?_
            refine c_region ?_
            refine st (y_move rfl) rfl ?_
            first | refine st (y_add_in (b := 1) rfl rfl (by omega)) rfl ?_ | refine st (y_add_i (b := 1) rfl rfl (by omega) (by omega)) rfl ?_
            refine st (y_assign rfl) rfl ?_
            refine l_nil ?_
            refine q_round (k + 1) ⟨rfl, rfl, rfl, rfl, trivial⟩ ⟨by omega, hK2, fun j hj => ?_⟩ (by omega)
            rcases Nat.lt_or_ge j k with h | h
            · exact hw j h
            · have e : j = k := by omega
              rw [e]; omega
        ·
          have e : s = t := pack_inj hlen fun j hj => hw j (by rw [← pack_length] at hj; omega)
          refine l_nil ?_
          refine q_then ?_
          refine c_false rfl rfl ?_
          refine c_exit ?_
          refine q_then_exit ?_
          refine q_then_exit ?_
          refine q_block_hit ?_
          refine q_then ?_
          refine c_seq ?_
          refine c_region ?_
          refine st (y_assign rfl) rfl ?_
          refine l_nil ?_
          refine q_then ?_
          refine c_ret ?_
          refine q_end1 (.inl rfl) rfl rfl ?_
          exact ⟨_, rfl, by rw [decide_eq_true e], hKd.trans hK (by simp)⟩

theorem c_IsSuperSet (p q p2 q2 : Nat) (s t : List Bool) (w : World) (hB : BSet w p q s) (hB2 : BSet w p2 q2 t) (hs : s.length ≤ 100001) (ht : t.length ≤ 100001) :
    Cal Try.prog 54 [vP p, vP p2] w fun v w' => v = vB (decide (count (joined gDif t s) = 0)) ∧ w = w' := by
  obtain ⟨tl, hB'⟩ := id hB
  obtain ⟨tl2, hB2'⟩ := id hB2
  have hst := hB'.st
  have hst2 := hB2'.st
  have hwd := hB'.wd
  have hwd2 := hB2'.wd
  have hna : (pack s).length ≤ 2000 := by rw [pack_length]; unfold nW; omega
  have hnb : (pack t).length ≤ 2000 := by rw [pack_length]; unfold nW; omega
  obtain ⟨l, hl⟩ : ∃ l, l = min (pack s).length (pack t).length := ⟨_, rfl⟩
  have fin := super_words s t l (by rw [← pack_length, ← pack_length]; exact hl)
  have hga : ∀ j, j < (pack s).length → (pack s ++ tl).getD j 0 = (pack s).getD j 0 := fun j hj => by
    rw [List.getD_eq_getElem?_getD, List.getElem?_append_left hj, ← List.getD_eq_getElem?_getD]
  have hgb : ∀ j, j < (pack t).length → (pack t ++ tl2).getD j 0 = (pack t).getD j 0 := fun j hj => by
    rw [List.getD_eq_getElem?_getD, List.getElem?_append_left hj, ← List.getD_eq_getElem?_getD]
  refine go_in' Try.func54 rfl Try.ntmps54 (Nat.le_of_ble_eq_true rfl) ?_
  refine c_seq ?_
  refine c_region ?_
  refine st (y_assign rfl) rfl ?_
  refine l_nil ?_
  refine q_then ?_
  refine c_seq ?_
  refine c_region ?_
  refine st (y_move rfl) rfl ?_
  refine sc rfl rfl isfn69 (c_wordCount p2 q2 t _ hB2 ht) rfl ?_
  rintro _ _ ⟨rfl, rfl⟩
  refine st (y_assign rfl) rfl ?_
  refine l_nil ?_
  refine q_then ?_
  refine c_cut (fun _ : Unit => [(0, vP p), (1, vP p2), (5, vI (l : Nat))]) (fun _ w' => w = w') ?_ ?_
  · refine c_seq ?_
    refine c_region ?_
    refine st (y_move rfl) rfl ?_
    refine sc rfl rfl isfn69 (c_wordCount p q s _ hB hs) rfl ?_
    rintro _ _ ⟨rfl, rfl⟩
    refine st (y_move rfl) rfl ?_
    refine st_if (y_lt_i rfl rfl) rfl (fun hgt => ?_) (fun hgt => ?_)
    · refine l_nil ?_
      refine q_then ?_
      refine c_true rfl rfl ?_
      refine c_region ?_
      refine st (y_move rfl) rfl ?_
      refine sc rfl rfl isfn69 (c_wordCount p q s _ hB hs) rfl ?_
      rintro _ _ ⟨rfl, rfl⟩
      refine st (y_assign rfl) rfl ?_
      refine l_nil ?_
      refine q_meet () ⟨rfl, rfl, ?_, trivial⟩ rfl
      have e : l = (pack s).length := by omega
      rw [e]; rfl
    ·
      refine l_nil ?_
      refine q_then ?_
      refine c_false rfl rfl ?_
      refine c_skip ?_
      refine q_meet () ⟨rfl, rfl, ?_, trivial⟩ rfl
      have e : l = (pack t).length := by omega
      rw [e]; rfl
  ·
    rintro _ w' rfl
    refine c_seq ?_
    refine c_seq ?_
    refine c_region ?_
    refine st (y_move rfl) rfl ?_
    refine st (y_nil rfl) rfl ?_
    refine st (fa93_1 rfl) rfl ?_
    refine st (y_loadb rfl one69 (by assumption) (by rfl)) rfl ?_
    refine st (y_move rfl) rfl ?_
    refine st (y_slice_h rfl rfl Try.underlying69 sz34 (by omega)) rfl ?_
    refine st (y_len rfl Try.underlying69) rfl ?_
    refine st (y_move (v := vI ((0 : Nat) : Int)) rfl) rfl ?_
    refine l_nil ?_
    refine q_then ?_
    refine c_block ?_
    refine c_loop (fun k : Nat => [(0, vP p), (1, vP p2), (5, vI (l : Nat)), (21, vS q2 l ((pack t).length + tl2.length)), (22, vI (l : Nat)), (23, vI (k : Nat))]) (fun k w' => k ≤ l ∧ w = w' ∧ ∀ j, j < k → (pack s).getD j 0 &&& (pack t).getD j 0 = (pack t).getD j 0) (fun k => l - k) 0 ?_ ?_ ?_
    · exact ⟨rfl, rfl, rfl, rfl, rfl, rfl, trivial⟩
    · exact ⟨Nat.zero_le _, rfl, fun j hj => absurd hj (by omega)⟩
    · rintro k w1 ⟨hk, rfl, hw⟩
      refine c_seq ?_
      refine c_region ?_
      refine st_if (y_lt_i rfl rfl) rfl (fun hlt => ?_) (fun hlt => ?_)
      · have ea := hga k (by omega)
        have eb := hgb k (by omega)
        have h1 := pack_getD_lt s k
        have h2 := pack_getD_lt t k
        refine l_nil ?_
        refine q_then ?_
        refine c_seq ?_
        refine c_true rfl rfl ?_
        refine c_skip ?_
        refine q_then ?_
        refine c_seq ?_
        refine c_block ?_
        refine c_seq ?_
        refine c_region ?_
        refine st (y_move rfl) rfl ?_
        first | refine st (y_index0 rfl rfl Try.underlying69 sz34 (by omega)) rfl ?_ | refine st (y_index rfl rfl Try.underlying69 sz34 (by omega)) rfl ?_ | refine st (y_indexA rfl rfl Try.underlying69 sz34 (by omega)) rfl ?_
        refine st (y_loadM 0 rfl one34 hwd2 (by simp only [List.length_append]; omega)) rfl ?_
        rw [eb]
        refine st (y_assign rfl) rfl ?_
        refine st (y_assign rfl) rfl ?_
        refine l_nil ?_
        refine q_then ?_
        refine c_seq ?_
        refine c_region ?_
        refine st (y_move rfl) rfl ?_
        refine st (y_nil rfl) rfl ?_
        refine st (fa93_1 rfl) rfl ?_
        refine st (y_loadb rfl one69 (by assumption) (by rfl)) rfl ?_
        refine st (y_move rfl) rfl ?_
        first | refine st (y_index0 rfl rfl Try.underlying69 sz34 (by omega)) rfl ?_ | refine st (y_index rfl rfl Try.underlying69 sz34 (by omega)) rfl ?_ | refine st (y_indexA rfl rfl Try.underlying69 sz34 (by omega)) rfl ?_
        refine st (y_loadM 0 rfl one34 hwd (by simp only [List.length_append]; omega)) rfl ?_
        rw [ea]
        refine st (y_move rfl) rfl ?_
        refine st (y_and rfl rfl (by first | omega | assumption | (repeat (first | assumption | omega | decide | exact shl_lt64 _ _ | apply and_lt64 | apply or_lt64 | apply xor_lt64 | apply nt_lt | apply shr_lt64 | apply getD_lt64))) (by first | omega | assumption | (repeat (first | assumption | omega | decide | exact shl_lt64 _ _ | apply and_lt64 | apply or_lt64 | apply xor_lt64 | apply nt_lt | apply shr_lt64 | apply getD_lt64)))) rfl ?_
        refine st (y_move rfl) rfl ?_
        refine st_if (y_ne_u rfl rfl) rfl (fun hne => ?_) (fun hne => ?_)
        · refine l_nil ?_
          refine q_then ?_
          refine c_true rfl rfl ?_
          refine c_seq ?_
          refine c_region ?_
          refine st (y_assign rfl) rfl ?_
          refine l_nil ?_
          refine q_then ?_
          refine c_ret ?_
          refine q_block_ret ?_
          refine q_then_ret ?_
          refine q_then_ret ?_
          refine q_block_ret ?_
          refine q_then_ret ?_
          refine q_end1 (.inl rfl) rfl rfl ?_
          refine ⟨_, rfl, ?_, rfl⟩
          rw [decide_eq_false]
          intro e
          exact hne ((fin.1 e).1 k (by omega))
        ·
          refine l_nil ?_
          refine q_then ?_
          refine c_false rfl rfl ?_
          refine c_skip ?_
          refine q_block ?_
          refine q_then ?_
          refine c_region ?_
          first | refine st (y_add_in (b := 1) rfl rfl (by omega)) rfl ?_ | refine st (y_add_i (b := 1) rfl rfl (by omega) (by omega)) rfl ?_
          refine st (y_move rfl) rfl ?_
          refine l_nil ?_
          refine q_round (k + 1) ⟨rfl, rfl, rfl, rfl, rfl, rfl, trivial⟩ ⟨by omega, rfl, fun j hj => ?_⟩ (by omega)
          rcases Nat.lt_or_ge j k with h | h
          · exact hw j h
          · have e : j = k := by omega
            rw [e]; exact Decidable.not_not.1 hne
      ·
        have hkl : k = l := by omega
        subst hkl
        refine l_nil ?_
        refine q_then ?_
        refine c_seq ?_
        refine c_false rfl rfl ?_
        refine c_exit ?_
        refine q_then_exit ?_
        refine q_then_exit ?_
        refine q_block_hit ?_
        refine q_then ?_
        refine c_seq ?_
        refine c_region ?_
        refine st (y_move rfl) rfl ?_
        refine st (y_nil rfl) rfl ?_
        refine st (fa93_1 rfl) rfl ?_
        refine st (y_loadb rfl one69 (by assumption) (by rfl)) rfl ?_
        refine st (y_move rfl) rfl ?_
        refine st (y_slice_l rfl rfl Try.underlying69 sz34 (by omega)) rfl ?_
        refine sc rfl rfl isfn66 (c_popcntSlice _ _ _ _ (lt_drop hB2'.lt _) (by omega) _ (hB2'.rds (by omega))) rfl ?_
        rintro _ _ ⟨rfl, rfl⟩
        refine st (y_eq_u (b := 0) rfl rfl) rfl ?_
        refine st (y_assign rfl) rfl ?_
        refine l_nil ?_
        refine q_then ?_
        refine c_ret ?_
        refine q_end1 (.inl rfl) rfl rfl ?_
        refine ⟨_, rfl, ?_, rfl⟩
        have e : (psum ((pack t).drop k) = 0) ↔ count (joined gDif t s) = 0 := ⟨fun h => fin.2 ⟨hw, h⟩, fun h => (fin.1 h).2⟩
        rw [decide_eq_decide.2 e]

theorem c_IsStrictSuperSet (p q p2 q2 : Nat) (s t : List Bool) (w : World) (hB : BSet w p q s) (hB2 : BSet w p2 q2 t) (hs : s.length ≤ 100001) (ht : t.length ≤ 100001) :
    Cal Try.prog 55 [vP p, vP p2] w fun v w' => v = vB (decide (count (joined gDif t s) = 0 ∧ 0 < count (joined gDif s t))) ∧ w = w' := by
  have hd := dif_strict s t
  refine go_in' Try.func55 rfl Try.ntmps55 (Nat.le_of_ble_eq_true rfl) ?_
  refine c_seq ?_
  refine c_region ?_
  refine st (y_assign rfl) rfl ?_
  refine l_nil ?_
  refine q_then ?_
  refine c_seq ?_
  refine c_region ?_
  refine st (y_move rfl) rfl ?_
  refine sc rfl rfl isfn44 (c_Count p q s _ hB hs) rfl ?_
  rintro _ _ ⟨rfl, rfl⟩
  refine st (y_move rfl) rfl ?_
  refine sc rfl rfl isfn44 (c_Count p2 q2 t _ hB2 ht) rfl ?_
  rintro _ _ ⟨rfl, rfl⟩
  refine st_if (y_gt_u rfl rfl) rfl (fun hgt => ?_) (fun hgt => ?_)
  · refine st (y_move rfl) rfl ?_
    refine stg rfl rfl (y_move rfl) rfl ?_
    refine stg rfl rfl (y_move rfl) rfl ?_
    refine scg rfl rfl rfl rfl isfn54 (c_IsSuperSet p q p2 q2 s t _ hB hB2 hs ht) rfl ?_
    rintro _ _ ⟨rfl, rfl⟩
    refine st (y_pickT rfl rfl) rfl ?_
    refine st (y_assign rfl) rfl ?_
    refine l_nil ?_
    refine q_then ?_
    refine c_ret ?_
    refine q_end1 (.inl rfl) rfl rfl ?_
    refine ⟨_, rfl, ?_, rfl⟩
    have e : (count (joined gDif t s) = 0) ↔ (count (joined gDif t s) = 0 ∧ 0 < count (joined gDif s t)) := ⟨fun h => hd.1 ⟨hgt, h⟩, fun h => h.1⟩
    rw [decide_eq_decide.2 e]
  ·
    refine st (y_move rfl) rfl ?_
    refine sno rfl rfl rfl rfl ?_
    refine sno rfl rfl rfl rfl ?_
    refine sno rfl rfl rfl rfl ?_
    refine st (y_pickF rfl rfl) rfl ?_
    refine st (y_assign rfl) rfl ?_
    refine l_nil ?_
    refine q_then ?_
    refine c_ret ?_
    refine q_end1 (.inl rfl) rfl rfl ?_
    refine ⟨_, rfl, ?_, rfl⟩
    rw [decide_eq_false (fun h => hgt (hd.2 h).1)]

end Go.Proofs.Ytlhbbndedbacpaa

/- How many numbers two sets have joined: impl.PairCount and the statement's own walk. -/
import Derived.Test.YtlhbbndedbacpaaD1
set_option linter.unusedVariables false
set_option linter.unusedSimpArgs false
set_option maxRecDepth 100000
namespace Go.Proofs.Ytlhbbndedbacpaa
open Go Go.RowKit

theorem c_implPairCount (k : Nat) (hk : k < 4) (L : Nat) (A : Option Addr) (n c : Nat) (xs : List Nat) (M : Nat) (B : Option Addr) (m d : Nat) (ys : List Nat) (w : World) (hRx : Rd w A n xs) (hRy : Rd w B m ys) (ho : Ok L n xs) (ho2 : Ok M m ys) :
    Cal Try.prog 34 [vI (k : Nat), aB L A n c, aB M B m d] w fun v w' => v = vU (cardT k (mkS L xs) (mkS M ys)) ∧ Keep w w' [] := by
  have hls := ho.len
  have hlt := ho2.len
  have e0 : cardT 0 (mkS L xs) (mkS M ys) = count (joined gOr (mkS L xs) (mkS M ys)) := congrArg (fun g => count (joined g _ _)) tab0
  have e1 : cardT 1 (mkS L xs) (mkS M ys) = count (joined gAnd (mkS L xs) (mkS M ys)) := congrArg (fun g => count (joined g _ _)) tab1
  have e2 : cardT 2 (mkS L xs) (mkS M ys) = count (joined gDif (mkS L xs) (mkS M ys)) := congrArg (fun g => count (joined g _ _)) tab2
  have e3 : cardT 3 (mkS L xs) (mkS M ys) = count (joined gXor (mkS L xs) (mkS M ys)) := congrArg (fun g => count (joined g _ _)) tab3
  refine go_in' Try.func34 rfl Try.ntmps34 (Nat.le_of_ble_eq_true rfl) ?_
  refine c_seq ?_
  refine c_region ?_
  refine st_box _ rfl rfl rfl ?_
  intro b1 w1 hb1 hB1 hK1 hS1
  refine st_box _ rfl rfl rfl ?_
  intro b2 w2 hb2 hB2 hK2 hS2
  have hB1 := hB1.keep hK2 (by simp only [List.mem_cons, List.not_mem_nil, or_false, not_or, not_false_eq_true] <;> omega)
  have hK12 := hK1.trans hK2 (by simp)
  refine st (y_assign (v := vU 0) rfl) rfl ?_
  refine l_nil ?_
  refine q_then ?_
  refine c_seq ?_
  refine c_region ?_
  refine st (y_loadagg rfl agg25 us25 sz25 (by assumption) (by simp) (by rfl)) rfl ?_
  refine st (y_loadagg rfl agg25 us25 sz25 (by assumption) (by simp) (by rfl)) rfl ?_
  refine sc rfl rfl isfn52 (c_implBoth L A n c xs M B m d ys _ (hRx.keep hK12 (by simp)) (hRy.keep hK12 (by simp)) ho ho2) rfl ?_
  rintro _ w3 ⟨p, q, p2, q2, rfl, hS, hT, hK3⟩
  have hK13 := hK12.trans hK3 (by simp)
  refine st (y_move rfl) rfl ?_
  refine st (y_extract rfl rfl) rfl ?_
  refine st (y_extract rfl rfl) rfl ?_
  refine st (y_extract rfl rfl) rfl ?_
  refine st (y_assign rfl) rfl ?_
  refine st (y_assign rfl) rfl ?_
  refine st (y_assign rfl) rfl ?_
  refine l_nil ?_
  refine q_then ?_
  refine c_seq ?_
  refine c_seq ?_
  refine c_region ?_
  refine st (y_move rfl) rfl ?_
  refine st (y_not rfl) rfl ?_
  refine l_nil ?_
  refine q_then ?_
  refine c_false rfl rfl ?_
  refine c_skip ?_
  refine q_then ?_
  refine c_seq ?_
  refine c_seq ?_
  refine c_region ?_
  refine st (y_move rfl) rfl ?_
  refine l_nil ?_
  refine q_then ?_
  refine c_block ?_
  refine c_seq ?_
  refine c_region ?_
  refine st_if (y_eq_i (b := 0) rfl rfl) rfl (fun h0 => ?_) (fun h0 => ?_)
  · have e : k = 0 := by omega
    subst e
    refine st (y_assign rfl) rfl ?_
    refine l_nil ?_
    refine q_then ?_
    refine c_true rfl rfl ?_
    refine c_seq ?_
    refine c_region ?_
    refine st (y_move rfl) rfl ?_
    refine st (y_move rfl) rfl ?_
    refine sc rfl rfl isfn56 (c_Union p q p2 q2 _ _ _ hS hT (by omega) (by omega)) rfl ?_
    rintro _ w4 ⟨rfl, hK4⟩
    refine st (y_assign rfl) rfl ?_
    refine l_nil ?_
    refine q_then ?_
    refine c_ret ?_
    refine q_block_ret ?_
    refine q_then_ret ?_
    refine q_end1 (.inl rfl) rfl rfl ?_
    exact ⟨_, rfl, by rw [e0], hK13.trans hK4 (by simp)⟩
  ·
    refine st (y_assign rfl) rfl ?_
    refine l_nil ?_
    refine q_then ?_
    refine c_false rfl rfl ?_
    refine c_seq ?_
    refine c_region ?_
    refine st_if (y_eq_i (b := 1) rfl rfl) rfl (fun h1 => ?_) (fun h1 => ?_)
    · have e : k = 1 := by omega
      subst e
      refine st (y_assign rfl) rfl ?_
      refine l_nil ?_
      refine q_then ?_
      refine c_true rfl rfl ?_
      refine c_seq ?_
      refine c_region ?_
      refine st (y_move rfl) rfl ?_
      refine st (y_move rfl) rfl ?_
      refine sc rfl rfl isfn57 (c_Intersection p q p2 q2 _ _ _ hS hT (by omega) (by omega)) rfl ?_
      rintro _ w4 ⟨rfl, hK4⟩
      refine st (y_assign rfl) rfl ?_
      refine l_nil ?_
      refine q_then ?_
      refine c_ret ?_
      refine q_block_ret ?_
      refine q_then_ret ?_
      refine q_end1 (.inl rfl) rfl rfl ?_
      exact ⟨_, rfl, by rw [e1], hK13.trans hK4 (by simp)⟩
    ·
      refine st (y_assign rfl) rfl ?_
      refine l_nil ?_
      refine q_then ?_
      refine c_false rfl rfl ?_
      refine c_seq ?_
      refine c_region ?_
      refine st_if (y_eq_i (b := 2) rfl rfl) rfl (fun h2 => ?_) (fun h2 => ?_)
      · have e : k = 2 := by omega
        subst e
        refine st (y_assign rfl) rfl ?_
        refine l_nil ?_
        refine q_then ?_
        refine c_true rfl rfl ?_
        refine c_seq ?_
        refine c_region ?_
        refine st (y_move rfl) rfl ?_
        refine st (y_move rfl) rfl ?_
        refine sc rfl rfl isfn58 (c_Difference p q p2 q2 _ _ _ hS hT (by omega) (by omega)) rfl ?_
        rintro _ w4 ⟨rfl, hK4⟩
        refine st (y_assign rfl) rfl ?_
        refine l_nil ?_
        refine q_then ?_
        refine c_ret ?_
        refine q_block_ret ?_
        refine q_then_ret ?_
        refine q_end1 (.inl rfl) rfl rfl ?_
        exact ⟨_, rfl, by rw [e2], hK13.trans hK4 (by simp)⟩
      ·
        have e : k = 3 := by omega
        subst e
        refine st (y_assign rfl) rfl ?_
        refine l_nil ?_
        refine q_then ?_
        refine c_false rfl rfl ?_
        refine c_seq ?_
        refine c_region ?_
        refine st_t (y_eq_i (b := 3) rfl rfl) (rfl) rfl ?_
        refine st (y_assign rfl) rfl ?_
        refine l_nil ?_
        refine q_then ?_
        refine c_true rfl rfl ?_
        refine c_seq ?_
        refine c_region ?_
        refine st (y_move rfl) rfl ?_
        refine st (y_move rfl) rfl ?_
        refine sc rfl rfl isfn59 (c_SymDiff p q p2 q2 _ _ _ hS hT (by omega) (by omega)) rfl ?_
        rintro _ w4 ⟨rfl, hK4⟩
        refine st (y_assign rfl) rfl ?_
        refine l_nil ?_
        refine q_then ?_
        refine c_ret ?_
        refine q_block_ret ?_
        refine q_then_ret ?_
        refine q_end1 (.inl rfl) rfl rfl ?_
        exact ⟨_, rfl, by rw [e3], hK13.trans hK4 (by simp)⟩

theorem c_FnPairCount (k : Nat) (L : Nat) (A : Option Addr) (n c : Nat) (xs : List Nat) (M : Nat) (B : Option Addr) (m d : Nat) (ys : List Nat) (w : World) (hR : Rd w A n xs) (hR2 : Rd w B m ys) (hk : k < 256) :
    Cal Try.prog 11 [v8 k, aB L A n c, aB M B m d] w fun v w' => v = vB true ∧ Keep w w' [] := by
  have hk4 : k % 4 < 4 := Nat.mod_lt _ (by decide)
  refine go_in' Try.func11 rfl Try.ntmps11 (Nat.le_of_ble_eq_true rfl) ?_
  refine c_seq ?_
  refine c_region ?_
  refine st_box _ rfl rfl rfl ?_
  intro b1 w1 hb1 hB1 hK1 hS1
  refine st_box _ rfl rfl rfl ?_
  intro b2 w2 hb2 hB2 hK2 hS2
  have hB1 := hB1.keep hK2 (by simp only [List.mem_cons, List.not_mem_nil, or_false, not_or, not_false_eq_true] <;> omega)
  have hK12 := hK1.trans hK2 (by simp)
  refine st (y_assign rfl) rfl ?_
  refine l_nil ?_
  refine q_then ?_
  refine c_seq ?_
  refine c_seq ?_
  refine c_region ?_
  refine st (y_loadagg rfl agg25 us25 sz25 (by assumption) (by simp) (by rfl)) rfl ?_
  refine sc rfl rfl isfn12 (c_zzFits1 L A n c _) rfl ?_
  rintro _ w3 ⟨rfl, hK3⟩
  have hB1 := hB1.keep hK3 (by simp only [List.mem_cons, List.not_mem_nil, or_false, not_or, not_false_eq_true] <;> omega)
  have hB2 := hB2.keep hK3 (by simp only [List.mem_cons, List.not_mem_nil, or_false, not_or, not_false_eq_true] <;> omega)
  have hK13 := hK12.trans hK3 (by simp)
  clear hK1 hK2 hK12 hK3
  refine st (y_not rfl) rfl ?_
  obtain ⟨z, hz⟩ : ∃ z, (!decide (n ≤ 2147483647)) = z := ⟨_, rfl⟩
  rw [hz]
  cases z
  ·
    refine st (y_move rfl) rfl ?_
    refine stg rfl rfl (y_loadagg rfl agg25 us25 sz25 (by assumption) (by simp) (by rfl)) rfl ?_
    refine scg rfl rfl rfl rfl isfn12 (c_zzFits1 M B m d _) rfl ?_
    rintro _ w4 ⟨rfl, hK4⟩
    have hB1 := hB1.keep hK4 (by simp only [List.mem_cons, List.not_mem_nil, or_false, not_or, not_false_eq_true] <;> omega)
    have hB2 := hB2.keep hK4 (by simp only [List.mem_cons, List.not_mem_nil, or_false, not_or, not_false_eq_true] <;> omega)
    have hK14 := hK13.trans hK4 (by simp)
    refine stg rfl rfl (y_not rfl) rfl ?_
    refine st (y_pickF rfl rfl) rfl ?_
    refine l_nil ?_
    refine q_then ?_
    refine c_ifb rfl (fun hz2 => ?_) (fun hz2 => ?_)
    · refine c_seq ?_
      refine c_region ?_
      refine st (y_assign rfl) rfl ?_
      refine l_nil ?_
      refine q_then ?_
      refine c_ret ?_
      refine q_then_ret ?_
      refine q_end1 (.inl rfl) rfl rfl ?_
      exact ⟨_, rfl, rfl, hK14⟩
    ·
      refine c_skip ?_
      refine q_then ?_
      refine c_seq ?_
      refine c_region ?_
      refine st (y_loadagg rfl agg25 us25 sz25 (by assumption) (by simp) (by rfl)) rfl ?_
      refine st (y_loadagg rfl agg25 us25 sz25 (by assumption) (by simp) (by rfl)) rfl ?_
      refine sc rfl rfl isfn30 (c_lawsBoth L A n c xs M B m d ys _ (hR.keep hK14 (by simp)) (hR2.keep hK14 (by simp))) rfl ?_
      rintro _ w5 ⟨hK5, ⟨ho, ho2, b, b', rfl, hBl, hBl2, hb, hb'⟩ | ⟨x, y, rfl⟩⟩
      · have hB1 := hB1.keep hK5 (by simp only [List.mem_cons, List.not_mem_nil, or_false, not_or, not_false_eq_true] <;> omega)
        have hB2 := hB2.keep hK5 (by simp only [List.mem_cons, List.not_mem_nil, or_false, not_or, not_false_eq_true] <;> omega)
        have hK15 := hK14.trans hK5 (by simp)
        have hls := ho.len
        have hlt := ho2.len
        have hcl := cardT_le (k % 4) (mkS L xs) (mkS M ys)
        clear hK4 hK14 hK5 hK13
        refine st (y_move rfl) rfl ?_
        refine st (y_extract rfl rfl) rfl ?_
        refine st (y_extract rfl rfl) rfl ?_
        refine st (y_extract rfl rfl) rfl ?_
        refine st (y_assign rfl) rfl ?_
        refine st (y_assign rfl) rfl ?_
        refine st (y_assign rfl) rfl ?_
        refine l_nil ?_
        refine q_then ?_
        refine c_seq ?_
        refine c_region ?_
        refine st (y_move rfl) rfl ?_
        refine st (y_rem_8 (b := 4) rfl rfl (by omega)) rfl ?_
        refine st (y_conv_8i rfl us5 Try.underlying3 (by omega)) rfl ?_
        refine st (y_assign rfl) rfl ?_
        refine l_nil ?_
        refine q_then ?_
        refine c_seq ?_
        refine c_region ?_
        refine st (y_move rfl) rfl ?_
        refine st (y_not rfl) rfl ?_
        refine st (y_move rfl) rfl ?_
        refine stg rfl rfl (y_move rfl) rfl ?_
        refine stg rfl rfl (y_loadagg rfl agg25 us25 sz25 (by assumption) (by simp) (by rfl)) rfl ?_
        refine stg rfl rfl (y_loadagg rfl agg25 us25 sz25 (by assumption) (by simp) (by rfl)) rfl ?_
        refine scg rfl rfl rfl rfl isfn34 (c_implPairCount (k % 4) hk4 L A n c xs M B m d ys _ (hR.keep hK15 (by simp)) (hR2.keep hK15 (by simp)) ho ho2) rfl ?_
        rintro _ w6 ⟨rfl, hK6⟩
        have hBl := hBl.keep hK6 (by simp only [List.mem_cons, List.not_mem_nil, or_false, not_or, not_false_eq_true] <;> omega)
        have hBl2 := hBl2.keep hK6 (by simp only [List.mem_cons, List.not_mem_nil, or_false, not_or, not_false_eq_true] <;> omega)
        have hK16 := hK15.trans hK6 (by simp)
        refine stg rfl rfl (y_move rfl) rfl ?_
        refine stg rfl rfl (y_move rfl) rfl ?_
        refine stg rfl rfl (y_move rfl) rfl ?_
        refine scg rfl rfl rfl rfl isfn32 (c_table (k % 4) hk4 _) rfl ?_
        rintro _ w7 ⟨rfl, hK7⟩
        have hBl := hBl.keep hK7 (by simp only [List.mem_cons, List.not_mem_nil, or_false, not_or, not_false_eq_true] <;> omega)
        have hBl2 := hBl2.keep hK7 (by simp only [List.mem_cons, List.not_mem_nil, or_false, not_or, not_false_eq_true] <;> omega)
        have hK17 := hK16.trans hK7 (by simp)
        refine scg rfl rfl rfl rfl isfn31 (c_Joined b b' _ _ (tabs.getD (k % 4) []) (tabs_len hk4) _ hBl hBl2 (by omega) (by omega)) rfl ?_
        rintro _ w8 ⟨j1, rfl, hJ1, hj1, hK8⟩
        have hK18 := hK17.trans hK8 (by simp)
        refine scg rfl rfl rfl rfl isfn22 (c_specCount j1 _ _ hJ1 (by rw [joined_length]; omega)) rfl ?_
        rintro _ w9 ⟨rfl, hK9⟩
        have hK19 := hK18.trans hK9 (by simp)
        refine stg_t rfl rfl (y_eq_u rfl rfl) (rfl) rfl ?_
        refine stg rfl rfl (y_move rfl) rfl ?_
        refine scg rfl rfl rfl rfl isfn16 (c_three _) rfl ?_
        rintro _ w15 ⟨b3, rfl, hR3, hb3, hK20⟩
        refine scg rfl rfl rfl rfl isfn16 (c_three _) rfl ?_
        rintro _ w16 ⟨b4, rfl, hR4, hb4, hK21⟩
        refine scg rfl rfl rfl rfl isfn34 (c_implPairCount 0 (by omega) 9 _ 3 3 [1, 2, 5] 9 _ 3 3 [1, 2, 5] _ (hR3.keep hK21 (by simp)) hR4 ⟨by omega, by omega, by decide⟩ ⟨by omega, by omega, by decide⟩) rfl ?_
        rintro _ w17 ⟨rfl, hK22⟩
        refine stg_t rfl rfl (y_eq_u (b := 3) rfl rfl) (by decide) rfl ?_
        refine stg rfl rfl (y_pickT rfl rfl) rfl ?_
        refine st (y_pickF rfl rfl) rfl ?_
        refine st (y_assign rfl) rfl ?_
        refine l_nil ?_
        refine q_then ?_
        refine c_ret ?_
        refine q_end1 (.inl rfl) rfl rfl ?_
        have hKK : Keep w _ [] := (((((Keep.refl w []).trans hK19 (by intro i; simp only [List.mem_cons, List.not_mem_nil, or_false, false_or, false_implies] <;> omega)).trans hK20 (by intro i; simp only [List.mem_cons, List.not_mem_nil, or_false, false_or, false_implies] <;> omega)).trans hK21 (by intro i; simp only [List.mem_cons, List.not_mem_nil, or_false, false_or, false_implies] <;> omega)).trans hK22 (by intro i; simp only [List.mem_cons, List.not_mem_nil, or_false, false_or, false_implies] <;> omega))
        exact ⟨_, rfl, rfl, hKK⟩
      ·
        refine st (y_move rfl) rfl ?_
        refine st (y_extract rfl rfl) rfl ?_
        refine st (y_extract rfl rfl) rfl ?_
        refine st (y_extract rfl rfl) rfl ?_
        refine st (y_assign rfl) rfl ?_
        refine st (y_assign rfl) rfl ?_
        refine st (y_assign rfl) rfl ?_
        refine l_nil ?_
        refine q_then ?_
        refine c_seq ?_
        refine c_region ?_
        refine st (y_move rfl) rfl ?_
        refine st (y_rem_8 (b := 4) rfl rfl (by omega)) rfl ?_
        refine st (y_conv_8i rfl us5 Try.underlying3 (by omega)) rfl ?_
        refine st (y_assign rfl) rfl ?_
        refine l_nil ?_
        refine q_then ?_
        refine c_seq ?_
        refine c_region ?_
        refine st (y_move rfl) rfl ?_
        refine st (y_not rfl) rfl ?_
        refine st (y_move rfl) rfl ?_
        refine sno rfl rfl rfl rfl ?_
        refine sno rfl rfl rfl rfl ?_
        refine sno rfl rfl rfl rfl ?_
        refine sno rfl rfl rfl rfl ?_
        refine sno rfl rfl rfl rfl ?_
        refine sno rfl rfl rfl rfl ?_
        refine sno rfl rfl rfl rfl ?_
        refine sno rfl rfl rfl rfl ?_
        refine sno rfl rfl rfl rfl ?_
        refine sno rfl rfl rfl rfl ?_
        refine sno rfl rfl rfl rfl ?_
        refine sno rfl rfl rfl rfl ?_
        refine snou rfl rfl rfl ?_
        refine snou rfl rfl rfl ?_
        refine snou rfl rfl rfl ?_
        refine snou rfl rfl rfl ?_
        refine sno rfl rfl rfl rfl ?_
        refine st (y_pickT rfl rfl) rfl ?_
        refine st (y_assign rfl) rfl ?_
        refine l_nil ?_
        refine q_then ?_
        refine c_ret ?_
        refine q_end1 (.inl rfl) rfl rfl ?_
        exact ⟨_, rfl, rfl, hK14.trans hK5 (by simp)⟩
  ·
    refine st (y_move rfl) rfl ?_
    refine sno rfl rfl rfl rfl ?_
    refine sno rfl rfl rfl rfl ?_
    refine sno rfl rfl rfl rfl ?_
    refine st (y_pickT rfl rfl) rfl ?_
    refine l_nil ?_
    refine q_then ?_
    refine c_true rfl rfl ?_
    refine c_seq ?_
    refine c_region ?_
    refine st (y_assign rfl) rfl ?_
    refine l_nil ?_
    refine q_then ?_
    refine c_ret ?_
    refine q_then_ret ?_
    refine q_end1 (.inl rfl) rfl rfl ?_
    exact ⟨_, rfl, rfl, hK13⟩

end Go.Proofs.Ytlhbbndedbacpaa

/- Sets held against one another: impl.Compare and the statement's own walk. -/
import Derived.Test.YtlhbbndedbacpaaD1
set_option linter.unusedVariables false
set_option linter.unusedSimpArgs false
set_option maxRecDepth 100000
namespace Go.Proofs.Ytlhbbndedbacpaa
open Go Go.RowKit

def cmpB (k : Nat) (s t : List Bool) : Bool := if k = 0 then decide (s = t) else if k = 1 then decide (count (joined gDif t s) = 0) else decide (count (joined gDif t s) = 0 ∧ 0 < count (joined gDif s t))
theorem c_cmp0 (s t : List Bool) : cmpB 0 s t = decide (s = t) := rfl
theorem c_cmp_self (s : List Bool) : cmpB 0 s s = true := by rw [c_cmp0]; exact decide_eq_true rfl
theorem c_cmp2 (s t : List Bool) : cmpB 2 s t = decide (count (joined gDif t s) = 0 ∧ 0 < count (joined gDif s t)) := rfl

theorem c_implCompare (k : Nat) (hk : k ≤ 2) (L : Nat) (A : Option Addr) (n c : Nat) (xs : List Nat) (M : Nat) (B : Option Addr) (m d : Nat) (ys : List Nat) (w : World) (hRx : Rd w A n xs) (hRy : Rd w B m ys) (ho : Ok L n xs) (ho2 : Ok M m ys) :
    Cal Try.prog 33 [vI (k : Nat), aB L A n c, aB M B m d] w fun v w' => v = vB (cmpB k (mkS L xs) (mkS M ys)) ∧ Keep w w' [] := by
  have hls := ho.len
  have hlt := ho2.len
  refine go_in' Try.func33 rfl Try.ntmps33 (Nat.le_of_ble_eq_true rfl) ?_
  refine c_seq ?_
  refine c_region ?_
  refine st_box _ rfl rfl rfl ?_
  intro b1 w1 hb1 hB1 hK1 hS1
  refine st_box _ rfl rfl rfl ?_
  intro b2 w2 hb2 hB2 hK2 hS2
  have hB1 := hB1.keep hK2 (by simp only [List.mem_cons, List.not_mem_nil, or_false, not_or, not_false_eq_true] <;> omega)
  have hK12 := hK1.trans hK2 (by simp)
  refine st (y_assign rfl) rfl ?_
  refine l_nil ?_
  refine q_then ?_
  refine c_seq ?_
  refine c_region ?_
  refine st (y_loadagg rfl agg25 us25 sz25 (by assumption) (by simp) (by rfl)) rfl ?_
  refine st (y_loadagg rfl agg25 us25 sz25 (by assumption) (by simp) (by rfl)) rfl ?_
  refine sc rfl rfl isfn52 (c_implBoth L A n c xs M B m d ys _ (hRx.keep hK12 (by simp)) (hRy.keep hK12 (by simp)) ho ho2) rfl ?_
  rintro _ w3 ⟨p, q, p2, q2, rfl, hS, hT, hK3⟩
  have hK13 := hK12.trans hK3 (by simp)
  refine st (y_move rfl) rfl ?_
  refine st (y_extract rfl rfl) rfl ?_
  refine st (y_extract rfl rfl) rfl ?_
  refine st (y_extract rfl rfl) rfl ?_
  refine st (y_assign rfl) rfl ?_
  refine st (y_assign rfl) rfl ?_
  refine st (y_assign rfl) rfl ?_
  refine l_nil ?_
  refine q_then ?_
  refine c_seq ?_
  refine c_seq ?_
  refine c_region ?_
  refine st (y_move rfl) rfl ?_
  refine st (y_not rfl) rfl ?_
  refine l_nil ?_
  refine q_then ?_
  refine c_false rfl rfl ?_
  refine c_skip ?_
  refine q_then ?_
  refine c_seq ?_
  refine c_seq ?_
  refine c_region ?_
  refine st (y_move rfl) rfl ?_
  refine l_nil ?_
  refine q_then ?_
  refine c_block ?_
  refine c_seq ?_
  refine c_region ?_
  refine st_if (y_eq_i (b := 0) rfl rfl) rfl (fun h0 => ?_) (fun h0 => ?_)
  · have e : k = 0 := by omega
    subst e
    refine st (y_assign rfl) rfl ?_
    refine l_nil ?_
    refine q_then ?_
    refine c_true rfl rfl ?_
    refine c_seq ?_
    refine c_region ?_
    refine st (y_move rfl) rfl ?_
    refine st (y_move rfl) rfl ?_
    refine sc rfl rfl isfn53 (c_Equal p q p2 q2 _ _ _ hS hT (by omega) (by omega)) rfl ?_
    rintro _ w4 ⟨rfl, hK4⟩
    refine st (y_assign rfl) rfl ?_
    refine l_nil ?_
    refine q_then ?_
    refine c_ret ?_
    refine q_block_ret ?_
    refine q_then_ret ?_
    refine q_end1 (.inl rfl) rfl rfl ?_
    exact ⟨_, rfl, rfl, hK13.trans hK4 (by simp)⟩
  ·
    refine st (y_assign rfl) rfl ?_
    refine l_nil ?_
    refine q_then ?_
    refine c_false rfl rfl ?_
    refine c_seq ?_
    refine c_region ?_
    refine st_if (y_eq_i (b := 1) rfl rfl) rfl (fun h1 => ?_) (fun h1 => ?_)
    · have e : k = 1 := by omega
      subst e
      refine st (y_assign rfl) rfl ?_
      refine l_nil ?_
      refine q_then ?_
      refine c_true rfl rfl ?_
      refine c_seq ?_
      refine c_region ?_
      refine st (y_move rfl) rfl ?_
      refine st (y_move rfl) rfl ?_
      refine sc rfl rfl isfn54 (c_IsSuperSet p q p2 q2 _ _ _ hS hT (by omega) (by omega)) rfl ?_
      rintro _ _ ⟨rfl, rfl⟩
      refine st (y_assign rfl) rfl ?_
      refine l_nil ?_
      refine q_then ?_
      refine c_ret ?_
      refine q_block_ret ?_
      refine q_then_ret ?_
      refine q_end1 (.inl rfl) rfl rfl ?_
      exact ⟨_, rfl, rfl, hK13⟩
    ·
      have e : k = 2 := by omega
      subst e
      refine st (y_assign rfl) rfl ?_
      refine l_nil ?_
      refine q_then ?_
      refine c_false rfl rfl ?_
      refine c_seq ?_
      refine c_region ?_
      refine st_t (y_eq_i (b := 2) rfl rfl) (rfl) rfl ?_
      refine st (y_assign rfl) rfl ?_
      refine l_nil ?_
      refine q_then ?_
      refine c_true rfl rfl ?_
      refine c_seq ?_
      refine c_region ?_
      refine st (y_move rfl) rfl ?_
      refine st (y_move rfl) rfl ?_
      refine sc rfl rfl isfn55 (c_IsStrictSuperSet p q p2 q2 _ _ _ hS hT (by omega) (by omega)) rfl ?_
      rintro _ _ ⟨rfl, rfl⟩
      refine st (y_assign rfl) rfl ?_
      refine l_nil ?_
      refine q_then ?_
      refine c_ret ?_
      refine q_block_ret ?_
      refine q_then_ret ?_
      refine q_end1 (.inl rfl) rfl rfl ?_
      exact ⟨_, rfl, rfl, hK13⟩

theorem c_FnCompare (L : Nat) (A : Option Addr) (n c : Nat) (xs : List Nat) (M : Nat) (B : Option Addr) (m d : Nat) (ys : List Nat) (w : World) (hR : Rd w A n xs) (hR2 : Rd w B m ys) :
    Cal Try.prog 10 [aB L A n c, aB M B m d] w fun v w' => v = vB true ∧ Keep w w' [] := by
  refine go_in' Try.func10 rfl Try.ntmps10 (Nat.le_of_ble_eq_true rfl) ?_
  refine c_seq ?_
  refine c_region ?_
  refine st_box _ rfl rfl rfl ?_
  intro b1 w1 hb1 hB1 hK1 hS1
  refine st_box _ rfl rfl rfl ?_
  intro b2 w2 hb2 hB2 hK2 hS2
  have hB1 := hB1.keep hK2 (by simp only [List.mem_cons, List.not_mem_nil, or_false, not_or, not_false_eq_true] <;> omega)
  have hK12 := hK1.trans hK2 (by simp)
  refine st (y_assign rfl) rfl ?_
  refine l_nil ?_
  refine q_then ?_
  refine c_seq ?_
  refine c_seq ?_
  refine c_region ?_
  refine st (y_loadagg rfl agg25 us25 sz25 (by assumption) (by simp) (by rfl)) rfl ?_
  refine sc rfl rfl isfn12 (c_zzFits1 L A n c _) rfl ?_
  rintro _ w3 ⟨rfl, hK3⟩
  have hB1 := hB1.keep hK3 (by simp only [List.mem_cons, List.not_mem_nil, or_false, not_or, not_false_eq_true] <;> omega)
  have hB2 := hB2.keep hK3 (by simp only [List.mem_cons, List.not_mem_nil, or_false, not_or, not_false_eq_true] <;> omega)
  have hK13 := hK12.trans hK3 (by simp)
  clear hK1 hK2 hK12 hK3
  refine st (y_not rfl) rfl ?_
  obtain ⟨z, hz⟩ : ∃ z, (!decide (n ≤ 2147483647)) = z := ⟨_, rfl⟩
  rw [hz]
  cases z
  ·
    refine st (y_move rfl) rfl ?_
    refine stg rfl rfl (y_loadagg rfl agg25 us25 sz25 (by assumption) (by simp) (by rfl)) rfl ?_
    refine scg rfl rfl rfl rfl isfn12 (c_zzFits1 M B m d _) rfl ?_
    rintro _ w4 ⟨rfl, hK4⟩
    have hB1 := hB1.keep hK4 (by simp only [List.mem_cons, List.not_mem_nil, or_false, not_or, not_false_eq_true] <;> omega)
    have hB2 := hB2.keep hK4 (by simp only [List.mem_cons, List.not_mem_nil, or_false, not_or, not_false_eq_true] <;> omega)
    have hK14 := hK13.trans hK4 (by simp)
    refine stg rfl rfl (y_not rfl) rfl ?_
    refine st (y_pickF rfl rfl) rfl ?_
    refine l_nil ?_
    refine q_then ?_
    refine c_ifb rfl (fun hz2 => ?_) (fun hz2 => ?_)
    · refine c_seq ?_
      refine c_region ?_
      refine st (y_assign rfl) rfl ?_
      refine l_nil ?_
      refine q_then ?_
      refine c_ret ?_
      refine q_then_ret ?_
      refine q_end1 (.inl rfl) rfl rfl ?_
      exact ⟨_, rfl, rfl, hK14⟩
    ·
      refine c_skip ?_
      refine q_then ?_
      refine c_seq ?_
      refine c_region ?_
      refine st (y_loadagg rfl agg25 us25 sz25 (by assumption) (by simp) (by rfl)) rfl ?_
      refine st (y_loadagg rfl agg25 us25 sz25 (by assumption) (by simp) (by rfl)) rfl ?_
      refine sc rfl rfl isfn30 (c_lawsBoth L A n c xs M B m d ys _ (hR.keep hK14 (by simp)) (hR2.keep hK14 (by simp))) rfl ?_
      rintro _ w5 ⟨hK5, ⟨ho, ho2, b, b', rfl, hBl, hBl2, hb, hb'⟩ | ⟨x, y, rfl⟩⟩
      · have hB1 := hB1.keep hK5 (by simp only [List.mem_cons, List.not_mem_nil, or_false, not_or, not_false_eq_true] <;> omega)
        have hB2 := hB2.keep hK5 (by simp only [List.mem_cons, List.not_mem_nil, or_false, not_or, not_false_eq_true] <;> omega)
        have hK15 := hK14.trans hK5 (by simp)
        have hls := ho.len
        have hlt := ho2.len
        clear hK4 hK14 hK5 hK13
        refine st (y_move rfl) rfl ?_
        refine st (y_extract rfl rfl) rfl ?_
        refine st (y_extract rfl rfl) rfl ?_
        refine st (y_extract rfl rfl) rfl ?_
        refine st (y_assign rfl) rfl ?_
        refine st (y_assign rfl) rfl ?_
        refine st (y_assign rfl) rfl ?_
        refine l_nil ?_
        refine q_then ?_
        refine c_seq ?_
        refine c_seq ?_
        refine c_region ?_
        refine st (y_move rfl) rfl ?_
        refine st (y_not rfl) rfl ?_
        refine l_nil ?_
        refine q_then ?_
        refine c_false rfl rfl ?_
        refine c_skip ?_
        refine q_then ?_
        refine c_seq ?_
        refine c_region ?_
        refine st (y_move rfl) rfl ?_
        refine st (y_move rfl) rfl ?_
        refine sc rfl rfl isfn32 (c_table 2 (by omega) _) rfl ?_
        rintro _ w6 ⟨rfl, hK6⟩
        have hB1 := hB1.keep hK6 (by simp only [List.mem_cons, List.not_mem_nil, or_false, not_or, not_false_eq_true] <;> omega)
        have hB2 := hB2.keep hK6 (by simp only [List.mem_cons, List.not_mem_nil, or_false, not_or, not_false_eq_true] <;> omega)
        have hBl := hBl.keep hK6 (by simp only [List.mem_cons, List.not_mem_nil, or_false, not_or, not_false_eq_true] <;> omega)
        have hBl2 := hBl2.keep hK6 (by simp only [List.mem_cons, List.not_mem_nil, or_false, not_or, not_false_eq_true] <;> omega)
        have hK16 := hK15.trans hK6 (by simp)
        refine sc rfl rfl isfn31 (c_Joined b b' _ _ (tabs.getD 2 []) rfl _ hBl hBl2 (by omega) (by omega)) rfl ?_
        rintro _ w7 ⟨j1, rfl, hJ1, hj1, hK7⟩
        have hB1 := hB1.keep hK7 (by simp only [List.mem_cons, List.not_mem_nil, or_false, not_or, not_false_eq_true] <;> omega)
        have hB2 := hB2.keep hK7 (by simp only [List.mem_cons, List.not_mem_nil, or_false, not_or, not_false_eq_true] <;> omega)
        have hBl := hBl.keep hK7 (by simp only [List.mem_cons, List.not_mem_nil, or_false, not_or, not_false_eq_true] <;> omega)
        have hBl2 := hBl2.keep hK7 (by simp only [List.mem_cons, List.not_mem_nil, or_false, not_or, not_false_eq_true] <;> omega)
        have hK17 := hK16.trans hK7 (by simp)
        refine sc rfl rfl isfn22 (c_specCount j1 _ _ hJ1 (by rw [joined_length]; omega)) rfl ?_
        rintro _ w8 ⟨rfl, hK8⟩
        have hB1 := hB1.keep hK8 (by simp only [List.mem_cons, List.not_mem_nil, or_false, not_or, not_false_eq_true] <;> omega)
        have hB2 := hB2.keep hK8 (by simp only [List.mem_cons, List.not_mem_nil, or_false, not_or, not_false_eq_true] <;> omega)
        have hBl := hBl.keep hK8 (by simp only [List.mem_cons, List.not_mem_nil, or_false, not_or, not_false_eq_true] <;> omega)
        have hBl2 := hBl2.keep hK8 (by simp only [List.mem_cons, List.not_mem_nil, or_false, not_or, not_false_eq_true] <;> omega)
        have hK18 := hK17.trans hK8 (by simp)
        refine st (y_move rfl) rfl ?_
        refine st (y_move rfl) rfl ?_
        refine sc rfl rfl isfn32 (c_table 2 (by omega) _) rfl ?_
        rintro _ w9 ⟨rfl, hK9⟩
        have hB1 := hB1.keep hK9 (by simp only [List.mem_cons, List.not_mem_nil, or_false, not_or, not_false_eq_true] <;> omega)
        have hB2 := hB2.keep hK9 (by simp only [List.mem_cons, List.not_mem_nil, or_false, not_or, not_false_eq_true] <;> omega)
        have hBl := hBl.keep hK9 (by simp only [List.mem_cons, List.not_mem_nil, or_false, not_or, not_false_eq_true] <;> omega)
        have hBl2 := hBl2.keep hK9 (by simp only [List.mem_cons, List.not_mem_nil, or_false, not_or, not_false_eq_true] <;> omega)
        have hK19 := hK18.trans hK9 (by simp)
        refine sc rfl rfl isfn31 (c_Joined b' b _ _ (tabs.getD 2 []) rfl _ hBl2 hBl (by omega) (by omega)) rfl ?_
        rintro _ w10 ⟨j2, rfl, hJ2, hj2, hK10⟩
        have hB1 := hB1.keep hK10 (by simp only [List.mem_cons, List.not_mem_nil, or_false, not_or, not_false_eq_true] <;> omega)
        have hB2 := hB2.keep hK10 (by simp only [List.mem_cons, List.not_mem_nil, or_false, not_or, not_false_eq_true] <;> omega)
        have hBl := hBl.keep hK10 (by simp only [List.mem_cons, List.not_mem_nil, or_false, not_or, not_false_eq_true] <;> omega)
        have hBl2 := hBl2.keep hK10 (by simp only [List.mem_cons, List.not_mem_nil, or_false, not_or, not_false_eq_true] <;> omega)
        have hK20 := hK19.trans hK10 (by simp)
        refine sc rfl rfl isfn22 (c_specCount j2 _ _ hJ2 (by rw [joined_length]; omega)) rfl ?_
        rintro _ w11 ⟨rfl, hK11⟩
        have hB1 := hB1.keep hK11 (by simp only [List.mem_cons, List.not_mem_nil, or_false, not_or, not_false_eq_true] <;> omega)
        have hB2 := hB2.keep hK11 (by simp only [List.mem_cons, List.not_mem_nil, or_false, not_or, not_false_eq_true] <;> omega)
        have hK21 := hK20.trans hK11 (by simp)
        clear hK6 hK7 hK8 hK9 hK10 hK11 hK16 hK17 hK18 hK19 hK20 hBl hBl2 hJ1 hJ2
        rw [show tabf (tabs.getD 2 []) = gDif from tab2]
        refine st (y_assign rfl) rfl ?_
        refine st (y_assign rfl) rfl ?_
        refine l_nil ?_
        refine q_then ?_
        refine c_seq ?_
        refine c_region ?_
        refine st (y_loadagg rfl agg25 us25 sz25 (by assumption) (by simp) (by rfl)) rfl ?_
        refine st (y_loadagg rfl agg25 us25 sz25 (by assumption) (by simp) (by rfl)) rfl ?_
        refine sc rfl rfl isfn33 (c_implCompare 0 (by omega) L A n c xs M B m d ys _ (hR.keep hK21 (by simp)) (hR2.keep hK21 (by simp)) ho ho2) rfl ?_
        rintro _ w12 ⟨rfl, hK12⟩
        have hB1 := hB1.keep hK12 (by simp only [List.mem_cons, List.not_mem_nil, or_false, not_or, not_false_eq_true] <;> omega)
        have hB2 := hB2.keep hK12 (by simp only [List.mem_cons, List.not_mem_nil, or_false, not_or, not_false_eq_true] <;> omega)
        have hK22 := hK21.trans hK12 (by simp)
        have fin := @dif_eq (mkS L xs) (mkS M ys)
        refine st (y_move rfl) rfl ?_
        refine st_if (y_eq_u (b := 0) rfl rfl) rfl (fun h1 => ?_) (fun h1 => ?_)
        · refine st (y_move rfl) rfl ?_
          refine stg rfl rfl (y_move rfl) rfl ?_
          refine stg_if rfl rfl (y_eq_u (b := 0) rfl rfl) rfl (fun h2 => ?_) (fun h2 => ?_)
          · refine st (y_pickT rfl rfl) rfl ?_
            refine st (y_move rfl) rfl ?_
            refine stg rfl rfl (y_move rfl) rfl ?_
            refine stg rfl rfl (y_len rfl Try.underlying28) rfl ?_
            refine stg rfl rfl (y_move rfl) rfl ?_
            refine stg rfl rfl (y_len rfl Try.underlying28) rfl ?_
            refine stg rfl rfl (y_eq_i rfl rfl) rfl ?_
            refine st (y_pickT rfl rfl) rfl ?_
            refine st_t (y_eq_b rfl rfl Try.underlying4) ((by rw [c_cmp0]; refine decide_eq_decide.2 ⟨fun h => by rw [h], fun h => fin.1 ⟨h1, h2, by omega⟩⟩)) rfl ?_
            refine st (y_move rfl) rfl ?_
            refine stg rfl rfl (y_loadagg rfl agg25 us25 sz25 (by assumption) (by simp) (by rfl)) rfl ?_
            refine stg rfl rfl (y_loadagg rfl agg25 us25 sz25 (by assumption) (by simp) (by rfl)) rfl ?_
            refine scg rfl rfl rfl rfl isfn33 (c_implCompare 1 (by omega) L A n c xs M B m d ys _ (hR.keep hK22 (by simp)) (hR2.keep hK22 (by simp)) ho ho2) rfl ?_
            rintro _ w13 ⟨rfl, hK13⟩
            have hB1 := hB1.keep hK13 (by simp only [List.mem_cons, List.not_mem_nil, or_false, not_or, not_false_eq_true] <;> omega)
            have hB2 := hB2.keep hK13 (by simp only [List.mem_cons, List.not_mem_nil, or_false, not_or, not_false_eq_true] <;> omega)
            have hK23 := hK22.trans hK13 (by simp)
            refine stg rfl rfl (y_move rfl) rfl ?_
            refine stg rfl rfl (y_eq_u (b := 0) rfl rfl) rfl ?_
            refine stg_t rfl rfl (y_eq_b rfl rfl Try.underlying4) (rfl) rfl ?_
            refine st (y_pickT rfl rfl) rfl ?_
            refine st (y_move rfl) rfl ?_
            refine stg rfl rfl (y_loadagg rfl agg25 us25 sz25 (by assumption) (by simp) (by rfl)) rfl ?_
            refine stg rfl rfl (y_loadagg rfl agg25 us25 sz25 (by assumption) (by simp) (by rfl)) rfl ?_
            refine scg rfl rfl rfl rfl isfn33 (c_implCompare 2 (by omega) L A n c xs M B m d ys _ (hR.keep hK23 (by simp)) (hR2.keep hK23 (by simp)) ho ho2) rfl ?_
            rintro _ w14 ⟨rfl, hK14⟩
            have hK24 := hK23.trans hK14 (by simp)
            refine stg rfl rfl (y_move rfl) rfl ?_
            refine stg_t rfl rfl (y_eq_u (b := 0) rfl rfl) (by omega) rfl ?_
            refine stg rfl rfl (y_move rfl) rfl ?_
            refine stg rfl rfl (y_move rfl) rfl ?_
            refine stg rfl rfl (y_gt_u (b := 0) rfl rfl) rfl ?_
            refine stg rfl rfl (y_pickT rfl rfl) rfl ?_
            refine stg_t rfl rfl (y_eq_b rfl rfl Try.underlying4) ((by rw [c_cmp2]; simp [h2])) rfl ?_
            refine st (y_pickT rfl rfl) rfl ?_
            refine st (y_move rfl) rfl ?_
            refine scg rfl rfl rfl rfl isfn16 (c_three _) rfl ?_
            rintro _ w15 ⟨b3, rfl, hR3, hb3, hK15⟩
            refine scg rfl rfl rfl rfl isfn16 (c_three _) rfl ?_
            rintro _ w16 ⟨b4, rfl, hR4, hb4, hK16⟩
            refine scg rfl rfl rfl rfl isfn33 (c_implCompare 0 (by omega) 9 _ 3 3 [1, 2, 5] 9 _ 3 3 [1, 2, 5] _ (hR3.keep hK16 (by simp)) hR4 ⟨by omega, by omega, by decide⟩ ⟨by omega, by omega, by decide⟩) rfl ?_
            rintro _ w17 ⟨rfl, hK17⟩
            rw [show cmpB 0 (mkS 9 [1, 2, 5]) (mkS 9 [1, 2, 5]) = true from c_cmp_self _]
            refine st (y_pickT rfl rfl) rfl ?_
            refine st (y_assign rfl) rfl ?_
            refine l_nil ?_
            refine q_then ?_
            refine c_ret ?_
            refine q_end1 (.inl rfl) rfl rfl ?_
            have hKK : Keep w _ [] := (((((Keep.refl w []).trans hK24 (by intro i; simp only [List.mem_cons, List.not_mem_nil, or_false, false_or, false_implies] <;> omega)).trans hK15 (by intro i; simp only [List.mem_cons, List.not_mem_nil, or_false, false_or, false_implies] <;> omega)).trans hK16 (by intro i; simp only [List.mem_cons, List.not_mem_nil, or_false, false_or, false_implies] <;> omega)).trans hK17 (by intro i; simp only [List.mem_cons, List.not_mem_nil, or_false, false_or, false_implies] <;> omega))
            exact ⟨_, rfl, rfl, hKK⟩
          ·
            refine st (y_pickT rfl rfl) rfl ?_
            refine st (y_move rfl) rfl ?_
            refine sno rfl rfl rfl rfl ?_
            refine sno rfl rfl rfl rfl ?_
            refine sno rfl rfl rfl rfl ?_
            refine sno rfl rfl rfl rfl ?_
            refine sno rfl rfl rfl rfl ?_
            refine st (y_pickF rfl rfl) rfl ?_
            refine st_t (y_eq_b rfl rfl Try.underlying4) ((by rw [c_cmp0]; exact decide_eq_false (fun h => h2 (fin.2 h).2.1))) rfl ?_
            refine st (y_move rfl) rfl ?_
            refine stg rfl rfl (y_loadagg rfl agg25 us25 sz25 (by assumption) (by simp) (by rfl)) rfl ?_
            refine stg rfl rfl (y_loadagg rfl agg25 us25 sz25 (by assumption) (by simp) (by rfl)) rfl ?_
            refine scg rfl rfl rfl rfl isfn33 (c_implCompare 1 (by omega) L A n c xs M B m d ys _ (hR.keep hK22 (by simp)) (hR2.keep hK22 (by simp)) ho ho2) rfl ?_
            rintro _ w13 ⟨rfl, hK13⟩
            have hB1 := hB1.keep hK13 (by simp only [List.mem_cons, List.not_mem_nil, or_false, not_or, not_false_eq_true] <;> omega)
            have hB2 := hB2.keep hK13 (by simp only [List.mem_cons, List.not_mem_nil, or_false, not_or, not_false_eq_true] <;> omega)
            have hK23 := hK22.trans hK13 (by simp)
            refine stg rfl rfl (y_move rfl) rfl ?_
            refine stg rfl rfl (y_eq_u (b := 0) rfl rfl) rfl ?_
            refine stg_t rfl rfl (y_eq_b rfl rfl Try.underlying4) (rfl) rfl ?_
            refine st (y_pickT rfl rfl) rfl ?_
            refine st (y_move rfl) rfl ?_
            refine stg rfl rfl (y_loadagg rfl agg25 us25 sz25 (by assumption) (by simp) (by rfl)) rfl ?_
            refine stg rfl rfl (y_loadagg rfl agg25 us25 sz25 (by assumption) (by simp) (by rfl)) rfl ?_
            refine scg rfl rfl rfl rfl isfn33 (c_implCompare 2 (by omega) L A n c xs M B m d ys _ (hR.keep hK23 (by simp)) (hR2.keep hK23 (by simp)) ho ho2) rfl ?_
            rintro _ w14 ⟨rfl, hK14⟩
            have hK24 := hK23.trans hK14 (by simp)
            refine stg rfl rfl (y_move rfl) rfl ?_
            refine stg_f rfl rfl (y_eq_u (b := 0) rfl rfl) (by omega) rfl ?_
            refine stg rfl rfl (y_move rfl) rfl ?_
            refine sno rfl rfl rfl rfl ?_
            refine sno rfl rfl rfl rfl ?_
            refine stg rfl rfl (y_pickF rfl rfl) rfl ?_
            refine stg_t rfl rfl (y_eq_b rfl rfl Try.underlying4) ((by rw [c_cmp2]; simp [h2])) rfl ?_
            refine st (y_pickT rfl rfl) rfl ?_
            refine st (y_move rfl) rfl ?_
            refine scg rfl rfl rfl rfl isfn16 (c_three _) rfl ?_
            rintro _ w15 ⟨b3, rfl, hR3, hb3, hK15⟩
            refine scg rfl rfl rfl rfl isfn16 (c_three _) rfl ?_
            rintro _ w16 ⟨b4, rfl, hR4, hb4, hK16⟩
            refine scg rfl rfl rfl rfl isfn33 (c_implCompare 0 (by omega) 9 _ 3 3 [1, 2, 5] 9 _ 3 3 [1, 2, 5] _ (hR3.keep hK16 (by simp)) hR4 ⟨by omega, by omega, by decide⟩ ⟨by omega, by omega, by decide⟩) rfl ?_
            rintro _ w17 ⟨rfl, hK17⟩
            rw [show cmpB 0 (mkS 9 [1, 2, 5]) (mkS 9 [1, 2, 5]) = true from c_cmp_self _]
            refine st (y_pickT rfl rfl) rfl ?_
            refine st (y_assign rfl) rfl ?_
            refine l_nil ?_
            refine q_then ?_
            refine c_ret ?_
            refine q_end1 (.inl rfl) rfl rfl ?_
            have hKK : Keep w _ [] := (((((Keep.refl w []).trans hK24 (by intro i; simp only [List.mem_cons, List.not_mem_nil, or_false, false_or, false_implies] <;> omega)).trans hK15 (by intro i; simp only [List.mem_cons, List.not_mem_nil, or_false, false_or, false_implies] <;> omega)).trans hK16 (by intro i; simp only [List.mem_cons, List.not_mem_nil, or_false, false_or, false_implies] <;> omega)).trans hK17 (by intro i; simp only [List.mem_cons, List.not_mem_nil, or_false, false_or, false_implies] <;> omega))
            exact ⟨_, rfl, rfl, hKK⟩
        ·
          refine st (y_move rfl) rfl ?_
          refine sno rfl rfl rfl rfl ?_
          refine sno rfl rfl rfl rfl ?_
          refine st (y_pickF rfl rfl) rfl ?_
          refine st (y_move rfl) rfl ?_
          refine sno rfl rfl rfl rfl ?_
          refine sno rfl rfl rfl rfl ?_
          refine sno rfl rfl rfl rfl ?_
          refine sno rfl rfl rfl rfl ?_
          refine sno rfl rfl rfl rfl ?_
          refine st (y_pickF rfl rfl) rfl ?_
          refine st_t (y_eq_b rfl rfl Try.underlying4) ((by rw [c_cmp0]; exact decide_eq_false (fun h => h1 (fin.2 h).1))) rfl ?_
          refine st (y_move rfl) rfl ?_
          refine stg rfl rfl (y_loadagg rfl agg25 us25 sz25 (by assumption) (by simp) (by rfl)) rfl ?_
          refine stg rfl rfl (y_loadagg rfl agg25 us25 sz25 (by assumption) (by simp) (by rfl)) rfl ?_
          refine scg rfl rfl rfl rfl isfn33 (c_implCompare 1 (by omega) L A n c xs M B m d ys _ (hR.keep hK22 (by simp)) (hR2.keep hK22 (by simp)) ho ho2) rfl ?_
          rintro _ w13 ⟨rfl, hK13⟩
          have hB1 := hB1.keep hK13 (by simp only [List.mem_cons, List.not_mem_nil, or_false, not_or, not_false_eq_true] <;> omega)
          have hB2 := hB2.keep hK13 (by simp only [List.mem_cons, List.not_mem_nil, or_false, not_or, not_false_eq_true] <;> omega)
          have hK23 := hK22.trans hK13 (by simp)
          refine stg rfl rfl (y_move rfl) rfl ?_
          refine stg rfl rfl (y_eq_u (b := 0) rfl rfl) rfl ?_
          refine stg_t rfl rfl (y_eq_b rfl rfl Try.underlying4) (rfl) rfl ?_
          refine st (y_pickT rfl rfl) rfl ?_
          refine st (y_move rfl) rfl ?_
          refine stg rfl rfl (y_loadagg rfl agg25 us25 sz25 (by assumption) (by simp) (by rfl)) rfl ?_
          refine stg rfl rfl (y_loadagg rfl agg25 us25 sz25 (by assumption) (by simp) (by rfl)) rfl ?_
          refine scg rfl rfl rfl rfl isfn33 (c_implCompare 2 (by omega) L A n c xs M B m d ys _ (hR.keep hK23 (by simp)) (hR2.keep hK23 (by simp)) ho ho2) rfl ?_
          rintro _ w14 ⟨rfl, hK14⟩
          have hK24 := hK23.trans hK14 (by simp)
          refine stg rfl rfl (y_move rfl) rfl ?_
          refine stg_if rfl rfl (y_eq_u (b := 0) rfl rfl) rfl (fun h2 => ?_) (fun h2 => ?_)
          · refine stg rfl rfl (y_move rfl) rfl ?_
            refine stg rfl rfl (y_move rfl) rfl ?_
            refine stg rfl rfl (y_gt_u (b := 0) rfl rfl) rfl ?_
            refine stg rfl rfl (y_pickT rfl rfl) rfl ?_
            refine stg_t rfl rfl (y_eq_b rfl rfl Try.underlying4) ((by rw [c_cmp2]; simp [h2])) rfl ?_
            refine st (y_pickT rfl rfl) rfl ?_
            refine st (y_move rfl) rfl ?_
            refine scg rfl rfl rfl rfl isfn16 (c_three _) rfl ?_
            rintro _ w15 ⟨b3, rfl, hR3, hb3, hK15⟩
            refine scg rfl rfl rfl rfl isfn16 (c_three _) rfl ?_
            rintro _ w16 ⟨b4, rfl, hR4, hb4, hK16⟩
            refine scg rfl rfl rfl rfl isfn33 (c_implCompare 0 (by omega) 9 _ 3 3 [1, 2, 5] 9 _ 3 3 [1, 2, 5] _ (hR3.keep hK16 (by simp)) hR4 ⟨by omega, by omega, by decide⟩ ⟨by omega, by omega, by decide⟩) rfl ?_
            rintro _ w17 ⟨rfl, hK17⟩
            rw [show cmpB 0 (mkS 9 [1, 2, 5]) (mkS 9 [1, 2, 5]) = true from c_cmp_self _]
            refine st (y_pickT rfl rfl) rfl ?_
            refine st (y_assign rfl) rfl ?_
            refine l_nil ?_
            refine q_then ?_
            refine c_ret ?_
            refine q_end1 (.inl rfl) rfl rfl ?_
            have hKK : Keep w _ [] := (((((Keep.refl w []).trans hK24 (by intro i; simp only [List.mem_cons, List.not_mem_nil, or_false, false_or, false_implies] <;> omega)).trans hK15 (by intro i; simp only [List.mem_cons, List.not_mem_nil, or_false, false_or, false_implies] <;> omega)).trans hK16 (by intro i; simp only [List.mem_cons, List.not_mem_nil, or_false, false_or, false_implies] <;> omega)).trans hK17 (by intro i; simp only [List.mem_cons, List.not_mem_nil, or_false, false_or, false_implies] <;> omega))
            exact ⟨_, rfl, rfl, hKK⟩
          ·
            refine stg rfl rfl (y_move rfl) rfl ?_
            refine sno rfl rfl rfl rfl ?_
            refine sno rfl rfl rfl rfl ?_
            refine stg rfl rfl (y_pickF rfl rfl) rfl ?_
            refine stg_t rfl rfl (y_eq_b rfl rfl Try.underlying4) ((by rw [c_cmp2]; simp [h2])) rfl ?_
            refine st (y_pickT rfl rfl) rfl ?_
            refine st (y_move rfl) rfl ?_
            refine scg rfl rfl rfl rfl isfn16 (c_three _) rfl ?_
            rintro _ w15 ⟨b3, rfl, hR3, hb3, hK15⟩
            refine scg rfl rfl rfl rfl isfn16 (c_three _) rfl ?_
            rintro _ w16 ⟨b4, rfl, hR4, hb4, hK16⟩
            refine scg rfl rfl rfl rfl isfn33 (c_implCompare 0 (by omega) 9 _ 3 3 [1, 2, 5] 9 _ 3 3 [1, 2, 5] _ (hR3.keep hK16 (by simp)) hR4 ⟨by omega, by omega, by decide⟩ ⟨by omega, by omega, by decide⟩) rfl ?_
            rintro _ w17 ⟨rfl, hK17⟩
            rw [show cmpB 0 (mkS 9 [1, 2, 5]) (mkS 9 [1, 2, 5]) = true from c_cmp_self _]
            refine st (y_pickT rfl rfl) rfl ?_
            refine st (y_assign rfl) rfl ?_
            refine l_nil ?_
            refine q_then ?_
            refine c_ret ?_
            refine q_end1 (.inl rfl) rfl rfl ?_
            have hKK : Keep w _ [] := (((((Keep.refl w []).trans hK24 (by intro i; simp only [List.mem_cons, List.not_mem_nil, or_false, false_or, false_implies] <;> omega)).trans hK15 (by intro i; simp only [List.mem_cons, List.not_mem_nil, or_false, false_or, false_implies] <;> omega)).trans hK16 (by intro i; simp only [List.mem_cons, List.not_mem_nil, or_false, false_or, false_implies] <;> omega)).trans hK17 (by intro i; simp only [List.mem_cons, List.not_mem_nil, or_false, false_or, false_implies] <;> omega))
            exact ⟨_, rfl, rfl, hKK⟩
      ·
        refine st (y_move rfl) rfl ?_
        refine st (y_extract rfl rfl) rfl ?_
        refine st (y_extract rfl rfl) rfl ?_
        refine st (y_extract rfl rfl) rfl ?_
        refine st (y_assign rfl) rfl ?_
        refine st (y_assign rfl) rfl ?_
        refine st (y_assign rfl) rfl ?_
        refine l_nil ?_
        refine q_then ?_
        refine c_seq ?_
        refine c_seq ?_
        refine c_region ?_
        refine st (y_move rfl) rfl ?_
        refine st (y_not rfl) rfl ?_
        refine l_nil ?_
        refine q_then ?_
        refine c_true rfl rfl ?_
        refine c_seq ?_
        refine c_region ?_
        refine st (y_assign rfl) rfl ?_
        refine l_nil ?_
        refine q_then ?_
        refine c_ret ?_
        refine q_then_ret ?_
        refine q_end1 (.inl rfl) rfl rfl ?_
        exact ⟨_, rfl, rfl, hK14.trans hK5 (by simp)⟩
  ·
    refine st (y_move rfl) rfl ?_
    refine sno rfl rfl rfl rfl ?_
    refine sno rfl rfl rfl rfl ?_
    refine sno rfl rfl rfl rfl ?_
    refine st (y_pickT rfl rfl) rfl ?_
    refine l_nil ?_
    refine q_then ?_
    refine c_true rfl rfl ?_
    refine c_seq ?_
    refine c_region ?_
    refine st (y_assign rfl) rfl ?_
    refine l_nil ?_
    refine q_then ?_
    refine c_ret ?_
    refine q_then_ret ?_
    refine q_end1 (.inl rfl) rfl rfl ?_
    exact ⟨_, rfl, rfl, hK13⟩

end Go.Proofs.Ytlhbbndedbacpaa

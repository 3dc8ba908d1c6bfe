/- Copy and CopyFull, the package's and the thin package's, each by its contract. -/
import Derived.Test.YtepmbglaalkbdaaDoorT2
import Derived.Test.YtepmbglaalkbdaaDoorB2
import Derived.Test.YtepmbglaalkbdaaDoorK15
import Derived.Test.YtepmbglaalkbdaaDoorL23
set_option linter.unusedVariables false
set_option linter.unusedSimpArgs false
set_option maxRecDepth 100000
set_option maxHeartbeats 1000000
namespace Go.Proofs.YtepmbglaalkbdaaDoor
open Go Go.RowKit

theorem one_map (xs : List Nat) : ∀ v ∈ xs.map vU, v.oneCell' = true := by
  intro v hv; obtain ⟨x, _, rfl⟩ := List.mem_map.1 hv; rfl
theorem over_words (xs ys : List Nat) (m : Nat) (h1 : m ≤ xs.length) (h2 : m ≤ ys.length) : over (ys.map vU) 0 (((xs.map vU).drop 0).take m) = (xs.take m ++ ys.drop m).map vU := by
  unfold over
  rw [List.drop_zero, List.take_zero, List.nil_append, List.length_take, List.length_map, Nat.min_eq_left h1, Nat.zero_add, ← List.map_take, ← List.map_drop, ← List.map_append]

theorem c_Copy (p q p2 q2 : Nat) (s t : List Bool) (w : World) (hB : BSet w p q s) (hB2 : BSet w p2 q2 t) (hpq : p ≠ p2 ∧ p ≠ q2 ∧ q ≠ p2 ∧ q ≠ q2) (hs : s.length ≤ 10000) (ht : t.length ≤ 10000) :
    Cal Tryd.prog 34 [vP p, vP p2] w fun v w' => v = vU (min s.length t.length) ∧ BSet w' p2 q2 (copyS s t) ∧ Keep w w' [q2] := by
  obtain ⟨tl, hW⟩ := hB
  obtain ⟨tl2, hW2⟩ := hB2
  have hls := pack_length s
  have hlt := pack_length t
  have hns : nW s.length ≤ 200 := by unfold nW; omega
  have hnt : nW t.length ≤ 200 := by unfold nW; omega
  have hst := hW.st
  have hst2 := hW2.st
  obtain ⟨m, hm⟩ : ∃ m, min (pack s).length (pack t).length = m := ⟨_, rfl⟩
  have hms : m ≤ (pack s).length := by omega
  have hmt : m ≤ (pack t).length := by omega
  have hcl := copyS_length s t
  have hne2 := hW2.ne
  refine go_in' Tryd.func34 rfl Tryd.ntmps34 (Nat.le_of_ble_eq_true rfl) ?_
  refine c_seq ?_
  refine c_region ?_
  refine st (y_assign (v := vU 0) rfl) rfl ?_
  refine l_nil ?_
  refine q_then ?_
  refine c_seq ?_
  refine c_seq ?_
  refine c_region ?_
  refine st (y_move rfl) rfl ?_
  refine st (y_pnil_eq rfl rfl pte50) rfl ?_
  refine l_nil ?_
  refine q_then ?_
  refine c_false rfl rfl ?_
  refine c_skip ?_
  refine q_then ?_
  refine c_seq ?_
  refine c_seq ?_
  refine c_region ?_
  refine st (y_move rfl) rfl ?_
  refine st (y_nil rfl) rfl ?_
  refine st (fa70_1 rfl) rfl ?_
  refine st (y_loadb rfl one34 (by assumption) (by rfl)) rfl ?_
  refine st (y_snil_ne rfl rfl Tryd.underlying34) rfl ?_
  refine l_nil ?_
  refine q_then ?_
  refine c_true rfl rfl ?_
  refine c_tail 8 mixed (by kernel_rfl) ?_
  have hst := hst.drew
  have hst2 := hst2.drew
  have hwd := hW.drew.wd
  have hwd2 := hW2.drew.wd
  refine ss (y_move rfl) rfl ?_
  refine ss (y_nil rfl) rfl ?_
  refine ss (fa70_1 rfl) rfl ?_
  refine ss (y_loadb rfl one34 (by assumption) (by rfl)) rfl ?_
  refine ss (y_move rfl) rfl ?_
  refine ss (y_nil rfl) rfl ?_
  refine ss (fa70_1 rfl) rfl ?_
  refine ss (y_loadb rfl one34 (by assumption) (by rfl)) rfl ?_
  refine s_nil ?_
  show wpL _ _ _ _ _ _ _ _
  refine st_copy rfl rfl Tryd.underlying34 sz38 hwd2 hwd (by simp; omega) (by simp; omega) (one_map _) rfl ?_
  intro w3 hwd3 hK3 hS3
  rw [hm, over_words _ _ m (by simp; omega) (by simp; omega), List.take_append_of_le_length hms, List.drop_append_of_le_length hmt, ← List.append_assoc] at hwd3
  have hst := hst.keep hK3 (by simp only [List.mem_cons, List.not_mem_nil, or_false, not_or, not_false_eq_true] <;> omega)
  have hst2 := hst2.keep hK3 (by simp only [List.mem_cons, List.not_mem_nil, or_false, not_or, not_false_eq_true] <;> omega)
  have hl3 : ((pack s).take m ++ (pack t).drop m).length = (pack t).length := by simp; omega
  have hBW3 : BW w3 p2 q2 t.length ((pack s).take m ++ (pack t).drop m) tl2 := by
    refine ⟨by rw [hl3]; exact hst2, hwd3, hW2.ne, ?_, by rw [hl3]; exact hW2.cap⟩
    intro x hx
    rcases List.mem_append.1 hx with h | h
    · exact pack_lt s x (List.mem_of_mem_take h)
    · exact pack_lt t x (List.mem_of_mem_drop h)
  have hK13 := (Keep.drew w [q2]).trans hK3 (fun i hi => .inl hi)
  have hwb := fun i => wbit_copy (s := s) (t := t) (m := m) (by omega) i
  refine l_nil ?_
  refine q_then ?_
  refine c_seq ?_
  refine c_region ?_
  refine st (y_move rfl) rfl ?_
  refine st (y_nil rfl) rfl ?_
  refine st (fa70_0 rfl) rfl ?_
  refine st (y_loadb rfl one22 (by assumption) (by rfl)) rfl ?_
  refine st (y_assign rfl) rfl ?_
  refine l_nil ?_
  refine q_then ?_
  have hBW3d := hBW3.drew
  have hstd := hst.drew
  have hst2d := hst2.drew
  refine c_cut (fun _ : Unit => [(1, vP p2), (4, vU (min s.length t.length))]) (fun _ w' => w' = w3.drew) ?_ ?_
  · refine c_seq ?_
    refine c_still mixed (by kernel_rfl) ?_
    refine ss (y_move rfl) rfl ?_
    refine ss (y_nil rfl) rfl ?_
    refine ss (fa70_0 rfl) rfl ?_
    refine ss (y_loadb rfl one22 (by assumption) (by rfl)) rfl ?_
    refine ss (y_move rfl) rfl ?_
    refine ss (y_nil rfl) rfl ?_
    refine ss (fa70_0 rfl) rfl ?_
    refine ss (y_loadb rfl one22 (by assumption) (by rfl)) rfl ?_
    refine ss_if (y_lt_u rfl rfl) rfl (fun hlt2 => ?_) (fun hlt2 => ?_)
    · refine s_nil ?_
      refine q_then ?_
      refine c_true rfl rfl ?_
      refine c_region ?_
      refine st (y_move rfl) rfl ?_
      refine st (y_nil rfl) rfl ?_
      refine st (fa70_0 rfl) rfl ?_
      refine st (y_loadb rfl one22 (by assumption) (by rfl)) rfl ?_
      refine st (y_assign rfl) rfl ?_
      refine l_nil ?_
      exact q_meet () ⟨rfl, by rw [Nat.min_eq_left (show s.length ≤ t.length by omega)]; rfl, trivial⟩ rfl
    ·
      refine s_nil ?_
      refine q_then ?_
      refine c_false rfl rfl ?_
      refine c_skip ?_
      exact q_meet () ⟨rfl, by rw [Nat.min_eq_right (show t.length ≤ s.length by omega)]; rfl, trivial⟩ rfl
  ·
    rintro _ w4 rfl
    refine c_seq ?_
    refine c_region ?_
    refine st (y_move rfl) rfl ?_
    refine sc rfl rfl isfn46 (c_cleanLastWord p2 q2 t.length _ tl2 _ hBW3d (by omega) (by omega)) rfl ?_
    rintro _ w5 ⟨rfl, ⟨ws', hBW5, hl5, hb5⟩, hK5⟩
    refine l_nil ?_
    refine q_then ?_
    refine c_ret ?_
    refine q_end1 (.inl rfl) rfl rfl ?_
    refine ⟨_, rfl, rfl, ?_, (hK13.trans (Keep.drew w3 []) (by simp)).trans hK5 (fun i hi => .inl hi)⟩
    rw [← hcl] at hBW5
    refine hBW5.bset (by rw [hl5, hl3, hlt, hcl]) fun i _ => ?_
    rw [hb5, hwb, copyS_getD, Bool.and_comm]
    have e : m = min (nW s.length) (nW t.length) := by omega
    rw [e]

theorem c_CopyFull (p q p2 q2 : Nat) (s t : List Bool) (w : World) (hB : BSet w p q s) (hB2 : BSet w p2 q2 t) (hpq : p ≠ p2 ∧ p ≠ q2 ∧ q ≠ p2 ∧ q ≠ q2) (hs : s.length ≤ 10000) (ht : t.length ≤ 10000) :
    Cal Tryd.prog 35 [vP p, vP p2] w fun v w' => v = vT [] ∧ ∃ q3, BSet w' p2 q3 s ∧ (q3 = q2 ∨ w.heap.size ≤ q3) ∧ Keep w w' [p2, q2] := by
  have hl1 := hB.lts
  have hl2 := hB2.lts
  obtain ⟨tl, hW⟩ := hB
  obtain ⟨tl2, hW2⟩ := hB2
  have hls := pack_length s
  have hlt := pack_length t
  have hns : nW s.length ≤ 200 := by unfold nW; omega
  have hnt : nW t.length ≤ 200 := by unfold nW; omega
  have hst := hW.st
  have hst2 := hW2.st
  have hcap2 := hW2.cap
  refine go_in' Tryd.func35 rfl Tryd.ntmps35 (Nat.le_of_ble_eq_true rfl) ?_
  refine c_seq ?_
  refine c_seq ?_
  refine c_region ?_
  refine st (y_move rfl) rfl ?_
  refine st (y_pnil_eq rfl rfl pte50) rfl ?_
  refine l_nil ?_
  refine q_then ?_
  refine c_false rfl rfl ?_
  refine c_skip ?_
  refine q_then ?_
  refine c_seq ?_
  refine c_region ?_
  refine st (y_move rfl) rfl ?_
  refine st (y_move rfl) rfl ?_
  refine st (y_nil rfl) rfl ?_
  refine st (fa70_0 rfl) rfl ?_
  refine st (y_loadb rfl one22 (by assumption) (by rfl)) rfl ?_
  refine st (y_nil rfl) rfl ?_
  refine st (fa70_0 rfl) rfl ?_
  refine st_store rfl rfl rfl sz22 (by assumption) (by first | simp | (simp; omega)) rfl ?_
  intro w1 hst21 hK1 hS1
  have hWs1 := hW.keep hK1 (by simp only [List.mem_singleton]; omega) (by simp only [List.mem_singleton]; omega)
  have hwd21 := hW2.wd.keep hK1 (by simp only [List.mem_singleton]; omega)
  clear hst hst2
  have hst2 : Blk w1 p2 70 [vU s.length, vS q2 (pack t).length ((pack t).length + tl2.length)] := hst21
  have hst := hWs1.st
  clear hst21
  have hK1' : Keep w w1 [p2, q2] := hK1.mono (fun i hi => .inl (by simp only [List.mem_singleton] at hi; subst hi; simp))
  refine l_nil ?_
  refine q_then ?_
  refine c_seq ?_
  refine c_region ?_
  refine st (y_move rfl) rfl ?_
  refine st (y_nil rfl) rfl ?_
  refine st (fa70_1 rfl) rfl ?_
  refine st (y_loadb rfl one34 (by assumption) (by rfl)) rfl ?_
  refine st (y_len rfl Tryd.underlying34) rfl ?_
  refine st_if (y_eq_i (b := 0) rfl rfl) rfl (fun h0 => ?_) (fun h0 => ?_)
  · have hs0 : s.length = 0 := by unfold nW at hls; omega
    have hsn : s = [] := List.eq_nil_of_length_eq_zero hs0
    refine l_nil ?_
    refine q_then ?_
    refine c_true rfl rfl ?_
    refine c_seq ?_
    refine c_region ?_
    refine st (y_move rfl) rfl ?_
    refine st (y_nil rfl) rfl ?_
    refine st (fa70_1 rfl) rfl ?_
    refine st (y_loadb rfl one34 (by assumption) (by rfl)) rfl ?_
    refine st (y_snil_ne rfl rfl Tryd.underlying34) rfl ?_
    refine l_nil ?_
    refine q_then ?_
    refine c_true rfl rfl ?_
    refine c_region ?_
    refine st (y_move rfl) rfl ?_
    refine st (y_move rfl) rfl ?_
    refine st (y_nil rfl) rfl ?_
    refine st (fa70_1 rfl) rfl ?_
    refine st (y_loadb rfl one34 (by assumption) (by rfl)) rfl ?_
    refine st (y_slice_h (h := 0) rfl rfl Tryd.underlying34 sz38 (by omega)) rfl ?_
    refine st (y_nil rfl) rfl ?_
    refine st (fa70_1 rfl) rfl ?_
    refine st_store rfl rfl rfl sz34 (by assumption) (by first | simp | (simp; omega)) rfl ?_
    intro w2 hst22 hK2 hS2
    refine l_nil ?_
    refine q_end0 (.inr rfl) rfl ?_
    have hwd22 := hwd21.keep hK2 (by simp only [List.mem_singleton]; omega)
    refine ⟨_, rfl, rfl, q2, ?_, .inl rfl, hK1'.trans hK2 (fun i hi => by simp only [List.mem_singleton] at hi; subst hi; simp)⟩
    have e0 : (pack s).length = 0 := by omega
    have e1 : pack s = [] := List.eq_nil_of_length_eq_zero e0
    refine ⟨pack t ++ tl2, ?_, by rw [e1, List.nil_append]; exact hwd22, hW2.ne, by rw [e1]; simp, by rw [e1]; simp; omega⟩
    rw [e1]
    simpa using hst22
  ·
    refine l_nil ?_
    refine q_then ?_
    refine c_false rfl rfl ?_
    refine c_cut (fun _ : Nat × List Nat × List Nat => [(0, vP p), (1, vP p2)]) (fun x w4 => Blk w4 p2 70 [vU s.length, vS x.1 (pack s).length ((pack s).length + x.2.2.length)] ∧ Blk w4 x.1 38 ((x.2.1 ++ x.2.2).map vU) ∧ x.2.1.length = (pack s).length ∧ (pack s).length + x.2.2.length ≤ 9223372036854775807 ∧ (x.1 = q2 ∨ w.heap.size ≤ x.1) ∧ BW w4 p q s.length (pack s) tl ∧ Keep w w4 [p2, q2]) ?_ ?_
    · have hstd := hst.drew
      have hst2d := hst2.drew
      have hWd := hWs1.drew
      have hwd2d := hwd21.drew
      have hKd := hK1'.trans (Keep.drew w1 []) (by simp)
      have hsz := hKd.size
      refine c_seq ?_
      refine c_still mixed (by kernel_rfl) ?_
      refine ss (y_move rfl) rfl ?_
      refine ss (y_nil rfl) rfl ?_
      refine ss (fa70_1 rfl) rfl ?_
      refine ss (y_loadb rfl one34 (by assumption) (by rfl)) rfl ?_
      refine ss (y_cap rfl Tryd.underlying34) rfl ?_
      refine ss (y_move rfl) rfl ?_
      refine ss (y_nil rfl) rfl ?_
      refine ss (fa70_1 rfl) rfl ?_
      refine ss (y_loadb rfl one34 (by assumption) (by rfl)) rfl ?_
      refine ss (y_len rfl Tryd.underlying34) rfl ?_
      refine ss_if (y_lt_i rfl rfl) rfl (fun hc => ?_) (fun hc => ?_)
      · refine s_nil ?_
        refine q_then ?_
        refine c_true rfl rfl ?_
        refine c_region ?_
        refine st (y_move rfl) rfl ?_
        refine st (y_move rfl) rfl ?_
        refine st (y_nil rfl) rfl ?_
        refine st (fa70_1 rfl) rfl ?_
        refine st (y_loadb rfl one34 (by assumption) (by rfl)) rfl ?_
        refine st (y_len rfl Tryd.underlying34) rfl ?_
        refine mk34 rfl rfl (by omega) (by omega) rfl ?_
        intro q3 w5 hq3 hwd5 hK5 hS5
        have hst2d := hst2d.keep hK5 (by simp only [List.mem_cons, List.not_mem_nil, or_false, not_or, not_false_eq_true] <;> omega)
        have hq3' : q3 = w1.heap.size := hq3.symm
        have hsz1 := hK1'.size
        refine st (y_nil rfl) rfl ?_
        refine st (fa70_1 rfl) rfl ?_
        refine st_store rfl rfl rfl sz34 (by assumption) (by first | simp | (simp; omega)) rfl ?_
        intro w6 hst6 hK6 hS6
        have hwd5 := hwd5.keep hK6 (by simp only [List.mem_cons, List.not_mem_nil, or_false, not_or, not_false_eq_true] <;> omega)
        refine l_nil ?_
        refine q_meet (q3, List.replicate (pack s).length 0, []) ⟨rfl, rfl, trivial⟩ ⟨?_, ?_, by simp, by simp; omega, .inr (by simp only; omega), (hWd.keep hK5 (by simp) (by simp)).keep hK6 (by simp only [List.mem_singleton]; omega) (by simp only [List.mem_singleton]; omega), (hKd.trans hK5 (by simp)).trans hK6 (fun i hi => by simp only [List.mem_singleton] at hi; subst hi; simp)⟩
        · simpa using hst6
        · simpa using hwd5
      ·
        have hstdd := hstd.drew
        have hst2dd := hst2d.drew
        refine s_nil ?_
        refine q_then ?_
        refine c_false rfl rfl ?_
        refine c_tail 13 mixed (by kernel_rfl) ?_
        refine ss (y_move rfl) rfl ?_
        refine ss (y_move rfl) rfl ?_
        refine ss (y_nil rfl) rfl ?_
        refine ss (fa70_1 rfl) rfl ?_
        refine ss (y_loadb rfl one34 (by assumption) (by rfl)) rfl ?_
        refine ss (y_move rfl) rfl ?_
        refine ss (y_nil rfl) rfl ?_
        refine ss (fa70_1 rfl) rfl ?_
        refine ss (y_loadb rfl one34 (by assumption) (by rfl)) rfl ?_
        refine ss (y_len rfl Tryd.underlying34) rfl ?_
        refine ss (y_slice_h rfl rfl Tryd.underlying34 sz38 (by omega)) rfl ?_
        refine ss (y_nil rfl) rfl ?_
        refine ss (fa70_1 rfl) rfl ?_
        refine s_nil ?_
        show wpL _ _ _ _ _ _ _ _
        refine st_store rfl rfl rfl sz34 (by assumption) (by first | simp | (simp; omega)) rfl ?_
        intro w6 hst6 hK6 hS6
        have hwd6 := hwd2d.drew.keep hK6 (by simp only [List.mem_singleton]; omega)
        refine l_nil ?_
        have hn : (pack s).length ≤ (pack t ++ tl2).length := by rw [List.length_append]; omega
        refine q_meet (q2, (pack t ++ tl2).take (pack s).length, (pack t ++ tl2).drop (pack s).length) ⟨rfl, rfl, trivial⟩ ⟨?_, ?_, ?_, ?_, .inl rfl, hWd.drew.keep hK6 (by simp only [List.mem_singleton]; omega) (by simp only [List.mem_singleton]; omega), (hKd.trans (Keep.drew w1.drew []) (by simp)).trans hK6 (fun i hi => by simp only [List.mem_singleton] at hi; subst hi; simp)⟩
        · have e : (pack s).length + ((pack t ++ tl2).drop (pack s).length).length = (pack t).length + tl2.length := by rw [List.length_drop, List.length_append] at *; omega
          simp only
          rw [e]
          simpa using hst6
        · simp only
          rw [List.take_append_drop]; exact hwd6
        · simp only [List.length_take]; omega
        · simp only [List.length_drop]; rw [List.length_append] at *; omega
    ·
      rintro ⟨q3, zs, tl3⟩ w4 ⟨hst4, hwd4, hzl, hcap4, hq3, hW4, hK4⟩
      simp only at hst4 hwd4 hzl hcap4 hq3 ⊢
      have hpw := hl1.1
      have hne : q3 ≠ p2 ∧ q3 ≠ p ∧ q3 ≠ q := by omega
      have hK4d := hK4.trans (Keep.drew w4 []) (by simp)
      have hW4d := hW4.drew
      clear hst hst2
      have hst := hW4d.st
      have hst2 := hst4.drew
      have hwds := hW4d.wd
      have hwd2 := hwd4.drew
      refine c_tail 8 mixed (by kernel_rfl) ?_
      refine ss (y_move rfl) rfl ?_
      refine ss (y_nil rfl) rfl ?_
      refine ss (fa70_1 rfl) rfl ?_
      refine ss (y_loadb rfl one34 (by assumption) (by rfl)) rfl ?_
      refine ss (y_move rfl) rfl ?_
      refine ss (y_nil rfl) rfl ?_
      refine ss (fa70_1 rfl) rfl ?_
      refine ss (y_loadb rfl one34 (by assumption) (by rfl)) rfl ?_
      refine s_nil ?_
      show wpL _ _ _ _ _ _ _ _
      refine st_copy rfl rfl Tryd.underlying34 sz38 hwd2 hwds (by simp; omega) (by simp) (one_map _) rfl ?_
      intro w5 hwd5 hK5 hS5
      refine l_nil ?_
      refine q_end0 (.inr rfl) rfl ?_
      rw [Nat.min_self, over_words _ _ (pack s).length (by simp) (by simp; omega), List.take_left' rfl, List.drop_left' hzl] at hwd5
      have hst2 := hst2.keep hK5 (by simp only [List.mem_cons, List.not_mem_nil, or_false, not_or, not_false_eq_true] <;> omega)
      refine ⟨_, rfl, rfl, q3, ⟨tl3, hst2, hwd5, by omega, pack_lt s, hcap4⟩, hq3, hK4d.trans hK5 (fun i hi => by
        simp only [List.mem_singleton] at hi
        subst hi
        rcases hq3 with h | h
        · left; rw [h]; simp
        · exact .inr h)⟩

theorem c_implCopy (L : Nat) (A : Option Addr) (n c : Nat) (xs : List Nat) (M : Nat) (A2 : Option Addr) (n2 c2 : Nat) (ys : List Nat) (w : World) (hT : Tb w) (hR : Rd w A n xs) (hR2 : Rd w A2 n2 ys) (hL : L ≤ 6000) (hx : ∀ x ∈ xs, x ≤ 6000) (hM : M ≤ 6000) (hy : ∀ y ∈ ys, y ≤ 6000) :
    Cal Tryd.prog 19 [aB L A n c, aB M A2 n2 c2] w fun v w' => ∃ t A' c', v = vT [aB t.length A' (nums t).length c', vU (min (mkS L xs).length (mkS M ys).length)] ∧ t = copyS (mkS L xs) (mkS M ys) ∧ Ow w' w.heap.size 22 (.slice A' (nums t).length c') ((nums t).map vU) ∧ Keep w w' [] := by
  have hlen : (mkS L xs).length ≤ 6001 := mkS_length_le L 6001 xs (by omega) fun x h => by have := hx x h; omega
  have hlen2 : (mkS M ys).length ≤ 6001 := mkS_length_le M 6001 ys (by omega) fun x h => by have := hy x h; omega
  have hel := copyS_length (mkS L xs) (mkS M ys)
  have hT0 := hT.1
  refine go_in' Tryd.func19 rfl Tryd.ntmps19 (Nat.le_of_ble_eq_true rfl) ?_
  refine c_seq ?_
  refine c_region ?_
  refine st_box _ rfl rfl rfl ?_
  intro b1 w1 hb1 hB1 hK1 hS1
  refine st_box _ rfl rfl rfl ?_
  intro b2 w2 hb2 hB2 hK2 hS2
  have hB1 := hB1.keep hK2 (by simp only [List.mem_cons, List.not_mem_nil, or_false, not_or, not_false_eq_true] <;> omega)
  have hK12 := hK1.trans hK2 (by simp)
  refine st_alloc [.int .u64 0, .slice none 0 0] zv25 rfl rfl ?_
  intro b3 w3 hb3 hB3 hK3 hS3
  have hB1 := hB1.keep hK3 (by simp only [List.mem_cons, List.not_mem_nil, or_false, not_or, not_false_eq_true] <;> omega)
  have hB2 := hB2.keep hK3 (by simp only [List.mem_cons, List.not_mem_nil, or_false, not_or, not_false_eq_true] <;> omega)
  have hK13 := hK12.trans hK3 (by simp)
  refine st (y_assign (v := vU 0) rfl) rfl ?_
  refine l_nil ?_
  refine q_then ?_
  refine c_seq ?_
  refine c_region ?_
  refine st (y_loadagg rfl agg25 us25 sz25 (by assumption) (by simp) (by rfl)) rfl ?_
  refine sc rfl rfl isfn27 (c_made L A n c xs _ (hR.keep hK13 (by simp)) hL hx) rfl ?_
  rintro _ w4 ⟨p, q, rfl, hp, hq, hS, hK4⟩
  have hB1 := hB1.keep hK4 (by simp only [List.mem_cons, List.not_mem_nil, or_false, not_or, not_false_eq_true] <;> omega)
  have hB2 := hB2.keep hK4 (by simp only [List.mem_cons, List.not_mem_nil, or_false, not_or, not_false_eq_true] <;> omega)
  have hB3 := hB3.keep hK4 (by simp only [List.mem_cons, List.not_mem_nil, or_false, not_or, not_false_eq_true] <;> omega)
  have hK14 := hK13.trans hK4 (by simp)
  refine st (y_move rfl) rfl ?_
  refine st (y_extract rfl rfl) rfl ?_
  refine st (y_extract rfl rfl) rfl ?_
  refine st (y_assign rfl) rfl ?_
  refine st (y_assign rfl) rfl ?_
  refine l_nil ?_
  refine q_then ?_
  refine c_seq ?_
  refine c_region ?_
  refine st (y_loadagg rfl agg25 us25 sz25 (by assumption) (by simp) (by rfl)) rfl ?_
  refine sc rfl rfl isfn27 (c_made M A2 n2 c2 ys _ (hR2.keep hK14 (by simp)) hM hy) rfl ?_
  rintro _ w5 ⟨p2, q2, rfl, hp2, hq2, hS2', hK5⟩
  have hB3 := hB3.keep hK5 (by simp only [List.mem_cons, List.not_mem_nil, or_false, not_or, not_false_eq_true] <;> omega)
  have hK15 := hK14.trans hK5 (by simp)
  have hS' := hS.keep hK5 (by simp) (by simp)
  have hls := hS.lts
  have hsz3 := hK13.size
  have hsz4 := hK4.size
  refine st (y_move rfl) rfl ?_
  refine st (y_extract rfl rfl) rfl ?_
  refine st (y_extract rfl rfl) rfl ?_
  refine st (y_assign rfl) rfl ?_
  refine st (y_assign rfl) rfl ?_
  refine l_nil ?_
  refine q_then ?_
  refine c_seq ?_
  refine c_seq ?_
  refine c_region ?_
  refine st (y_move rfl) rfl ?_
  refine st (y_not rfl) rfl ?_
  refine st (y_move rfl) rfl ?_
  refine stg rfl rfl (y_move rfl) rfl ?_
  refine stg rfl rfl (y_not rfl) rfl ?_
  refine st (y_pickF rfl rfl) rfl ?_
  refine l_nil ?_
  refine q_then ?_
  refine c_false rfl rfl ?_
  refine c_skip ?_
  refine q_then ?_
  refine c_seq ?_
  refine c_region ?_
  refine st (y_move rfl) rfl ?_
  refine st (y_move rfl) rfl ?_
  refine sc rfl rfl isfn34 (c_Copy p q p2 q2 _ _ _ hS' hS2' (by omega) (by omega) (by omega)) rfl ?_
  rintro _ w6 ⟨rfl, hE, hK6⟩
  have hB3 := hB3.keep hK6 (by simp only [List.mem_cons, List.not_mem_nil, or_false, not_or, not_false_eq_true] <;> omega)
  have hK16 := hK15.trans hK6 (fun i hi => by simp only [List.mem_singleton] at hi; subst hi; have := hK14.size; exact .inr (by omega))
  refine st (y_assign rfl) rfl ?_
  refine l_nil ?_
  refine q_then ?_
  refine c_seq ?_
  refine c_region ?_
  refine st (y_move rfl) rfl ?_
  refine sc rfl rfl isfn28 (c_told p2 q2 _ _ (hT.keep hK16 (by simp)) hE (by omega)) rfl ?_
  rintro _ w7 ⟨A7, c7, rfl, hO7, hK7⟩
  have hB3 := hB3.keep hK7 (by simp only [List.mem_cons, List.not_mem_nil, or_false, not_or, not_false_eq_true] <;> omega)
  have hK17 := hK16.trans hK7 (by simp)
  have hsz5 := hK5.size
  have hsz6 := hK6.size
  have hsz0 := hK12.size
  refine st (y_move rfl) rfl ?_
  refine st_storeagg rfl rfl (by simp [Value.oneCell']) sz25 rfl (by assumption) (by simp) rfl ?_
  intro w8 hB8 hK8 hS8
  refine st (y_assign rfl) rfl ?_
  refine l_nil ?_
  refine q_then ?_
  refine c_ret ?_
  refine q_endct (.inl rfl) rfl rfl agg25 us25 sz25 hB8 rfl rfl ?_
  exact ⟨_, rfl, _, A7, c7, rfl, rfl, (hO7.keep hK8 (fun i hi => by simp only [List.mem_singleton] at hi; left; omega)).base (by omega), hK17.trans hK8 (fun i hi => by simp only [List.mem_singleton] at hi; exact .inr (by omega))⟩

theorem c_implCopyFull (L : Nat) (A : Option Addr) (n c : Nat) (xs : List Nat) (M : Nat) (A2 : Option Addr) (n2 c2 : Nat) (ys : List Nat) (w : World) (hT : Tb w) (hR : Rd w A n xs) (hR2 : Rd w A2 n2 ys) (hL : L ≤ 6000) (hx : ∀ x ∈ xs, x ≤ 6000) (hM : M ≤ 6000) (hy : ∀ y ∈ ys, y ≤ 6000) :
    Cal Tryd.prog 20 [aB L A n c, aB M A2 n2 c2] w fun v w' => ∃ t A' c', v = vT [aB t.length A' (nums t).length c', vU 0] ∧ t = mkS L xs ∧ Ow w' w.heap.size 22 (.slice A' (nums t).length c') ((nums t).map vU) ∧ Keep w w' [] := by
  have hlen : (mkS L xs).length ≤ 6001 := mkS_length_le L 6001 xs (by omega) fun x h => by have := hx x h; omega
  have hlen2 : (mkS M ys).length ≤ 6001 := mkS_length_le M 6001 ys (by omega) fun x h => by have := hy x h; omega
  have hT0 := hT.1
  refine go_in' Tryd.func20 rfl Tryd.ntmps20 (Nat.le_of_ble_eq_true rfl) ?_
  refine c_seq ?_
  refine c_region ?_
  refine st_box _ rfl rfl rfl ?_
  intro b1 w1 hb1 hB1 hK1 hS1
  refine st_box _ rfl rfl rfl ?_
  intro b2 w2 hb2 hB2 hK2 hS2
  have hB1 := hB1.keep hK2 (by simp only [List.mem_cons, List.not_mem_nil, or_false, not_or, not_false_eq_true] <;> omega)
  have hK12 := hK1.trans hK2 (by simp)
  refine st_alloc [.int .u64 0, .slice none 0 0] zv25 rfl rfl ?_
  intro b3 w3 hb3 hB3 hK3 hS3
  have hB1 := hB1.keep hK3 (by simp only [List.mem_cons, List.not_mem_nil, or_false, not_or, not_false_eq_true] <;> omega)
  have hB2 := hB2.keep hK3 (by simp only [List.mem_cons, List.not_mem_nil, or_false, not_or, not_false_eq_true] <;> omega)
  have hK13 := hK12.trans hK3 (by simp)
  refine st (y_assign (v := vU 0) rfl) rfl ?_
  refine l_nil ?_
  refine q_then ?_
  refine c_seq ?_
  refine c_region ?_
  refine st (y_loadagg rfl agg25 us25 sz25 (by assumption) (by simp) (by rfl)) rfl ?_
  refine sc rfl rfl isfn27 (c_made L A n c xs _ (hR.keep hK13 (by simp)) hL hx) rfl ?_
  rintro _ w4 ⟨p, q, rfl, hp, hq, hS, hK4⟩
  have hB1 := hB1.keep hK4 (by simp only [List.mem_cons, List.not_mem_nil, or_false, not_or, not_false_eq_true] <;> omega)
  have hB2 := hB2.keep hK4 (by simp only [List.mem_cons, List.not_mem_nil, or_false, not_or, not_false_eq_true] <;> omega)
  have hB3 := hB3.keep hK4 (by simp only [List.mem_cons, List.not_mem_nil, or_false, not_or, not_false_eq_true] <;> omega)
  have hK14 := hK13.trans hK4 (by simp)
  refine st (y_move rfl) rfl ?_
  refine st (y_extract rfl rfl) rfl ?_
  refine st (y_extract rfl rfl) rfl ?_
  refine st (y_assign rfl) rfl ?_
  refine st (y_assign rfl) rfl ?_
  refine l_nil ?_
  refine q_then ?_
  refine c_seq ?_
  refine c_region ?_
  refine st (y_loadagg rfl agg25 us25 sz25 (by assumption) (by simp) (by rfl)) rfl ?_
  refine sc rfl rfl isfn27 (c_made M A2 n2 c2 ys _ (hR2.keep hK14 (by simp)) hM hy) rfl ?_
  rintro _ w5 ⟨p2, q2, rfl, hp2, hq2, hS2', hK5⟩
  have hB3 := hB3.keep hK5 (by simp only [List.mem_cons, List.not_mem_nil, or_false, not_or, not_false_eq_true] <;> omega)
  have hK15 := hK14.trans hK5 (by simp)
  have hS' := hS.keep hK5 (by simp) (by simp)
  have hls := hS.lts
  have hsz3 := hK13.size
  have hsz4 := hK4.size
  refine st (y_move rfl) rfl ?_
  refine st (y_extract rfl rfl) rfl ?_
  refine st (y_extract rfl rfl) rfl ?_
  refine st (y_assign rfl) rfl ?_
  refine st (y_assign rfl) rfl ?_
  refine l_nil ?_
  refine q_then ?_
  refine c_seq ?_
  refine c_seq ?_
  refine c_region ?_
  refine st (y_move rfl) rfl ?_
  refine st (y_not rfl) rfl ?_
  refine st (y_move rfl) rfl ?_
  refine stg rfl rfl (y_move rfl) rfl ?_
  refine stg rfl rfl (y_not rfl) rfl ?_
  refine st (y_pickF rfl rfl) rfl ?_
  refine l_nil ?_
  refine q_then ?_
  refine c_false rfl rfl ?_
  refine c_skip ?_
  refine q_then ?_
  refine c_seq ?_
  refine c_region ?_
  refine st (y_move rfl) rfl ?_
  refine st (y_move rfl) rfl ?_
  refine sc rfl rfl isfn35 (c_CopyFull p q p2 q2 _ _ _ hS' hS2' (by omega) (by omega) (by omega)) rfl ?_
  rintro _ w6 ⟨rfl, q6, hE, hq6, hK6⟩
  have hB3 := hB3.keep hK6 (by simp only [List.mem_cons, List.not_mem_nil, or_false, not_or, not_false_eq_true] <;> omega)
  have hK16 := hK15.trans hK6 (fun i hi => by simp only [List.mem_cons, List.not_mem_nil, or_false] at hi; have := hK14.size; exact .inr (by omega))
  refine l_nil ?_
  refine q_then ?_
  refine c_seq ?_
  refine c_region ?_
  refine st (y_move rfl) rfl ?_
  refine sc rfl rfl isfn28 (c_told p2 q6 _ _ (hT.keep hK16 (by simp)) hE (by omega)) rfl ?_
  rintro _ w7 ⟨A7, c7, rfl, hO7, hK7⟩
  have hB3 := hB3.keep hK7 (by simp only [List.mem_cons, List.not_mem_nil, or_false, not_or, not_false_eq_true] <;> omega)
  have hK17 := hK16.trans hK7 (by simp)
  have hsz5 := hK5.size
  have hsz6 := hK6.size
  have hsz0 := hK12.size
  refine st_storeagg rfl rfl (by simp [Value.oneCell']) sz25 rfl (by assumption) (by simp) rfl ?_
  intro w8 hB8 hK8 hS8
  refine st (y_assign (v := vU 0) rfl) rfl ?_
  refine l_nil ?_
  refine q_then ?_
  refine c_ret ?_
  refine q_endct (.inl rfl) rfl rfl agg25 us25 sz25 hB8 rfl rfl ?_
  exact ⟨_, rfl, _, A7, c7, rfl, rfl, (hO7.keep hK8 (fun i hi => by simp only [List.mem_singleton] at hi; left; omega)).base (by omega), hK17.trans hK8 (fun i hi => by simp only [List.mem_singleton] at hi; exact .inr (by omega))⟩

end Go.Proofs.YtepmbglaalkbdaaDoor

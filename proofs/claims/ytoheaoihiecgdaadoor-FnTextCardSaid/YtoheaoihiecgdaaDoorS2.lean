/- FormatInt, the reference's Figures, String and the thin package's Text; each by its contract. -/
import Derived.Test.YtoheaoihiecgdaaDoorQ3
import Derived.Test.YtoheaoihiecgdaaDoorT2
import Derived.Test.YtoheaoihiecgdaaDoorO2
import Derived.Test.YtoheaoihiecgdaaDoorL27
set_option linter.unusedVariables false
set_option linter.unusedSimpArgs false
set_option maxRecDepth 100000
set_option maxHeartbeats 1000000
namespace Go.Proofs.YtoheaoihiecgdaaDoor
open Go Go.RowKit

theorem cell_one8 {w : World} {b : Nat} {t : TypeId} {x : Nat} (h : Blk w b t [v8 x]) : ∀ j, j < 1 → w.cell? ((⟨b, 0, none⟩ : Addr).add j) = some (v8 ([x].getD j 0)) := by
  intro j hj
  have e : j = 0 := by omega
  subst e
  rw [add_pt]
  exact h.cell (o := 0 + 0) rfl
theorem src_one8 {w : World} {b : Nat} {t : TypeId} {x : Nat} (h : BlkF w b t [v8 x]) : ∀ j v, ([x].map v8)[j]? = some v → w.cell? ((⟨b, 0, none⟩ : Addr).add j) = some v := by
  intro j v hv
  rw [add_pt, Nat.zero_add]
  exact h.cell hv

theorem c_FormatInt (u : Nat) (hu : u ≤ 9223372036854775807) (w : World) (hT : Tp w) : Cal Tryd.prog 24 [vI (u : Nat), vI 10] w fun v w' => v = .string (str (dec u)) ∧ Keep w w' [] := by
  refine go_in' Tryd.func24 rfl Tryd.ntmps24 (Nat.le_of_ble_eq_true rfl) ?_
  refine c_seq ?_
  refine c_region ?_
  refine st (y_assign rfl) rfl ?_
  refine l_nil ?_
  refine q_then ?_
  refine c_seq ?_
  refine c_region ?_
  refine st (y_move rfl) rfl ?_
  refine st (y_move rfl) rfl ?_
  refine sc rfl rfl isfn36 (c_FormatInt10 u hu _ hT) rfl ?_
  rintro _ w1 ⟨rfl, hK1⟩
  refine st (y_assign rfl) rfl ?_
  refine l_nil ?_
  refine q_then ?_
  refine c_ret ?_
  refine q_end1 (.inl rfl) rfl rfl ?_
  exact ⟨_, rfl, rfl, hK1⟩

theorem c_Figures (u : Nat) (hu : u < 100000) (w : World) : Cal Tryd.prog 8 [vU u] w fun v w' => v = .string (str (dec u)) ∧ Keep w w' [] := by
  have hul := (dec_len u hu).2
  refine go_in' Tryd.func8 rfl Tryd.ntmps8 (Nat.le_of_ble_eq_true rfl) ?_
  refine c_seq ?_
  refine c_region ?_
  refine st (y_assign rfl) rfl ?_
  refine l_nil ?_
  refine q_then ?_
  refine c_seq ?_
  refine c_region ?_
  refine st (y_assign rfl) rfl ?_
  refine l_nil ?_
  refine q_then ?_
  refine c_block ?_
  refine c_loop (fun x : Nat × List Nat => [(0, vU x.1), (3, .string (str x.2))]) (fun x w' => x.1 < 100000 ∧ dec u = dec x.1 ++ x.2 ∧ Keep w w' []) (fun x => x.1) (u, []) ?_ ?_ ?_
  · exact ⟨rfl, rfl, trivial⟩
  · exact ⟨hu, by simp, Keep.refl _ _⟩
  · rintro ⟨m, acc⟩ w1 ⟨hm, hd, hK⟩
    simp only at hm hd ⊢
    have hl2 : acc.length ≤ 5 := by
      have := congrArg List.length hd
      rw [List.length_append] at this
      omega
    have hmod : (48 + m % 10) % 256 = 48 + m % 10 := by omega
    refine c_block ?_
    refine c_seq ?_
    refine c_region ?_
    refine st (y_move rfl) rfl ?_
    refine st (y_rem_u (b := 10) rfl rfl (by omega)) rfl ?_
    refine st (y_add_u (a := 48) rfl rfl (by omega)) rfl ?_
    refine st (y_conv_u8 rfl us22 Tryd.underlying5) rfl ?_
    rw [hmod]
    refine st_buildSlice [v8 (48 + m % 10)] Tryd.underlying34 sz5 zv5 rfl (by decide) (by decide) (by kernel_rfl) rfl ?_
    intro b2 w2 hb2 hB2 hK2 hS2
    have hK12 := hK.trans hK2 (by simp)
    refine st (y_convBS (xs := [48 + m % 10]) rfl Tryd.underlying34 Tryd.underlying5 Tryd.underlying9 rfl (by simp; omega) (cell_one8 hB2)) rfl ?_
    refine st (y_move rfl) rfl ?_
    refine st (y_catS rfl rfl (by rw [str_size, str_size]; simp; omega)) rfl ?_
    rw [← str_append]
    refine st (y_assign rfl) rfl ?_
    refine l_nil ?_
    refine q_then ?_
    refine c_seq ?_
    refine c_region ?_
    refine st (y_move rfl) rfl ?_
    refine st (y_quo_u (b := 10) rfl rfl (by omega) (by omega)) rfl ?_
    refine st (y_assign rfl) rfl ?_
    refine l_nil ?_
    refine q_then ?_
    refine c_seq ?_
    refine c_region ?_
    refine st (y_move rfl) rfl ?_
    refine st_if (y_eq_u (b := 0) rfl rfl) rfl (fun h0 => ?_) (fun h0 => ?_)
    · have e : dec m = [48 + m % 10] := by rw [dec_small (by omega)]; congr 1; omega
      refine l_nil ?_
      refine q_then ?_
      refine c_true rfl rfl ?_
      refine c_seq ?_
      refine c_region ?_
      refine st (y_move rfl) rfl ?_
      refine st (y_assign rfl) rfl ?_
      refine l_nil ?_
      refine q_then ?_
      refine c_ret ?_
      refine q_block_ret ?_
      refine q_then_ret ?_
      refine q_block_ret ?_
      refine q_end1 (.inl rfl) rfl rfl ?_
      exact ⟨_, rfl, by rw [hd, e], hK12⟩
    ·
      have e : dec m = dec (m / 10) ++ [48 + m % 10] := dec_big (by omega)
      refine l_nil ?_
      refine q_then ?_
      refine c_false rfl rfl ?_
      refine c_skip ?_
      refine q_block ?_
      exact q_round (m / 10, [48 + m % 10] ++ acc) ⟨rfl, rfl, trivial⟩ ⟨by omega, by rw [hd, e, List.append_assoc], hK12⟩ (by simp only; omega)

theorem c_String (p q : Nat) (s : List Bool) (w : World) (hT : Tb w) (hTp : Tp w) (hB : BSet w p q s) (hs : s.length ≤ 6001) :
    Cal Tryd.prog 15 [vP p] w fun v w' => v = .string (str ([123] ++ jn (nums s) ++ [125])) ∧ Keep w w' [] := by
  have hpq := hB.lts
  have hcl := nums_length s
  have hcl2 := count_le s
  have hnb : ∀ i, ∀ x ∈ nums (s.take i), x < 100000 := fun i x hx => by
    have := nums_lt _ x hx
    have := List.length_take_le' i s
    omega
  refine go_in' Tryd.func15 rfl Tryd.ntmps15 (Nat.le_of_ble_eq_true rfl) ?_
  refine c_seq ?_
  refine c_region ?_
  refine st (y_assign rfl) rfl ?_
  refine l_nil ?_
  refine q_then ?_
  refine c_seq ?_
  refine c_region ?_
  refine st_alloc [.slice none 0 0, .int .i64 0, .int .i8 0] zv48 rfl rfl ?_
  intro b w1 hb hB1 hK1 hS1
  have hN1 : Buf w1 b b [] := .inl ⟨rfl, rfl, 0, hB1⟩
  refine l_nil ?_
  refine q_then ?_
  refine c_seq ?_
  refine c_region ?_
  refine st_buildSlice [v8 123] Tryd.underlying34 sz5 zv5 rfl (by decide) (by decide) (by kernel_rfl) rfl ?_
  intro b2 w2 hb2 hB2 hK2 hS2
  have hN2 := hN1.keep hK2 (by simp) (by simp)
  have hK12 := hK1.trans hK2 (by simp)
  have hl1 := hB1.lt
  have hl2 := hB2.lt
  refine st_convM rfl Tryd.underlying34 Tryd.underlying5 hB2 rfl ?_
  intro w2' hB2' hK2' hS2'
  have hN2 := hN2.keep hK2' (by simp only [List.mem_singleton]; omega) (by simp only [List.mem_singleton]; omega)
  have hK12 : Keep w w2' [] := hK12.trans hK2' (fun j hj => by simp only [List.mem_singleton] at hj; exact .inr (by have := hK1.size; omega))
  have hl2 := hB2'.lt
  refine st (y_assign rfl) rfl ?_
  refine l_nil ?_
  refine q_then ?_
  refine c_seq ?_
  refine c_region ?_
  refine st (y_move rfl) rfl ?_
  refine sc rfl rfl isfn21 (c_Write b b [] _ hN2 (by simp) ⟨b2, 0, none⟩ 1 1 [123] (by omega) (by omega) rfl (by simp) (src_one8 hB2') hl2 (by simp only; omega) (by simp only; omega) (fun _ => by omega)) rfl ?_
  rintro _ w3 ⟨rfl, r3, hN3, hr3, hK3⟩
  have hK13 : Keep w w3 [] := hK12.trans hK3 (fun i hi => by simp only [List.mem_cons, List.not_mem_nil, or_false] at hi; exact .inr (by omega))
  have hsz2 := hK12.size
  have hwb : w.heap.size ≤ b := by omega
  have hwr : w.heap.size ≤ r3 := by omega
  refine l_nil ?_
  refine q_then ?_
  refine c_seq ?_
  refine c_region ?_
  refine st (y_assign (v := vI ((0 : Nat) : Int)) rfl) rfl ?_
  refine l_nil ?_
  refine q_then ?_
  refine c_seq ?_
  refine c_region ?_
  refine st (y_move rfl) rfl ?_
  refine sc rfl rfl isfn22 (c_NextSet p q s 0 _ (hT.keep hK13 (by simp)) (hB.keep hK13 (by simp) (by simp)) (by omega) (by omega)) rfl ?_
  rintro u4 w4 ⟨hK4, hres⟩
  have hK14 := hK13.trans hK4 (by simp)
  have hN4 := hN3.keep hK4 (by simp) (by simp)
  obtain ⟨x0, ok0, hv0, hx0⟩ : ∃ x ok, u4 = vT [vU x, vB ok] ∧ ((ok = true ∧ Nxt s 0 x) ∨ (ok = false ∧ Non s 0)) := by
    rcases hres with ⟨x, e, h⟩ | ⟨e, h⟩
    · exact ⟨x, true, e, .inl ⟨rfl, h⟩⟩
    · exact ⟨0, false, e, .inr ⟨rfl, h⟩⟩
  subst hv0
  refine st (y_move rfl) rfl ?_
  refine st (y_extract rfl rfl) rfl ?_
  refine st (y_extract rfl rfl) rfl ?_
  refine st (y_assign rfl) rfl ?_
  refine st (y_assign rfl) rfl ?_
  refine l_nil ?_
  refine q_then ?_
  refine c_seq ?_
  refine c_block ?_
  refine c_loop (fun x : Nat × Bool × Nat => [(0, vP p), (3, vP b), (5, vI (x.2.2 : Nat)), (6, vU x.1), (7, vB x.2.1)]) (fun x w' => Keep w w' [] ∧ ∃ i r, i ≤ 100000 ∧ (nums (s.take i)).length = x.2.2 ∧ Buf w' b r ([123] ++ jn (nums (s.take i)) ++ (if x.2.1 = true ∧ nums (s.take i) ≠ [] then [44] else [])) ∧ w.heap.size ≤ r ∧ ((x.2.1 = true ∧ Nxt s i x.1) ∨ (x.2.1 = false ∧ Non s i))) (fun x => if x.2.1 then s.length - x.1 + 1 else 0) (x0, ok0, 0) ?_ ?_ ?_
  · exact ⟨rfl, rfl, rfl, rfl, rfl, trivial⟩
  · refine ⟨hK14, 0, r3, by omega, rfl, ?_, hwr, hx0⟩
    have e : ([123] ++ jn (nums (s.take 0)) ++ (if ok0 = true ∧ nums (s.take 0) ≠ [] then [44] else [])) = [] ++ [123] := by
      rw [List.take_zero]
      simp [nums, numsFrom, jn_nil]
    simp only
    rw [e]; exact hN4
  · clear hN4 hN3 hK14 hK13 hx0 hwr hr3 hK3 hK4 hres
    rintro ⟨x, ok, k⟩ w5 ⟨hK5, i, r, hi, hk, hN5, hwr, hx⟩
    simp only at hk hN5 hx ⊢
    obtain ⟨P, hP⟩ : ∃ P, nums (s.take i) = P := ⟨_, rfl⟩
    have hPb := hnb i
    rw [hP] at hPb hk hN5
    have hjl := jn_len P hPb
    have hkc : k ≤ 6001 := by
      have h1 := nums_length (s.take i)
      have h2 := count_le (s.take i)
      have h3 := List.length_take_le' i s
      rw [hP] at h1
      omega
    rcases hx with ⟨rfl, hnx⟩ | ⟨rfl, hno⟩
    ·
      have hxl := hnx.lt
      have hnn := hnx.nums
      rw [hP] at hnn
      have hdl := dec_len x (by omega)
      have hPb2 : ∀ y ∈ P ++ [x], y < 100000 := by
        intro y hy
        rcases List.mem_append.1 hy with h | h
        · exact hPb y h
        · simp only [List.mem_singleton] at h
          omega
      have hjl2 := jn_len (P ++ [x]) hPb2
      have hil : ((if True ∧ P ≠ [] then [44] else []) : List Nat).length ≤ 1 := by split <;> simp
      simp only [true_and] at hN5 hil
      refine c_seq ?_
      refine c_seq ?_
      refine c_region ?_
      refine st (y_move rfl) rfl ?_
      refine l_nil ?_
      refine q_then ?_
      refine c_true rfl rfl ?_
      refine c_skip ?_
      refine q_then ?_
      refine c_block ?_
      refine c_seq ?_
      refine c_region ?_
      refine st (y_move rfl) rfl ?_
      first | refine st (y_add_in (b := 1) rfl rfl (by omega)) rfl ?_ | refine st (y_add_i (b := 1) rfl rfl (by omega) (by omega)) rfl ?_
      refine st (y_assign rfl) rfl ?_
      refine l_nil ?_
      refine q_then ?_
      refine c_seq ?_
      refine c_seq ?_
      refine c_region ?_
      refine st (y_move rfl) rfl ?_
      refine st_f (y_gt_i (b := 262144) rfl rfl) (by omega) rfl ?_
      refine l_nil ?_
      refine q_then ?_
      refine c_false rfl rfl ?_
      refine c_skip ?_
      refine q_then ?_
      refine c_seq ?_
      refine c_region ?_
      refine st (y_move rfl) rfl ?_
      refine st (y_conv_ui rfl us22 Tryd.underlying2 (by omega)) rfl ?_
      refine sc rfl rfl isfn24 (c_FormatInt x (by omega) _ (hTp.keep hK5 (by simp))) rfl ?_
      rintro _ w6 ⟨rfl, hK6⟩
      have hK16 := hK5.trans hK6 (by simp)
      have hN6 := hN5.keep hK6 (by simp) (by simp)
      refine sc rfl rfl isfn23 (c_WriteString b r _ _ hN6 (by simp only [List.length_append, List.length_singleton]; omega) (dec x) (by omega) (by omega) (dec_lt x) (fun h => by simp at h)) rfl ?_
      rintro _ w7 ⟨rfl, r7, hN7, hr7, hK7⟩
      have hK17 : Keep w w7 [] := hK16.trans hK7 (fun j hj => by simp only [List.mem_cons, List.not_mem_nil, or_false] at hj; exact .inr (by omega))
      have hsz6 := hK16.size
      have ej : [123] ++ jn P ++ (if P ≠ [] then [44] else []) ++ dec x = [123] ++ jn (P ++ [x]) := by
        rw [jn_snoc]
        by_cases h : P = [] <;> simp [h]
      rw [ej] at hN7
      have hwr7 : w.heap.size ≤ r7 := by omega
      refine l_nil ?_
      refine q_then ?_
      refine c_seq ?_
      refine c_region ?_
      refine st (y_move rfl) rfl ?_
      refine st (y_move rfl) rfl ?_
      refine st (y_add_u (b := 1) rfl rfl (by omega)) rfl ?_
      refine sc rfl rfl isfn22 (c_NextSet p q s (x + 1) _ (hT.keep hK17 (by simp)) (hB.keep hK17 (by simp) (by simp)) (by omega) (by omega)) rfl ?_
      rintro u9 w9 ⟨hK9, hres9⟩
      have hK19 := hK17.trans hK9 (by simp)
      have hN9 := hN7.keep hK9 (by simp) (by simp)
      rcases hres9 with ⟨x9, rfl, hx9⟩ | ⟨rfl, hx9⟩
      · refine st (y_move rfl) rfl ?_
        refine st (y_extract rfl rfl) rfl ?_
        refine st (y_extract rfl rfl) rfl ?_
        refine st (y_assign rfl) rfl ?_
        refine st (y_assign rfl) rfl ?_
        refine l_nil ?_
        refine q_then ?_
        refine c_seq ?_
        refine c_region ?_
        refine st (y_move rfl) rfl ?_
        refine l_nil ?_
        refine q_then ?_
        refine c_true rfl rfl ?_
        refine c_region ?_
        refine sc rfl rfl isfn23 (c_WriteString b r7 _ _ hN9 (by simp only [List.length_append, List.length_singleton] at hjl2 ⊢; omega) [44] (by simp) (by simp) (by simp) (fun h => by simp at h)) rfl ?_
        rintro _ w10 ⟨rfl, r10, hN10, hr10, hK10⟩
        refine l_nil ?_
        refine q_block ?_
        have hsz9 := hK19.size
        refine q_round (x9, true, k + 1) ⟨rfl, rfl, rfl, rfl, rfl, trivial⟩ ⟨hK19.trans hK10 (fun j hj => by simp only [List.mem_cons, List.not_mem_nil, or_false] at hj; exact .inr (by omega)), x + 1, r10, by omega, by rw [hnn]; simp; omega, ?_, by omega, .inl ⟨rfl, hx9⟩⟩ ?_
        · rw [hnn]
          simpa using hN10
        · simp only [if_true]
          have := hx9.1
          omega
      ·
        refine st (y_move rfl) rfl ?_
        refine st (y_extract rfl rfl) rfl ?_
        refine st (y_extract rfl rfl) rfl ?_
        refine st (y_assign rfl) rfl ?_
        refine st (y_assign rfl) rfl ?_
        refine l_nil ?_
        refine q_then ?_
        refine c_seq ?_
        refine c_region ?_
        refine st (y_move rfl) rfl ?_
        refine l_nil ?_
        refine q_then ?_
        refine c_false rfl rfl ?_
        refine c_skip ?_
        refine q_block ?_
        refine q_round (0, false, k + 1) ⟨rfl, rfl, rfl, rfl, rfl, trivial⟩ ⟨hK19, x + 1, r7, by omega, by rw [hnn]; simp; omega, ?_, by omega, .inr ⟨rfl, hx9⟩⟩ ?_
        · rw [hnn]
          simpa using hN9
        · simp
    ·
      have hnn := hno.nums
      rw [hP] at hnn
      simp only [Bool.false_eq_true, false_and, if_false, List.append_nil] at hN5
      refine c_seq ?_
      refine c_seq ?_
      refine c_region ?_
      refine st (y_move rfl) rfl ?_
      refine l_nil ?_
      refine q_then ?_
      refine c_false rfl rfl ?_
      refine c_exit ?_
      refine q_then_exit ?_
      refine q_then_exit ?_
      refine q_block_hit ?_
      refine q_then ?_
      refine c_seq ?_
      refine c_region ?_
      refine sc rfl rfl isfn23 (c_WriteString b r _ _ hN5 (by simp only [List.length_append, List.length_singleton]; omega) [125] (by simp) (by simp) (by simp) (fun h => by simp at h)) rfl ?_
      rintro _ w7 ⟨rfl, r7, hN7, hr7, hK7⟩
      have hsz5 := hK5.size
      have hK17 : Keep w w7 [] := hK5.trans hK7 (fun j hj => by simp only [List.mem_cons, List.not_mem_nil, or_false] at hj; exact .inr (by omega))
      refine l_nil ?_
      refine q_then ?_
      refine c_seq ?_
      refine c_region ?_
      refine sc rfl rfl isfn25 (c_BString b r7 _ _ hN7 (.inl (by simp))) rfl ?_
      rintro _ _ ⟨rfl, rfl⟩
      refine st (y_assign rfl) rfl ?_
      refine l_nil ?_
      refine q_then ?_
      refine c_ret ?_
      refine q_end1 (.inl rfl) rfl rfl ?_
      exact ⟨_, rfl, by rw [hnn], hK17.trans (Keep.drew w7 []) (by simp)⟩

theorem c_implText (L : Nat) (A : Option Addr) (n c : Nat) (xs : List Nat) (w : World) (hT : Tb w) (hTp : Tp w) (hR : Rd w A n xs) (hL : L ≤ 6000) (hx : ∀ x ∈ xs, x ≤ 6000) :
    Cal Tryd.prog 9 [aB L A n c] w fun v w' => v = .string (str ([123] ++ jn (nums (mkS L xs)) ++ [125])) ∧ Keep w w' [] := by
  have hlen : (mkS L xs).length ≤ 6001 := mkS_length_le L 6001 xs (by omega) fun x h => by have := hx x h; omega
  refine go_in' Tryd.func9 rfl Tryd.ntmps9 (Nat.le_of_ble_eq_true rfl) ?_
  refine c_seq ?_
  refine c_region ?_
  refine st_box _ rfl rfl rfl ?_
  intro b1 w1 hb1 hB1 hK1 hS1
  refine st (y_assign rfl) rfl ?_
  refine l_nil ?_
  refine q_then ?_
  refine c_seq ?_
  refine c_region ?_
  refine st (y_loadagg rfl agg25 us25 sz25 (by assumption) (by simp) (by rfl)) rfl ?_
  refine sc rfl rfl isfn14 (c_made L A n c xs _ (hR.keep hK1 (by simp)) hL hx) rfl ?_
  rintro _ w3 ⟨p, q, rfl, hp, hq, hS, hK3⟩
  have hK13 := hK1.trans hK3 (by simp)
  refine st (y_move rfl) rfl ?_
  refine st (y_extract rfl rfl) rfl ?_
  refine st (y_extract rfl rfl) rfl ?_
  refine st (y_assign rfl) rfl ?_
  refine st (y_assign rfl) rfl ?_
  refine l_nil ?_
  refine q_then ?_
  refine c_seq ?_
  refine c_seq ?_
  refine c_region ?_
  refine st (y_move rfl) rfl ?_
  refine st (y_not rfl) rfl ?_
  refine l_nil ?_
  refine q_then ?_
  refine c_false rfl rfl ?_
  refine c_skip ?_
  refine q_then ?_
  refine c_seq ?_
  refine c_region ?_
  refine st (y_move rfl) rfl ?_
  refine sc rfl rfl isfn15 (c_String p q _ _ (hT.keep hK13 (by simp)) (hTp.keep hK13 (by simp)) hS hlen) rfl ?_
  rintro _ w4 ⟨rfl, hK4⟩
  refine st (y_assign rfl) rfl ?_
  refine l_nil ?_
  refine q_then ?_
  refine c_ret ?_
  refine q_end1 (.inl rfl) rfl rfl ?_
  exact ⟨_, rfl, rfl, hK13.trans hK4 (by simp)⟩

end Go.Proofs.YtoheaoihiecgdaaDoor

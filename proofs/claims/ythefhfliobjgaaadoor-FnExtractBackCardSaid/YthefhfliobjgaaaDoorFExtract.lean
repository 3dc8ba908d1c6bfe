/- The places that a mask has are packed, and spread to: the statement's own walk. -/
import Derived.Test.YthefhfliobjgaaaDoorH3
import Derived.Test.YthefhfliobjgaaaDoorD2
import Derived.Test.YthefhfliobjgaaaDoorK14
set_option linter.unusedVariables false
set_option linter.unusedSimpArgs false
set_option maxRecDepth 100000
set_option maxHeartbeats 1000000
namespace Go.Proofs.YthefhfliobjgaaaDoor
open Go Go.RowKit

theorem spr_length_le (f : Nat → Bool) (xs : List Nat) : ∀ j, (spr f j xs).length ≤ xs.length := by
  induction xs with
  | nil => intro j; simp [spr]
  | cons x r ih =>
    intro j
    have := ih (j + 1)
    simp only [spr, List.length_append, List.length_cons]
    split
    · simp only [List.length_cons, List.length_nil]; omega
    · simp only [List.length_nil]; omega
/-- two lists of numbers that the call appends to, each in a row of its own -/
structure Two (w0 w : World) (b6 b7 pb pc sb sc : Nat) (P S : List Nat) : Prop where
  keep : Keep w0 w [b6, b7]
  p6 : b6 ≤ pb
  s6 : b6 ≤ sb
  ne : pb ≠ sb
  pl : pb = b6 ∨ pb = b7 ∨ w0.heap.size ≤ pb
  sl : sb = b6 ∨ sb = b7 ∨ w0.heap.size ≤ sb
  pw : pb < w.heap.size
  sw : sb < w.heap.size
  po : Ow w b6 22 (vS pb P.length pc) (P.map vU)
  so : Ow w b6 22 (vS sb S.length sc) (S.map vU)
theorem Ow.at {w : World} {base b n c : Nat} {e : TypeId} {xs : List Value} (h : Ow w base e (vS b n c) xs) : b < w.heap.size ∧ base ≤ b ∧ ∃ tail, Blk w b e (xs ++ tail) ∧ n = xs.length ∧ c = xs.length + tail.length ∧ c ≤ maxLen := by
  rcases h with ⟨h1, _⟩ | ⟨b', c', tail, h1, h2, h3, h4, h5⟩
  · cases h1
  · cases h1
    exact ⟨h3.lt, h2, tail, h3, rfl, h4, h5⟩
theorem Ow.keepA {w w' : World} {base b n c : Nat} {e : TypeId} {xs : List Value} {L : List Nat} (h : Ow w base e (vS b n c) xs) (k : Keep w w' L) (hn : b ∉ L) : Ow w' base e (vS b n c) xs := by
  obtain ⟨_, h2, tail, h3, rfl, h5, h6⟩ := h.at
  exact .inr ⟨b, c, tail, rfl, h2, h3.keep k hn, h5, h6⟩
theorem Two.first {w0 w1 w2 w3 : World} {b6 b7 pb pc sb sc b' c' : Nat} {P S P' : List Nat} (h : Two w0 w1 b6 b7 pb pc sb sc P S) (k1 : Keep w1 w2 []) (hb : b' = pb ∨ b' = w2.heap.size) (hO : Ow w3 b6 22 (vS b' P'.length c') (P'.map vU)) (k2 : Keep w2 w3 [pb]) : Two w0 w3 b6 b7 b' c' sb sc P' S := by
  have s0 := h.keep.size
  have s1 := k1.size
  have s2 := k2.size
  have hp6 := h.p6; have hs6 := h.s6; have hne := h.ne; have hpl := h.pl; have hsl := h.sl; have hpw := h.pw; have hsw := h.sw
  refine ⟨(h.keep.trans k1 (by simp)).trans k2 (fun i hi => ?_), by omega, hs6, by omega, by omega, hsl, hO.at.1, by omega, hO, (h.so.keepA k1 (by simp)).keepA k2 (by simp only [List.mem_singleton]; omega)⟩
  simp only [List.mem_singleton] at hi
  subst hi
  simp only [List.mem_cons, List.not_mem_nil, or_false]; omega
theorem Two.second {w0 w1 w2 w3 : World} {b6 b7 pb pc sb sc b' c' : Nat} {P S S' : List Nat} (h : Two w0 w1 b6 b7 pb pc sb sc P S) (k1 : Keep w1 w2 []) (hb : b' = sb ∨ b' = w2.heap.size) (hO : Ow w3 b6 22 (vS b' S'.length c') (S'.map vU)) (k2 : Keep w2 w3 [sb]) : Two w0 w3 b6 b7 pb pc b' c' P S' := by
  have s0 := h.keep.size
  have s1 := k1.size
  have s2 := k2.size
  have hp6 := h.p6; have hs6 := h.s6; have hne := h.ne; have hpl := h.pl; have hsl := h.sl; have hpw := h.pw; have hsw := h.sw
  refine ⟨(h.keep.trans k1 (by simp)).trans k2 (fun i hi => ?_), hp6, by omega, by omega, hpl, by omega, by omega, hO.at.1, (h.po.keepA k1 (by simp)).keepA k2 (by simp only [List.mem_singleton]; omega), hO⟩
  simp only [List.mem_singleton] at hi
  subst hi
  simp only [List.mem_cons, List.not_mem_nil, or_false]; omega
theorem Ow.blk {w : World} {base n c : Nat} {e : TypeId} {ad : Addr} {xs : List Value} (h : Ow w base e (.slice (some ad) n c) xs) : base ≤ ad.block := by
  rcases h with ⟨h1, _⟩ | ⟨b, c', tail, h1, h2, _⟩
  · cases h1
  · simp only [vS, Value.slice.injEq, Option.some.injEq] at h1
    rw [h1.1]; exact h2
theorem snoc_len {P : List Nat} {x : Nat} : (P.map vU).length + 1 = (P ++ [x]).length := by simp
theorem snoc_map {P : List Nat} {x : Nat} : P.map vU ++ [vU x] = (P ++ [x]).map vU := by simp

theorem c_FnExtract (L : Nat) (A : Option Addr) (n c : Nat) (xs : List Nat) (M : Nat) (A2 : Option Addr) (n2 c2 : Nat) (ys : List Nat) (w : World) (hT : Tb w) (hR : Rd w A n xs) (hR2 : Rd w A2 n2 ys) :
    Cal Tryd.prog 3 [aB L A n c, aB M A2 n2 c2] w fun v w' => v = vB true ∧ Keep w w' [] := by
  have hT0 := hT.1
  refine go_in' Tryd.func3 rfl Tryd.ntmps3 (Nat.le_of_ble_eq_true rfl) ?_
  refine c_seq ?_
  refine c_region ?_
  refine st_box _ rfl rfl rfl ?_
  intro b1 w1 hb1 hB1 hK1 hS1
  refine st_box _ rfl rfl rfl ?_
  intro b2 w2 hb2 hB2 hK2 hS2
  have hB1 := hB1.keep hK2 (by simp only [List.mem_cons, List.not_mem_nil, or_false, not_or, not_false_eq_true] <;> omega)
  have hK12 := hK1.trans hK2 (by simp)
  refine st (y_assign rfl) rfl ?_
  refine l_nil ?_
  refine q_then ?_
  refine c_seq ?_
  refine c_seq ?_
  refine c_region ?_
  refine st (y_loadagg rfl agg25 us25 sz25 (by assumption) (by simp) (by rfl)) rfl ?_
  refine sc rfl rfl isfn5 (c_zzFits1 L A n c _) rfl ?_
  rintro _ w3 ⟨rfl, hK3⟩
  have hB1 := hB1.keep hK3 (by simp only [List.mem_cons, List.not_mem_nil, or_false, not_or, not_false_eq_true] <;> omega)
  have hB2 := hB2.keep hK3 (by simp only [List.mem_cons, List.not_mem_nil, or_false, not_or, not_false_eq_true] <;> omega)
  have hK13 := hK12.trans hK3 (by simp)
  clear hK1 hK2 hK12 hK3
  refine st (y_not rfl) rfl ?_
  obtain ⟨z, hz⟩ : ∃ z, (!decide (n ≤ 2147483647)) = z := ⟨_, rfl⟩
  rw [hz]
  cases z
  ·
    refine st (y_move rfl) rfl ?_
    refine stg rfl rfl (y_loadagg rfl agg25 us25 sz25 (by assumption) (by simp) (by rfl)) rfl ?_
    refine scg rfl rfl rfl rfl isfn5 (c_zzFits1 M A2 n2 c2 _) rfl ?_
    rintro _ w4 ⟨rfl, hK4⟩
    have hB1 := hB1.keep hK4 (by simp only [List.mem_cons, List.not_mem_nil, or_false, not_or, not_false_eq_true] <;> omega)
    have hB2 := hB2.keep hK4 (by simp only [List.mem_cons, List.not_mem_nil, or_false, not_or, not_false_eq_true] <;> omega)
    have hK14 := hK13.trans hK4 (by simp)
    clear hK4 hK13
    refine stg rfl rfl (y_not rfl) rfl ?_
    refine st (y_pickF rfl rfl) rfl ?_
    refine l_nil ?_
    refine q_then ?_
    refine c_ifb rfl (fun hz2 => ?_) (fun hz2 => ?_)
    · refine c_seq ?_
      refine c_region ?_
      refine st (y_assign rfl) rfl ?_
      refine l_nil ?_
      refine q_then ?_
      refine c_ret ?_
      refine q_then_ret ?_
      refine q_end1 (.inl rfl) rfl rfl ?_
      exact ⟨_, rfl, rfl, hK14⟩
    ·
      refine c_skip ?_
      refine q_then ?_
      refine c_seq ?_
      refine c_region ?_
      refine st (y_loadagg rfl agg25 us25 sz25 (by assumption) (by simp) (by rfl)) rfl ?_
      refine st (y_loadagg rfl agg25 us25 sz25 (by assumption) (by simp) (by rfl)) rfl ?_
      refine sc rfl rfl isfn6 (c_lawsBoth L A n c xs M A2 n2 c2 ys _ (hR.keep hK14 (by simp)) (hR2.keep hK14 (by simp))) rfl ?_
      rintro _ w5 ⟨hK5, ⟨ho, ho2, b, b', rfl, hBl, hBl2, hb, hb'⟩ | ⟨x, y, rfl⟩⟩
      · have hB1 := hB1.keep hK5 (by simp only [List.mem_cons, List.not_mem_nil, or_false, not_or, not_false_eq_true] <;> omega)
        have hB2 := hB2.keep hK5 (by simp only [List.mem_cons, List.not_mem_nil, or_false, not_or, not_false_eq_true] <;> omega)
        have hK15 := hK14.trans hK5 (by simp)
        have hl15 := hB1.lt
        have hl25 := hB2.lt
        have hls := ho.len
        have hlt := ho2.len
        clear hK5 hK14
        obtain ⟨s, hs⟩ : ∃ s, mkS L xs = s := ⟨_, rfl⟩
        obtain ⟨m, hm⟩ : ∃ m, mkS M ys = m := ⟨_, rfl⟩
        rw [hs] at hBl hls ⊢
        rw [hm] at hBl2 hlt ⊢
        have hcm := count_le m
        have hnl := nums_length m
        refine st (y_move rfl) rfl ?_
        refine st (y_extract rfl rfl) rfl ?_
        refine st (y_extract rfl rfl) rfl ?_
        refine st (y_extract rfl rfl) rfl ?_
        refine st (y_assign rfl) rfl ?_
        refine st (y_assign rfl) rfl ?_
        refine st (y_assign rfl) rfl ?_
        refine l_nil ?_
        refine q_then ?_
        refine c_seq ?_
        refine c_seq ?_
        refine c_region ?_
        refine st (y_move rfl) rfl ?_
        refine st (y_not rfl) rfl ?_
        refine l_nil ?_
        refine q_then ?_
        refine c_false rfl rfl ?_
        refine c_skip ?_
        refine q_then ?_
        refine c_seq ?_
        refine c_region ?_
        refine st_buildSlice0 Tryd.underlying23 sz22 rfl ?_
        intro b6 w6 hb6 hB6 hK6 hS6
        have hB1 := hB1.keep hK6 (by simp only [List.mem_cons, List.not_mem_nil, or_false, not_or, not_false_eq_true] <;> omega)
        have hB2 := hB2.keep hK6 (by simp only [List.mem_cons, List.not_mem_nil, or_false, not_or, not_false_eq_true] <;> omega)
        refine st_buildSlice0 Tryd.underlying23 sz22 rfl ?_
        intro b7 w7 hb7 hB7 hK7 hS7
        have hB1 := hB1.keep hK7 (by simp only [List.mem_cons, List.not_mem_nil, or_false, not_or, not_false_eq_true] <;> omega)
        have hB2 := hB2.keep hK7 (by simp only [List.mem_cons, List.not_mem_nil, or_false, not_or, not_false_eq_true] <;> omega)
        have hB6 := hB6.keep hK7 (by simp only [List.mem_cons, List.not_mem_nil, or_false, not_or, not_false_eq_true] <;> omega)
        have hK17 := (hK15.trans hK6 (by simp)).trans hK7 (by simp)
        have hBl7 := (hBl.keep hK6 (by simp)).keep hK7 (by simp)
        have hBm7 := (hBl2.keep hK6 (by simp)).keep hK7 (by simp)
        refine st (y_assign rfl) rfl ?_
        refine st (y_assign rfl) rfl ?_
        refine l_nil ?_
        refine q_then ?_
        refine c_seq ?_
        refine c_seq ?_
        refine c_region ?_
        refine st (y_move rfl) rfl ?_
        refine sc rfl rfl isfn7 (c_Numbers b' m _ hBm7 (by omega)) rfl ?_
        rintro v8 w8 ⟨hO8, hK8⟩
        have hB1 := hB1.keep hK8 (by simp only [List.mem_cons, List.not_mem_nil, or_false, not_or, not_false_eq_true] <;> omega)
        have hB2 := hB2.keep hK8 (by simp only [List.mem_cons, List.not_mem_nil, or_false, not_or, not_false_eq_true] <;> omega)
        have hB6 := hB6.keep hK8 (by simp only [List.mem_cons, List.not_mem_nil, or_false, not_or, not_false_eq_true] <;> omega)
        have hB7 := hB7.keep hK8 (by simp only [List.mem_cons, List.not_mem_nil, or_false, not_or, not_false_eq_true] <;> omega)
        have hK18 := hK17.trans hK8 (by simp)
        have hBl8 := hBl7.keep hK8 (by simp)
        have hsz15 := hK15.size
        have hbl := hBl.lt
        have hsz8 := hK8.size
        obtain ⟨NA, Nc, rfl, hRN⟩ := hO8.rd
        have hNb : ∀ ad, NA = some ad → b6 < ad.block ∧ b7 < ad.block := by
          intro ad e
          subst e
          have := hO8.blk
          omega
        have hO6 : Ow w8 b6 22 (vS b6 0 0) ([] : List Value) := Ow.empty hB6 (Nat.le_refl _)
        have hO7 : Ow w8 b6 22 (vS b7 0 0) ([] : List Value) := Ow.empty hB7 (by omega)
        have hlt1 := hB1.lt
        have hlt2 := hB2.lt
        have hbs1 : b1 < b6 ∧ b2 < b6 ∧ b < b6 := by omega
        rw [hnl] at hRN ⊢
        refine st (y_len rfl Tryd.underlying23) rfl ?_
        refine st (y_move (v := vI ((0 : Nat) : Int)) rfl) rfl ?_
        refine l_nil ?_
        refine q_then ?_
        refine c_block ?_
        obtain ⟨Pk, hPk⟩ : ∃ f : Nat → List Nat, f = fun k => nums (((nums m).take k).map fun y => s.getD y false) := ⟨_, rfl⟩
        obtain ⟨Sk, hSk⟩ : ∃ f : Nat → List Nat, f = fun k => spr (fun k => s.getD k false) 0 ((nums m).take k) := ⟨_, rfl⟩
        have hP0 : Pk 0 = [] := by rw [hPk]; rfl
        have hS0 : Sk 0 = [] := by rw [hSk]; rfl
        refine c_loop (fun x : Nat × Nat × Nat × Nat × Nat => [(2, vP b1), (3, vP b2), (5, vS b s.length s.length), (8, vS x.2.1 (Pk x.1).length x.2.2.1), (9, vS x.2.2.2.1 (Sk x.1).length x.2.2.2.2), (32, .slice NA (count m) Nc), (33, vI (count m : Nat)), (34, vI (x.1 : Nat))]) (fun x w' => x.1 ≤ count m ∧ Two w8 w' b6 b7 x.2.1 x.2.2.1 x.2.2.2.1 x.2.2.2.2 (Pk x.1) (Sk x.1)) (fun x => count m - x.1) (0, b6, 0, b7, 0) ?_ ?_ ?_
        · exact ⟨rfl, rfl, rfl, by rw [hP0]; rfl, by rw [hS0]; rfl, rfl, rfl, rfl, trivial⟩
        · refine ⟨Nat.zero_le _, ?_⟩
          simp only
          rw [hP0, hS0]
          exact ⟨Keep.refl _ _, Nat.le_refl _, by omega, by omega, .inl rfl, .inr (.inl rfl), hB6.lt, hB7.lt, hO6, hO7⟩
        · rintro ⟨k, pb, pc, sb, zc⟩ w9 ⟨hk, h2⟩
          simp only at hk h2 ⊢
          have hK9 := h2.keep
          have hRN9 : Rd w9 NA (count m) (nums m) := by
            refine ⟨hRN.1, hRN.2.1, fun h0 => ?_⟩
            obtain ⟨ad, e, hadl, hc⟩ := hRN.2.2 h0
            refine ⟨ad, e, Nat.lt_of_lt_of_le hadl hK9.size, fun j hj => ?_⟩
            rw [← hc j hj]
            have := hNb ad e
            have e2 : (ad.add j).block = ad.block := by unfold Addr.add; split <;> rfl
            refine World.cell?_of_block (hK9.same _ (by omega) ?_)
            simp only [List.mem_cons, List.not_mem_nil, or_false]; omega
          refine c_seq ?_
          refine c_region ?_
          refine st_if (y_lt_i rfl rfl) rfl (fun hlt9 => ?_) (fun hlt9 => ?_)
          · obtain ⟨ad, rfl, hadl, hcell⟩ := hRN9.2.2 (by omega)
            have hc := hcell k (by omega)
            have hx := nums_lt m ((nums m).getD k 0) (by rw [List.getD_eq_getElem?_getD, List.getElem?_eq_getElem (by omega)]; exact List.getElem_mem _)
            have hBl9 := hBl8.keep hK9 (by simp; omega)
            have htk := take_succ_getD (nums m) k (by omega)
            have hml : (((nums m).take k).map fun y => s.getD y false).length = k := by simp; omega
            have htl : ((nums m).take k).length = k := by simp; omega
            have hPl : (Pk k).length ≤ 3001 := by
              have h3 := nums_length (((nums m).take k).map fun y => s.getD y false)
              have h4 := count_le (((nums m).take k).map fun y => s.getD y false)
              rw [hPk]; simp only; omega
            have hSl : (Sk k).length ≤ 3001 := by
              have := spr_length_le (fun k => s.getD k false) ((nums m).take k) 0
              rw [hSk]; simp only; omega
            obtain ⟨xk, hxk⟩ : ∃ x, (nums m).getD k 0 = x := ⟨_, rfl⟩
            rw [hxk] at hc hx htk
            have hP1 : Pk (k + 1) = Pk k ++ if s.getD xk false then [k] else [] := by
              rw [hPk]; simp only
              rw [htk, List.map_append, List.map_singleton, nums_snoc, hml]
            have hS1 : Sk (k + 1) = Sk k ++ if s.getD k false then [xk] else [] := by
              rw [hSk]; simp only
              rw [htk, spr_snoc, htl, Nat.zero_add]
            refine l_nil ?_
            refine q_then ?_
            refine c_seq ?_
            refine c_true rfl rfl ?_
            refine c_skip ?_
            refine q_then ?_
            refine c_seq ?_
            refine c_block ?_
            refine c_seq ?_
            refine c_region ?_
            refine st (y_move rfl) rfl ?_
            first | refine st (y_index0 rfl rfl Tryd.underlying23 sz22 (by omega)) rfl ?_ | refine st (y_index rfl rfl Tryd.underlying23 sz22 (by omega)) rfl ?_ | refine st (y_indexA rfl rfl Tryd.underlying23 sz22 (by omega)) rfl ?_
            refine st (y_load rfl one22 (by assumption)) rfl ?_
            refine st (y_assign rfl) rfl ?_
            refine st (y_assign rfl) rfl ?_
            refine l_nil ?_
            refine q_then ?_
            refine c_cut (fun x : Nat × Nat => [(2, vP b1), (3, vP b2), (5, vS b s.length s.length), (8, vS x.1 (Pk (k + 1)).length x.2), (9, vS sb (Sk k).length zc), (10, vI (k : Nat)), (11, vU xk), (32, .slice (some ad) (count m) Nc), (33, vI (count m : Nat)), (34, vI (k : Nat))]) (fun x w' => Two w8 w' b6 b7 x.1 x.2 sb zc (Pk (k + 1)) (Sk k)) ?_ ?_
            · refine c_seq ?_
              refine c_region ?_
              refine st (y_move rfl) rfl ?_
              refine st (y_move rfl) rfl ?_
              refine st (y_conv_ui rfl us22 Tryd.underlying3 (by omega)) rfl ?_
              refine sc rfl rfl isfn8 (c_Has b s xk _ hBl9 (by omega)) rfl ?_
              rintro _ _ ⟨rfl, rfl⟩
              refine l_nil ?_
              refine q_then ?_
              refine c_ifb rfl (fun h1 => ?_) (fun h1 => ?_)
              · rw [h1, if_pos rfl] at hP1
                refine c_region ?_
                refine st (y_move rfl) rfl ?_
                refine st (y_move rfl) rfl ?_
                refine st (y_conv_iu rfl us3 Tryd.underlying22 rfl (by omega)) rfl ?_
                refine st_buildSlice [vU k] Tryd.underlying23 sz22 zv22 rfl (by decide) (by decide) (by kernel_rfl) rfl ?_
                intro b10 w10 hb10 hB10 hK10 hS10
                have hO10 := h2.po.keepA hK10 (by simp)
                have hsz9 := hK9.size
                obtain ⟨i22, hi1, hi2, hi3, hi4⟩ := info_parts inf22
                refine st_appendA (news := [vU k]) rfl rfl Tryd.underlying23 hi1 hi2 hi3 (by omega) rfl rfl (news_one (by assumption)) (by intro u hu; simp only [List.mem_singleton] at hu; subst hu; rfl) (by assumption) (by first | omega | (simp only [List.length_map, List.length_nil, List.length_append, List.length_cons, List.length_take, List.length_drop]; omega) | simp) (by omega) (by omega) rfl ?_
                clear hi1 hi2 hi3 hi4
                intro b11 c11 w11 hb11 hO11 hK11
                rw [snoc_len (x := k), ← hP1, snoc_map, ← hP1] at hO11
                rw [snoc_len (x := k), ← hP1]
                refine st (y_assign rfl) rfl ?_
                refine l_nil ?_
                exact q_meet (b11, c11) ⟨rfl, rfl, rfl, rfl, rfl, rfl, rfl, rfl, rfl, rfl, trivial⟩ (h2.first hK10 hb11 hO11 hK11)
              ·
                rw [h1] at hP1
                have e : Pk (k + 1) = Pk k := by rw [hP1]; simp
                refine c_skip ?_
                exact q_meet (pb, pc) ⟨rfl, rfl, rfl, by rw [e]; rfl, rfl, rfl, rfl, rfl, rfl, rfl, trivial⟩ (by rw [e]; exact h2)
            ·
              rintro ⟨pb1, pc1⟩ w12 h3
              simp only at h3 ⊢
              have hK12 := h3.keep
              have hBl12 := hBl8.keep hK12 (by simp; omega)
              refine c_seq ?_
              refine c_region ?_
              refine st (y_move rfl) rfl ?_
              refine st (y_move rfl) rfl ?_
              refine sc rfl rfl isfn8 (c_Has b s k _ hBl12 (by omega)) rfl ?_
              rintro _ _ ⟨rfl, rfl⟩
              refine l_nil ?_
              refine q_then ?_
              refine c_ifb rfl (fun h4 => ?_) (fun h4 => ?_)
              · rw [h4, if_pos rfl] at hS1
                refine c_region ?_
                refine st (y_move rfl) rfl ?_
                refine st (y_move rfl) rfl ?_
                refine st_buildSlice [vU xk] Tryd.underlying23 sz22 zv22 rfl (by decide) (by decide) (by kernel_rfl) rfl ?_
                intro b13 w13 hb13 hB13 hK13 hS13
                have hO13 := h3.so.keepA hK13 (by simp)
                have hsz12 := hK12.size
                obtain ⟨i22, hi1, hi2, hi3, hi4⟩ := info_parts inf22
                refine st_appendA (news := [vU xk]) rfl rfl Tryd.underlying23 hi1 hi2 hi3 (by omega) rfl rfl (news_one (by assumption)) (by intro u hu; simp only [List.mem_singleton] at hu; subst hu; rfl) (by assumption) (by first | omega | (simp only [List.length_map, List.length_nil, List.length_append, List.length_cons, List.length_take, List.length_drop]; omega) | simp) (by omega) (by omega) rfl ?_
                clear hi1 hi2 hi3 hi4
                intro b14 c14 w14 hb14 hO14 hK14
                rw [snoc_len (x := xk), ← hS1, snoc_map, ← hS1] at hO14
                rw [snoc_len (x := xk), ← hS1]
                refine st (y_assign rfl) rfl ?_
                refine l_nil ?_
                refine q_block ?_
                refine q_then ?_
                refine c_region ?_
                first | refine st (y_add_in (b := 1) rfl rfl (by omega)) rfl ?_ | refine st (y_add_i (b := 1) rfl rfl (by omega) (by omega)) rfl ?_
                refine st (y_move rfl) rfl ?_
                refine l_nil ?_
                exact q_round (k + 1, pb1, pc1, b14, c14) ⟨rfl, rfl, rfl, rfl, rfl, rfl, rfl, rfl, trivial⟩ ⟨by simp only; omega, h3.second hK13 hb14 hO14 hK14⟩ (by simp only; omega)
              ·
                rw [h4] at hS1
                have e : Sk (k + 1) = Sk k := by rw [hS1]; simp
                refine c_skip ?_
                refine q_block ?_
                refine q_then ?_
                refine c_region ?_
                first | refine st (y_add_in (b := 1) rfl rfl (by omega)) rfl ?_ | refine st (y_add_i (b := 1) rfl rfl (by omega) (by omega)) rfl ?_
                refine st (y_move rfl) rfl ?_
                refine l_nil ?_
                exact q_round (k + 1, pb1, pc1, sb, zc) ⟨rfl, rfl, rfl, rfl, by rw [e]; rfl, rfl, rfl, rfl, trivial⟩ ⟨by simp only; omega, by simp only; rw [e]; exact h3⟩ (by simp only; omega)
          ·
            have hke : k = count m := by omega
            have htake : (nums m).take k = nums m := List.take_of_length_le (by omega)
            have hPe : Pk k = nums (exS s m) := by rw [hPk, exS_nums]; simp only; rw [htake]
            have hSe : Sk k = nums (depS s m) := by rw [hSk, nums_dep]; simp only; rw [htake]
            have hK19 := hK18.trans hK9 (fun i hi => by simp only [List.mem_cons, List.not_mem_nil, or_false] at hi; exact .inr (by omega))
            have hB19 := hB1.keep hK9 (by simp; omega)
            have hB29 := hB2.keep hK9 (by simp; omega)
            have hRp := h2.po.rd'
            have hRs := h2.so.rd'
            clear hB1 hB2
            refine l_nil ?_
            refine q_then ?_
            refine c_seq ?_
            refine c_false rfl rfl ?_
            refine c_exit ?_
            refine q_then_exit ?_
            refine q_then_exit ?_
            refine q_block_hit ?_
            refine q_then ?_
            refine c_seq ?_
            refine c_region ?_
            refine st (y_loadagg rfl agg25 us25 sz25 (by assumption) (by simp) (by rfl)) rfl ?_
            refine st (y_loadagg rfl agg25 us25 sz25 (by assumption) (by simp) (by rfl)) rfl ?_
            refine sc rfl rfl isfn10 (c_implExtract L A n c xs M A2 n2 c2 ys _ (hT.keep hK19 (by simp)) (hR.keep hK19 (by simp)) (hR2.keep hK19 (by simp)) (by have := ho.1; omega) (fun x h => by have := ho.2.2 x h; omega) (by have := ho2.1; omega) (fun x h => by have := ho2.2.2 x h; omega)) rfl ?_
            rintro _ w20 ⟨t20, A20, c20, rfl, ht20, htl20, hO20, hK20⟩
            rw [hs, hm] at ht20
            have hB19 := hB19.keep hK20 (by simp only [List.mem_cons, List.not_mem_nil, or_false, not_or, not_false_eq_true] <;> omega)
            have hB29 := hB29.keep hK20 (by simp only [List.mem_cons, List.not_mem_nil, or_false, not_or, not_false_eq_true] <;> omega)
            have hK21 := hK19.trans hK20 (by simp)
            refine st (fld25_1 rfl (by rfl)) rfl ?_
            refine st (y_move rfl) rfl ?_
            refine sc rfl rfl isfn9 (c_list _ _ _ _ _ _ _ _ _ hO20.rd' (hRp.keep hK20 (by simp)) (by rw [ht20, hPe])) rfl ?_
            rintro _ w22 ⟨rfl, hK22⟩
            have hB19 := hB19.keep hK22 (by simp only [List.mem_cons, List.not_mem_nil, or_false, not_or, not_false_eq_true] <;> omega)
            have hB29 := hB29.keep hK22 (by simp only [List.mem_cons, List.not_mem_nil, or_false, not_or, not_false_eq_true] <;> omega)
            have hK23 := hK21.trans hK22 (by simp)
            refine st (y_move rfl) rfl ?_
            refine stg rfl rfl (y_loadagg rfl agg25 us25 sz25 (by assumption) (by simp) (by rfl)) rfl ?_
            refine stg rfl rfl (y_loadagg rfl agg25 us25 sz25 (by assumption) (by simp) (by rfl)) rfl ?_
            refine scg rfl rfl rfl rfl isfn11 (c_implDeposit L A n c xs M A2 n2 c2 ys _ (hT.keep hK23 (by simp)) (hR.keep hK23 (by simp)) (hR2.keep hK23 (by simp)) (by have := ho.1; omega) (fun x h => by have := ho.2.2 x h; omega) (by have := ho2.1; omega) (fun x h => by have := ho2.2.2 x h; omega)) rfl ?_
            rintro _ w24 ⟨t24, A24, c24, rfl, ht24, htl24, hO24, hK24⟩
            rw [hs, hm] at ht24
            have hK25 := hK23.trans hK24 (by simp)
            refine stg rfl rfl (fld25_1 rfl (by rfl)) rfl ?_
            refine stg rfl rfl (y_move rfl) rfl ?_
            refine scg rfl rfl rfl rfl isfn9 (c_list _ _ _ _ _ _ _ _ _ hO24.rd' (((hRs.keep hK20 (by simp)).keep hK22 (by simp)).keep hK24 (by simp)) (by rw [ht24, hSe])) rfl ?_
            rintro _ w26 ⟨rfl, hK26⟩
            have hK27 := hK25.trans hK26 (by simp)
            refine st (y_pickT rfl rfl) rfl ?_
            refine st (y_move rfl) rfl ?_
            refine scg rfl rfl rfl rfl isfn12 (c_alive _ (hT.keep hK27 (by simp))) rfl ?_
            rintro _ w28 ⟨rfl, hK28⟩
            refine st (y_pickT rfl rfl) rfl ?_
            refine st (y_assign rfl) rfl ?_
            refine l_nil ?_
            refine q_then ?_
            refine c_ret ?_
            refine q_end1 (.inl rfl) rfl rfl ?_
            exact ⟨_, rfl, rfl, hK27.trans hK28 (by simp)⟩
      ·
        refine st (y_move rfl) rfl ?_
        refine st (y_extract rfl rfl) rfl ?_
        refine st (y_extract rfl rfl) rfl ?_
        refine st (y_extract rfl rfl) rfl ?_
        refine st (y_assign rfl) rfl ?_
        refine st (y_assign rfl) rfl ?_
        refine st (y_assign rfl) rfl ?_
        refine l_nil ?_
        refine q_then ?_
        refine c_seq ?_
        refine c_seq ?_
        refine c_region ?_
        refine st (y_move rfl) rfl ?_
        refine st (y_not rfl) rfl ?_
        refine l_nil ?_
        refine q_then ?_
        refine c_true rfl rfl ?_
        refine c_seq ?_
        refine c_region ?_
        refine st (y_assign rfl) rfl ?_
        refine l_nil ?_
        refine q_then ?_
        refine c_ret ?_
        refine q_then_ret ?_
        refine q_end1 (.inl rfl) rfl rfl ?_
        exact ⟨_, rfl, rfl, hK14.trans hK5 (by simp)⟩
  ·
    refine st (y_move rfl) rfl ?_
    refine sno rfl rfl rfl rfl ?_
    refine sno rfl rfl rfl rfl ?_
    refine sno rfl rfl rfl rfl ?_
    refine st (y_pickT rfl rfl) rfl ?_
    refine l_nil ?_
    refine q_then ?_
    refine c_true rfl rfl ?_
    refine c_seq ?_
    refine c_region ?_
    refine st (y_assign rfl) rfl ?_
    refine l_nil ?_
    refine q_then ?_
    refine c_ret ?_
    refine q_then_ret ?_
    refine q_end1 (.inl rfl) rfl rfl ?_
    exact ⟨_, rfl, rfl, hK13⟩

end Go.Proofs.YthefhfliobjgaaaDoor

/- What a set of the package is in memory; New, extendSet, Set: each by its contract. -/
import Derived.Test.YtbahhdeblppooaaDoorA1
set_option linter.unusedVariables false
set_option linter.unusedSimpArgs false
set_option maxRecDepth 100000
namespace Go.Proofs.YtbahhdeblppooaaDoor
open Go Go.RowKit

/-- a set in memory, as its length and its words: the struct at p, the words at q, tl: the spare ones -/
structure BW (w : World) (p q L : Nat) (ws tl : List Nat) : Prop where
  st : Blk w p 66 [vU L, vS q ws.length (ws.length + tl.length)]
  wd : Blk w q 67 ((ws ++ tl).map vU)
  ne : p ≠ q
  lt : ∀ x ∈ ws, x < 18446744073709551616
  cap : ws.length + tl.length ≤ 9223372036854775807
theorem BW.keep {w w' : World} {p q L : Nat} {ws tl : List Nat} {l : List Nat} (h : BW w p q L ws tl) (k : Keep w w' l) (hp : p ∉ l) (hq : q ∉ l) : BW w' p q L ws tl := ⟨h.st.keep k hp, h.wd.keep k hq, h.ne, h.lt, h.cap⟩

theorem nW_le (i j : Nat) (h : i ≤ j) : nW i ≤ nW j := by unfold nW; omega
theorem and63 (i : Nat) : i &&& 63 = i % 64 := Nat.and_two_pow_sub_one_eq_mod i 6
theorem shr6 (i : Nat) : i >>> 6 = i / 64 := by rw [Nat.shiftRight_eq_div_pow]

theorem c_New1 (b : Nat) (w : World) : CallsD Tryd.prog 50 #[vP b] .returning w fun e u' w' => e = .returned (.tuple #[]) ∧ u' = .returning ∧ w' = w := by
  refine callsD_of_wpS Tryd.func50 rfl fun c₀ cs hu => ?_
  apply wpS_seq
  apply wpS_region
  simp [wpOpsS, go_sem, recoverD, hu, Tryd.ntmps50, Exit.thenS]
  apply wpS_seq
  apply wpS_region
  have hn : ∀ w, (Sem.run Tryd.prog (binOp .neq 20 .nilIface .nilIface) w) = .ok (.bool false) w := fun w => by
    have h := run_neq_nil_nil (P := Tryd.prog) w 20 (by kernel_rfl)
    exact h
  simp [wpOpsS, go_sem, Exit.thenS, hn]
  refine wpS_cond (t := false) (by simp [Act.eval, Array.replicate]) ?_
  simp only [Bool.false_eq_true, if_false]
  refine wpS_of_wp (wp_skip ?_)
  cases c₀
  simp_all [bodyPostS, results, Tryd.results50]

theorem c_New (L : Nat) (hL : L ≤ 1000000) (w : World) : Cal Tryd.prog 38 [vU L] w fun v w' => ∃ p q, v = vP p ∧ w.heap.size ≤ p ∧ w.heap.size ≤ q ∧ BW w' p q L (List.replicate (nW L) 0) [] ∧ Keep w w' [] := by
  have hn : nW L ≤ 1000000 := by unfold nW; omega
  refine go_inD Tryd.func38 rfl Tryd.ntmps38 (Nat.le_of_ble_eq_true rfl) ?_
  refine c_seq ?_
  refine c_region ?_
  refine st_alloc [.pointer none] zv49 rfl rfl ?_
  intro b1 w1 hb1 hB1 hK1 hS1
  refine l_nil ?_
  refine q_then ?_
  refine c_seq ?_
  refine c_region ?_
  refine st (y_makeFunc rfl rfl) rfl ?_
  refine st_defer rfl ?_
  refine l_nil ?_
  refine q_then ?_
  refine c_seq ?_
  refine c_region ?_
  refine st (y_move rfl) rfl ?_
  refine st (y_move rfl) rfl ?_
  refine sc rfl rfl isfn47 (c_wordsNeeded L (by omega) _) rfl ?_
  rintro _ _ ⟨rfl, rfl⟩
  refine mk64 rfl rfl (by omega) (by omega) rfl ?_
  intro q w2 hq hB2 hK2 hS2
  have hB1 := hB1.keep hK2 (by simp only [List.mem_cons, List.not_mem_nil, or_false, not_or, not_false_eq_true] <;> omega)
  refine st (bld66_0_1 rfl rfl) rfl ?_
  refine st_box _ rfl rfl rfl ?_
  intro p w3 hp hB3 hK3 hS3
  have hB1 := hB1.keep hK3 (by simp only [List.mem_cons, List.not_mem_nil, or_false, not_or, not_false_eq_true] <;> omega)
  have hB2 := hB2.keep hK3 (by simp only [List.mem_cons, List.not_mem_nil, or_false, not_or, not_false_eq_true] <;> omega)
  refine st_store rfl rfl rfl sz49 (by assumption) (by first | simp | (simp; omega)) rfl ?_
  intro w4 hB4 hK4 hS4
  have hB2 := hB2.keep hK4 (by simp only [List.mem_cons, List.not_mem_nil, or_false, not_or, not_false_eq_true] <;> omega)
  have hB3 := hB3.keep hK4 (by simp only [List.mem_cons, List.not_mem_nil, or_false, not_or, not_false_eq_true] <;> omega)
  refine l_nil ?_
  refine q_then ?_
  refine c_seq ?_
  refine c_region ?_
  refine st (y_loadb rfl one49 (by assumption) (by rfl)) rfl ?_
  refine st_store rfl rfl rfl sz49 (by assumption) (by first | simp | (simp; omega)) rfl ?_
  intro w5 hB5 hK5 hS5
  have hB2 := hB2.keep hK5 (by simp only [List.mem_cons, List.not_mem_nil, or_false, not_or, not_false_eq_true] <;> omega)
  have hB3 := hB3.keep hK5 (by simp only [List.mem_cons, List.not_mem_nil, or_false, not_or, not_false_eq_true] <;> omega)
  refine l_nil ?_
  refine q_then ?_
  refine c_ret ?_
  have hK : Keep w _ [] := ((((((Keep.refl w []).trans hK1 (by intro i; simp only [List.mem_cons, List.not_mem_nil, or_false, false_or, false_implies] <;> omega)).trans hK2 (by intro i; simp only [List.mem_cons, List.not_mem_nil, or_false, false_or, false_implies] <;> omega)).trans hK3 (by intro i; simp only [List.mem_cons, List.not_mem_nil, or_false, false_or, false_implies] <;> omega)).trans hK4 (by intro i; simp only [List.mem_cons, List.not_mem_nil, or_false, false_or, false_implies] <;> omega)).trans hK5 (by intro i; simp only [List.mem_cons, List.not_mem_nil, or_false, false_or, false_implies] <;> omega))
  refine q_endD (.inl rfl) rfl rfl one49 isfn50 (c_New1 _ _) hB5 ⟨_, rfl, p, q, rfl, by omega, by omega, ⟨?_, ?_, by omega, ?_, by simp only [List.length_replicate, List.length_nil]; omega⟩, hK⟩
  · simpa using hB3
  · simpa using hB2
  · intro x hx; have := List.eq_of_mem_replicate hx; omega

theorem c_extendSet (p q L : Nat) (ws tl : List Nat) (i : Nat) (w : World) (hB : BW w p q L ws tl) (hi : i ≤ 100000) (hn : ws.length ≤ nW (i + 1)) :
    Cal Tryd.prog 51 [vP p, vU i] w fun v w' => v = vT [] ∧ ∃ q' tl', BW w' p q' (i + 1) (ws ++ List.replicate (nW (i + 1) - ws.length) 0) tl' ∧ (q' = q ∨ w.heap.size ≤ q') ∧ Keep w w' [p, q] := by
  have hn1 : nW (i + 1) ≤ 2000 := by unfold nW; omega
  have hst := hB.st
  have hwd := hB.wd
  have hne := hB.ne
  have hcap := hB.cap
  have hpl := hst.lt
  have hql := hwd.lt
  refine go_in' Tryd.func51 rfl Tryd.ntmps51 (Nat.le_of_ble_eq_true rfl) ?_
  refine c_seq ?_
  refine c_seq ?_
  refine c_region ?_
  refine st (y_move rfl) rfl ?_
  refine sc rfl rfl isfn53 (c_Cap _) rfl ?_
  rintro _ _ ⟨rfl, rfl⟩
  refine st_f (y_ge_u rfl rfl) (by omega) rfl ?_
  refine l_nil ?_
  refine q_then ?_
  refine c_false rfl rfl ?_
  refine c_skip ?_
  refine q_then ?_
  refine c_seq ?_
  refine c_region ?_
  refine st (y_move rfl) rfl ?_
  refine st (y_add_u (b := 1) rfl rfl (by omega)) rfl ?_
  refine sc rfl rfl isfn47 (c_wordsNeeded (i + 1) (by omega) _) rfl ?_
  rintro _ _ ⟨rfl, rfl⟩
  refine st (y_assign rfl) rfl ?_
  refine l_nil ?_
  refine q_then ?_
  refine c_seq ?_
  refine c_seq ?_
  refine c_region ?_
  refine st (y_move rfl) rfl ?_
  refine st (y_nil rfl) rfl ?_
  refine st (fa66_1 rfl) rfl ?_
  refine st (y_loadb rfl one64 (by assumption) (by rfl)) rfl ?_
  refine st (y_snil_eq rfl rfl Tryd.underlying64) rfl ?_
  refine l_nil ?_
  refine q_then ?_
  refine c_false rfl rfl ?_
  refine c_seq ?_
  refine c_region ?_
  refine st (y_move rfl) rfl ?_
  refine st (y_nil rfl) rfl ?_
  refine st (fa66_1 rfl) rfl ?_
  refine st (y_loadb rfl one64 (by assumption) (by rfl)) rfl ?_
  refine st (y_cap rfl Tryd.underlying64) rfl ?_
  refine st (y_move rfl) rfl ?_
  refine st_if (y_ge_i rfl rfl) rfl (fun hc => ?_) (fun hc => ?_)
  · refine l_nil ?_
    refine q_then ?_
    refine c_true rfl rfl ?_
    refine c_seq ?_
    refine c_region ?_
    refine st (y_move rfl) rfl ?_
    refine st (y_nil rfl) rfl ?_
    refine st (fa66_1 rfl) rfl ?_
    refine st (y_loadb rfl one64 (by assumption) (by rfl)) rfl ?_
    refine st (y_len rfl Tryd.underlying64) rfl ?_
    refine st (y_assign rfl) rfl ?_
    refine l_nil ?_
    refine q_then ?_
    refine c_seq ?_
    refine c_region ?_
    refine st (y_move rfl) rfl ?_
    refine st (y_move rfl) rfl ?_
    refine st (y_nil rfl) rfl ?_
    refine st (fa66_1 rfl) rfl ?_
    refine st (y_loadb rfl one64 (by assumption) (by rfl)) rfl ?_
    refine st (y_move rfl) rfl ?_
    refine st (y_slice_h rfl rfl Tryd.underlying64 sz67 (by omega)) rfl ?_
    refine st (y_nil rfl) rfl ?_
    refine st (fa66_1 rfl) rfl ?_
    refine st_store rfl rfl rfl sz64 (by assumption) (by first | simp | (simp; omega)) rfl ?_
    intro w1 hst1 hK1 hS1
    have hwd := hwd.keep hK1 (by simp only [List.mem_cons, List.not_mem_nil, or_false, not_or, not_false_eq_true] <;> omega)
    refine l_nil ?_
    refine q_then ?_
    refine c_seq ?_
    refine c_region ?_
    refine st (y_move rfl) rfl ?_
    refine st (y_move rfl) rfl ?_
    refine st_if (y_lt_i rfl rfl) rfl (fun hg => ?_) (fun hg => ?_)
    · refine l_nil ?_
      refine q_then ?_
      refine c_true rfl rfl ?_
      refine c_seq ?_
      refine c_region ?_
      refine st (y_move rfl) rfl ?_
      refine st (y_nil rfl) rfl ?_
      refine st (fa66_1 rfl) rfl ?_
      refine st (y_loadb rfl one64 (by assumption) (by rfl)) rfl ?_
      refine st (y_move rfl) rfl ?_
      refine st (y_slice_ln rfl rfl Tryd.underlying64 sz67 (by omega) (by omega)) rfl ?_
      refine st (y_assign rfl) rfl ?_
      refine l_nil ?_
      refine q_then ?_
      refine c_seq ?_
      refine c_region ?_
      refine st (y_move rfl) rfl ?_
      refine st (y_len rfl Tryd.underlying64) rfl ?_
      refine st (y_move (v := vI ((0 : Nat) : Int)) rfl) rfl ?_
      refine l_nil ?_
      refine q_then ?_
      refine c_block ?_
      obtain ⟨m, hm⟩ : ∃ m, nW (i + 1) - ws.length = m := ⟨_, rfl⟩
      refine c_loop (fun k : Nat => [(0, vP p), (1, vU i), (6, .slice (some ⟨q, 0 + ws.length, none⟩) m (ws.length + tl.length - ws.length)), (57, vI (m : Nat)), (58, vI (k : Nat))]) (fun k w' => k ≤ m ∧ Blk w' p 66 [vU L, vS q (nW (i + 1)) (ws.length + tl.length)] ∧ Blk w' q 67 ((ws ++ (List.replicate k 0 ++ tl.drop k)).map vU) ∧ Keep w1 w' [q]) (fun k => m - k) 0 ?_ ?_ ?_
      · exact ⟨rfl, rfl, by rw [hm]; rfl, by rw [hm]; rfl, rfl, trivial⟩
      · exact ⟨Nat.zero_le _, by simpa using hst1, by simpa using hwd, Keep.refl _ _⟩
      · intro k w2 ⟨hk, hstk, hwdk, hKk⟩
        refine c_seq ?_
        refine c_region ?_
        refine st_if (y_lt_i rfl rfl) rfl (fun hlt => ?_) (fun hlt => ?_)
        · refine l_nil ?_
          refine q_then ?_
          refine c_seq ?_
          refine c_true rfl rfl ?_
          refine c_skip ?_
          refine q_then ?_
          refine c_seq ?_
          refine c_block ?_
          refine c_seq ?_
          refine c_region ?_
          refine st (y_move rfl) rfl ?_
          refine st (y_assign rfl) rfl ?_
          refine l_nil ?_
          refine q_then ?_
          refine c_region ?_
          refine st (y_move rfl) rfl ?_
          refine st (y_move rfl) rfl ?_
          first | refine st (y_index0 rfl rfl Tryd.underlying64 sz67 (by omega)) rfl ?_ | refine st (y_index rfl rfl Tryd.underlying64 sz67 (by omega)) rfl ?_ | refine st (y_indexA rfl rfl Tryd.underlying64 sz67 (by omega)) rfl ?_
          have hkm : k < m := by omega
          refine st_storeM vU rfl rfl rfl sz67 (by assumption) (by first | omega | (simp only [List.length_append, List.length_map, List.length_replicate, List.length_set, List.length_take, List.length_drop]; omega)) rfl ?_
          intro w3 hwd3 hK3 hS3
          have hstk := hstk.keep hK3 (by simp only [List.mem_cons, List.not_mem_nil, or_false, not_or, not_false_eq_true] <;> omega)
          refine l_nil ?_
          refine q_block ?_
          refine q_then ?_
          refine c_region ?_
          first | refine st (y_add_in (b := 1) rfl rfl (by omega)) rfl ?_ | refine st (y_add_i (b := 1) rfl rfl (by omega) (by omega)) rfl ?_
          refine st (y_move rfl) rfl ?_
          refine l_nil ?_
          refine q_round (k + 1) ⟨rfl, rfl, rfl, rfl, rfl, trivial⟩ ⟨by omega, hstk, ?_, ?_⟩ (by omega)
          · have e : (ws ++ (List.replicate k 0 ++ tl.drop k)).set (0 + ws.length + k) 0 = ws ++ (List.replicate (k + 1) 0 ++ tl.drop (k + 1)) := by
              rw [List.set_append_right _ _ (by omega), List.set_append_right _ _ (by simp <;> omega), List.replicate_succ', List.append_assoc]
              simp only [List.length_replicate, show 0 + ws.length + k - ws.length - k = 0 by omega]
              rw [List.drop_eq_getElem_cons (show k < tl.length by omega), List.set_cons_zero]
              rfl
            rw [e] at hwd3; exact hwd3
          · exact hKk.trans hK3 (fun i hi => .inl hi)
        ·
          refine l_nil ?_
          refine q_then ?_
          refine c_seq ?_
          refine c_false rfl rfl ?_
          refine c_exit ?_
          refine q_then_exit ?_
          refine q_then_exit ?_
          refine q_block_hit ?_
          refine q_then ?_
          refine c_region ?_
          refine st (y_move rfl) rfl ?_
          refine st (y_move rfl) rfl ?_
          refine st (y_add_u (b := 1) rfl rfl (by omega)) rfl ?_
          refine st (y_nil rfl) rfl ?_
          refine st (fa66_0 rfl) rfl ?_
          have hkm : k = m := by omega
          subst hkm
          refine st_store rfl rfl rfl sz22 (by assumption) (by first | simp | (simp; omega)) rfl ?_
          intro w3 hst3 hK3 hS3
          have hwdk := hwdk.keep hK3 (by simp only [List.mem_cons, List.not_mem_nil, or_false, not_or, not_false_eq_true] <;> omega)
          refine l_nil ?_
          refine q_end0 (.inr rfl) rfl ?_
          have hK : Keep w _ [p, q] := ((((Keep.refl w [p, q]).trans hK1 (by intro i; simp only [List.mem_cons, List.not_mem_nil, or_false, false_or, false_implies] <;> omega)).trans hKk (by intro i; simp only [List.mem_cons, List.not_mem_nil, or_false, false_or, false_implies] <;> omega)).trans hK3 (by intro i; simp only [List.mem_cons, List.not_mem_nil, or_false, false_or, false_implies] <;> omega))
          refine ⟨_, rfl, rfl, q, tl.drop k, ⟨?_, ?_, hne, ?_, ?_⟩, .inl rfl, hK⟩
          · have e1 : (ws ++ List.replicate (nW (i + 1) - ws.length) 0).length = nW (i + 1) := by simp; omega
            have e2 : nW (i + 1) + (tl.drop k).length = ws.length + tl.length := by simp; omega
            rw [e1, e2]; exact hst3
          · rw [hm, List.append_assoc]; exact hwdk
          · intro x hx
            rcases List.mem_append.1 hx with h | h
            · exact hB.lt x h
            · have := List.eq_of_mem_replicate h; omega
          · simp; omega
    ·
      refine l_nil ?_
      refine q_then ?_
      refine c_false rfl rfl ?_
      refine c_skip ?_
      refine q_then ?_
      refine c_region ?_
      refine st (y_move rfl) rfl ?_
      refine st (y_move rfl) rfl ?_
      refine st (y_add_u (b := 1) rfl rfl (by omega)) rfl ?_
      refine st (y_nil rfl) rfl ?_
      refine st (fa66_0 rfl) rfl ?_
      have he : nW (i + 1) = ws.length := by omega
      refine st_store rfl rfl rfl sz22 (by assumption) (by first | simp | (simp; omega)) rfl ?_
      intro w3 hst3 hK3 hS3
      have hwd := hwd.keep hK3 (by simp only [List.mem_cons, List.not_mem_nil, or_false, not_or, not_false_eq_true] <;> omega)
      refine l_nil ?_
      refine q_end0 (.inr rfl) rfl ?_
      have hK : Keep w _ [p, q] := (((Keep.refl w [p, q]).trans hK1 (by intro i; simp only [List.mem_cons, List.not_mem_nil, or_false, false_or, false_implies] <;> omega)).trans hK3 (by intro i; simp only [List.mem_cons, List.not_mem_nil, or_false, false_or, false_implies] <;> omega))
      refine ⟨_, rfl, rfl, q, tl, ⟨?_, ?_, hne, ?_, ?_⟩, .inl rfl, hK⟩
      · rw [he] at hst3 ⊢; simpa using hst3
      · rw [he]; simpa using hwd
      · rw [he]; simpa using hB.lt
      · rw [he]; simpa using hB.cap
  ·
    refine l_nil ?_
    refine q_then ?_
    refine c_false rfl rfl ?_
    refine c_seq ?_
    refine c_region ?_
    refine st (y_move rfl) rfl ?_
    refine st (y_nil rfl) rfl ?_
    refine st (fa66_1 rfl) rfl ?_
    refine st (y_loadb rfl one64 (by assumption) (by rfl)) rfl ?_
    refine st (y_len rfl Tryd.underlying64) rfl ?_
    refine st (y_move rfl) rfl ?_
    refine st_t (y_lt_i rfl rfl) (by omega) rfl ?_
    refine l_nil ?_
    refine q_then ?_
    refine c_true rfl rfl ?_
    refine c_seq ?_
    refine c_region ?_
    refine st (y_move rfl) rfl ?_
    refine st (y_move rfl) rfl ?_
    first | refine st (y_mul_in (a := 2) rfl rfl (by omega)) rfl ?_ | refine st (y_mul_i (a := 2) rfl rfl (by omega) (by omega)) rfl ?_
    refine mk64 (l := nW (i + 1)) (c := 2 * nW (i + 1)) rfl rfl (by omega) (by omega) rfl ?_
    intro q1 w1 hq1 hwd1 hK1 hS1
    have hst := hst.keep hK1 (by simp only [List.mem_cons, List.not_mem_nil, or_false, not_or, not_false_eq_true] <;> omega)
    have hwd := hwd.keep hK1 (by simp only [List.mem_cons, List.not_mem_nil, or_false, not_or, not_false_eq_true] <;> omega)
    refine st (y_assign rfl) rfl ?_
    refine l_nil ?_
    refine q_then ?_
    refine c_seq ?_
    refine c_region ?_
    refine st (y_move rfl) rfl ?_
    refine st (y_move rfl) rfl ?_
    refine st (y_nil rfl) rfl ?_
    refine st (fa66_1 rfl) rfl ?_
    refine st (y_loadb rfl one64 (by assumption) (by rfl)) rfl ?_
    refine st_copy rfl rfl Tryd.underlying64 sz67 hwd1 hwd (by simp; omega) (by simp; omega) ?_ rfl ?_
    · intro v hv; obtain ⟨x, _, rfl⟩ := List.mem_map.1 hv; rfl
    intro w2 hwd2 hK2 hS2
    have hq1n : w.heap.size = q1 := hq1
    have hst := hst.keep hK2 (by simp only [List.mem_cons, List.not_mem_nil, or_false, not_or, not_false_eq_true] <;> omega)
    have hwd := hwd.keep hK2 (by simp only [List.mem_cons, List.not_mem_nil, or_false, not_or, not_false_eq_true] <;> omega)
    refine l_nil ?_
    refine q_then ?_
    refine c_region ?_
    refine st (y_move rfl) rfl ?_
    refine st (y_move rfl) rfl ?_
    refine st (y_nil rfl) rfl ?_
    refine st (fa66_1 rfl) rfl ?_
    refine st_store rfl rfl rfl sz64 (by assumption) (by first | simp | (simp; omega)) rfl ?_
    intro w3 hst3 hK3 hS3
    have hwd2 := hwd2.keep hK3 (by simp only [List.mem_cons, List.not_mem_nil, or_false, not_or, not_false_eq_true] <;> omega)
    refine l_nil ?_
    refine q_then ?_
    refine c_region ?_
    refine st (y_move rfl) rfl ?_
    refine st (y_move rfl) rfl ?_
    refine st (y_add_u (b := 1) rfl rfl (by omega)) rfl ?_
    refine st (y_nil rfl) rfl ?_
    refine st (fa66_0 rfl) rfl ?_
    refine st_store rfl rfl rfl sz22 (by assumption) (by first | simp | (simp; omega)) rfl ?_
    intro w4 hst4 hK4 hS4
    have hwd2 := hwd2.keep hK4 (by simp only [List.mem_cons, List.not_mem_nil, or_false, not_or, not_false_eq_true] <;> omega)
    refine l_nil ?_
    refine q_end0 (.inr rfl) rfl ?_
    have hK : Keep w _ [p, q] := (((((Keep.refl w [p, q]).trans hK1 (by intro i; simp only [List.mem_cons, List.not_mem_nil, or_false, false_or, false_implies] <;> omega)).trans hK2 (by intro i; simp only [List.mem_cons, List.not_mem_nil, or_false, false_or, false_implies] <;> omega)).trans hK3 (by intro i; simp only [List.mem_cons, List.not_mem_nil, or_false, false_or, false_implies] <;> omega)).trans hK4 (by intro i; simp only [List.mem_cons, List.not_mem_nil, or_false, false_or, false_implies] <;> omega))
    refine ⟨_, rfl, rfl, q1, List.replicate (nW (i + 1)) 0, ⟨?_, ?_, by omega, ?_, ?_⟩, .inr (by omega), hK⟩
    · have e1 : (ws ++ List.replicate (nW (i + 1) - ws.length) 0).length = nW (i + 1) := by simp; omega
      rw [e1, List.length_replicate]
      have e2 : nW (i + 1) + nW (i + 1) = 2 * nW (i + 1) := by omega
      rw [e2]; simpa using hst4
    · have e : over ((List.replicate (2 * nW (i + 1)) 0).map vU) 0 ((((ws ++ tl).map vU).drop 0).take (min ws.length (nW (i + 1)))) = ((ws ++ List.replicate (nW (i + 1) - ws.length) 0) ++ List.replicate (nW (i + 1)) 0).map vU := by
        rw [Nat.min_eq_left (by omega)]
        simp only [over, List.drop_zero, List.take_zero, List.nil_append, List.map_append, List.append_assoc]
        rw [List.take_left' (by simp)]
        simp only [List.map_replicate, List.length_map, List.drop_replicate, Nat.zero_add, List.replicate_append_replicate]
        congr 2
        omega
      rw [← e]; exact hwd2
    · intro x hx
      rcases List.mem_append.1 hx with h | h
      · exact hB.lt x h
      · have := List.eq_of_mem_replicate h; omega
    · simp; omega

end Go.Proofs.YtbahhdeblppooaaDoor

/- bytes.Buffer: its growth, Len, Write, WriteByte, WriteString, String, Bytes; each by its contract. -/
import Derived.Test.YtlhbbndedbacpaaA2
import Derived.Test.YtlhbbndedbacpaaK11
import Derived.Test.YtlhbbndedbacpaaK17
set_option linter.unusedVariables false
set_option linter.unusedSimpArgs false
set_option maxRecDepth 100000
set_option maxHeartbeats 1000000
namespace Go.Proofs.Ytlhbbndedbacpaa
open Go Go.RowKit

/-- a buffer at b that has a row at r: n bytes are told, the row holds l -/
structure BufR (w : World) (b r n : Nat) (l : List Nat) : Prop where
  st : ∃ lr, Blk w b 79 [vS r n l.length, vI 0, .int .i8 lr]
  row : BlkF w r 5 (l.map v8)
  le : n ≤ l.length
  ne : r ≠ b
  cap : l.length ≤ 9223372036854775807
  lt : ∀ x ∈ l, x < 256
theorem BufR.keep {w w' : World} {b r n : Nat} {l : List Nat} {L : List Nat} (h : BufR w b r n l) (k : Keep w w' L) (hb : b ∉ L) (hr : r ∉ L) : BufR w' b r n l := by
  obtain ⟨lr, hst⟩ := h.st
  exact ⟨⟨lr, hst.keep k hb⟩, h.row.keep k hr, h.le, h.ne, h.cap, h.lt⟩
/-- a buffer that has no row yet -/
def BufN (w : World) (b : Nat) : Prop := ∃ lr, Blk w b 79 [.slice none 0 0, vI 0, .int .i8 lr]
theorem lt_rep0 (m : Nat) : ∀ x ∈ List.replicate m 0, x < 256 := fun x hx => by rw [List.eq_of_mem_replicate hx]; omega

theorem c_growSlice1 (w : World) : CallsD Try.prog 104 #[] .returning w fun e u' w' => e = .returned (.tuple #[]) ∧ u' = .returning ∧ w' = w := by
  refine callsD_of_wpS Try.func104 rfl fun c₀ cs hu => ?_
  apply wpS_seq
  apply wpS_region
  have hn : ∀ w, (Sem.run Try.prog (binOp .neq 20 .nilIface .nilIface) w) = .ok (.bool false) w := fun w => by
    have h := run_neq_nil_nil (P := Try.prog) w 20 (by kernel_rfl)
    exact h
  simp [wpOpsS, go_sem, recoverD, hu, hn, Try.ntmps104, Exit.thenS]
  refine wpS_cond (t := false) (by simp [Act.eval, Array.replicate]) ?_
  simp only [Bool.false_eq_true, if_false]
  refine wpS_of_wp (wp_skip ?_)
  cases c₀
  simp_all [bodyPostS, results, Try.results104]

theorem c_growSlice (r n m : Nat) (l : List Nat) (w : World) (hR : BlkF w r 5 (l.map v8)) (hle : n ≤ l.length) (hl : l.length ≤ 10000000) (hm : m ≤ 1000000) (h0 : 0 < n + m) :
    Cal Try.prog 103 [vS r n l.length, vI (m : Nat)] w fun v w' => ∃ r' c, v = vS r' n c ∧ n + m ≤ c ∧ c ≤ 9223372036854775807 ∧ w.heap.size ≤ r' ∧ BlkF w' r' 5 ((l.take n ++ List.replicate (c - n) 0).map v8) ∧ Keep w w' [] := by
  obtain ⟨C, hC1, hC2, hC3⟩ : ∃ C, (if n + m < 2 * l.length then 2 * l.length else n + m) = C ∧ n + m ≤ C ∧ C ≤ 100000000 := ⟨_, rfl, by split <;> omega, by split <;> omega⟩
  refine go_inD Try.func103 rfl Try.ntmps103 (Nat.le_of_ble_eq_true rfl) ?_
  refine c_seq ?_
  refine c_region ?_
  refine st (y_assign rfl) rfl ?_
  refine l_nil ?_
  refine q_then ?_
  refine c_seq ?_
  refine c_region ?_
  refine st_defer rfl ?_
  refine l_nil ?_
  refine q_then ?_
  refine c_seq ?_
  refine c_region ?_
  refine st (y_move rfl) rfl ?_
  refine st (y_len rfl Try.underlying42) rfl ?_
  refine st (y_move rfl) rfl ?_
  first | refine st (y_add_in rfl rfl (by omega)) rfl ?_ | refine st (y_add_i rfl rfl (by omega) (by omega)) rfl ?_
  refine st (y_assign rfl) rfl ?_
  refine l_nil ?_
  refine q_then ?_
  refine c_cut (fun _ : Unit => [(0, vS r n l.length), (4, .slice none 0 0), (5, vI (C : Nat))]) (fun _ w' => w' = w) ?_ ?_
  · refine c_seq ?_
    refine c_region ?_
    refine st (y_move rfl) rfl ?_
    refine st (y_move rfl) rfl ?_
    refine st (y_cap rfl Try.underlying42) rfl ?_
    first | refine st (y_mul_in (a := 2) rfl rfl (by omega)) rfl ?_ | refine st (y_mul_i (a := 2) rfl rfl (by omega) (by omega)) rfl ?_
    refine st_if (y_lt_i rfl rfl) rfl (fun hlt => ?_) (fun hlt => ?_)
    · refine l_nil ?_
      refine q_then ?_
      refine c_true rfl rfl ?_
      refine c_region ?_
      refine st (y_move rfl) rfl ?_
      refine st (y_cap rfl Try.underlying42) rfl ?_
      first | refine st (y_mul_in (a := 2) rfl rfl (by omega)) rfl ?_ | refine st (y_mul_i (a := 2) rfl rfl (by omega) (by omega)) rfl ?_
      refine st (y_assign rfl) rfl ?_
      refine l_nil ?_
      exact q_meet () ⟨rfl, rfl, by rw [← hC1, if_pos (by omega)]; rfl, trivial⟩ rfl
    ·
      refine l_nil ?_
      refine q_then ?_
      refine c_false rfl rfl ?_
      refine c_skip ?_
      exact q_meet () ⟨rfl, rfl, by rw [← hC1, if_neg (by omega)]; rfl, trivial⟩ rfl
  ·
    rintro _ w1 rfl
    refine c_seq ?_
    refine c_region ?_
    refine st (y_move rfl) rfl ?_
    obtain ⟨i5, hi1, hi2, hi3, hi4⟩ := info_parts inf5
    refine st_appendZ (z := v8 0) rfl rfl Try.underlying42 Try.underlying3 hi1 hi2 hi3 (by omega) rfl (by omega) hC3 rfl ?_
    clear hi1 hi2 hi3 hi4
    intro c' w2 hc1 hc2 hB2 hK2 hS2
    have hc3 : c' ≤ 9223372036854775807 := by unfold maxLen at hc2; omega
    have hR2 := hR.keep hK2 (by simp)
    have hsrc := hR2.src (o := 0) (n := n)
    rw [List.drop_zero, ← List.map_take] at hsrc
    have hrl := hR.lt
    refine st (y_assign rfl) rfl ?_
    refine l_nil ?_
    refine q_then ?_
    refine c_seq ?_
    refine c_region ?_
    refine st (y_move rfl) rfl ?_
    refine st (y_move rfl) rfl ?_
    refine st_copyF rfl rfl Try.underlying42 sz5 hB2.toF hsrc (by simp; omega) (by omega) (by simp; omega) (by intro v hv; obtain ⟨x, _, rfl⟩ := List.mem_map.1 hv; rfl) rfl ?_
    intro w3 hB3 hK3 hS3
    refine st (y_assign rfl) rfl ?_
    refine l_nil ?_
    refine q_then ?_
    refine c_seq ?_
    refine c_region ?_
    refine st (y_move rfl) rfl ?_
    refine st (y_move rfl) rfl ?_
    refine st (y_slice_h rfl rfl Try.underlying42 sz5 (by omega)) rfl ?_
    refine st (y_assign rfl) rfl ?_
    refine l_nil ?_
    refine q_then ?_
    refine c_ret ?_
    have e : over ((List.replicate c' (v8 0))) 0 ((l.take n).map v8) = (l.take n ++ List.replicate (c' - n) 0).map v8 := by
      unfold over
      rw [List.take_zero, List.nil_append, List.length_map, List.length_take, Nat.min_eq_left hle, Nat.zero_add, List.drop_replicate, List.map_append, List.map_replicate]
    rw [e] at hB3
    exact q_endDt (.inl rfl) rfl rfl isfn104 (c_growSlice1 _) ⟨_, rfl, _, c', rfl, by omega, hc3, Nat.le_refl _, hB3, hK2.trans hK3 (fun i hi => by simp only [List.mem_singleton] at hi; exact .inr (by omega))⟩

theorem c_BLen (b r n : Nat) (l : List Nat) (w : World) (hB : BufR w b r n l) : Cal Try.prog 102 [vP b] w fun v w' => v = vI (n : Nat) ∧ w' = w.drew := by
  obtain ⟨lr, hst⟩ := hB.st
  have hst := hst.drew
  have hle := hB.le
  have hcap := hB.cap
  refine go_in' Try.func102 rfl Try.ntmps102 (Nat.le_of_ble_eq_true rfl) ?_
  refine c_seq ?_
  refine c_region ?_
  refine st (y_assign (v := vI ((0 : Nat) : Int)) rfl) rfl ?_
  refine l_nil ?_
  refine q_then ?_
  refine c_seq ?_
  refine c_still mixed (by kernel_rfl) ?_
  refine ss (y_move rfl) rfl ?_
  refine ss (y_nil rfl) rfl ?_
  refine ss (fa79_0 rfl) rfl ?_
  refine ss (y_loadb rfl one42 (by assumption) (by rfl)) rfl ?_
  refine ss (y_len rfl Try.underlying42) rfl ?_
  refine ss (y_move rfl) rfl ?_
  refine ss (y_nil rfl) rfl ?_
  refine ss (fa79_1 rfl) rfl ?_
  refine ss (y_loadb rfl one3 (by assumption) (by rfl)) rfl ?_
  refine ss (y_sub_i (b := 0) rfl rfl (by omega) (by omega)) rfl ?_
  rw [Int.sub_zero]
  refine ss (y_assign rfl) rfl ?_
  refine s_nil ?_
  refine q_then ?_
  refine c_ret ?_
  refine q_end1 (.inl rfl) rfl rfl ?_
  exact ⟨_, rfl, rfl, rfl⟩

theorem c_BLen0 (b : Nat) (w : World) (hB : BufN w b) : Cal Try.prog 102 [vP b] w fun v w' => v = vI ((0 : Nat) : Int) ∧ w' = w.drew := by
  obtain ⟨lr, hst⟩ := hB
  have hst := hst.drew
  refine go_in' Try.func102 rfl Try.ntmps102 (Nat.le_of_ble_eq_true rfl) ?_
  refine c_seq ?_
  refine c_region ?_
  refine st (y_assign (v := vI ((0 : Nat) : Int)) rfl) rfl ?_
  refine l_nil ?_
  refine q_then ?_
  refine c_seq ?_
  refine c_still mixed (by kernel_rfl) ?_
  refine ss (y_move rfl) rfl ?_
  refine ss (y_nil rfl) rfl ?_
  refine ss (fa79_0 rfl) rfl ?_
  refine ss (y_loadb rfl one42 (by assumption) (by rfl)) rfl ?_
  refine ss (y_len rfl Try.underlying42) rfl ?_
  refine ss (y_move rfl) rfl ?_
  refine ss (y_nil rfl) rfl ?_
  refine ss (fa79_1 rfl) rfl ?_
  refine ss (y_loadb rfl one3 (by assumption) (by rfl)) rfl ?_
  refine ss (y_sub_i (a := 0) (b := 0) rfl rfl (by omega) (by omega)) rfl ?_
  rw [Int.sub_zero]
  refine ss (y_assign rfl) rfl ?_
  refine s_nil ?_
  refine q_then ?_
  refine c_ret ?_
  refine q_end1 (.inl rfl) rfl rfl ?_
  exact ⟨_, rfl, rfl, rfl⟩

theorem c_tryG1 (b r n m : Nat) (l : List Nat) (w : World) (hB : BufR w b r n l) (hm : m ≤ 1000000) (hfit : n + m ≤ l.length) :
    Cal Try.prog 100 [vP b, vI (m : Nat)] w fun v w' => v = vT [vI (n : Nat), vB true] ∧ BufR w' b r (n + m) l ∧ Keep w w' [b] := by
  obtain ⟨lr, hst⟩ := hB.st
  have hle := hB.le
  have hcap := hB.cap
  have hne := hB.ne
  refine go_in' Try.func100 rfl Try.ntmps100 (Nat.le_of_ble_eq_true rfl) ?_
  refine c_seq ?_
  refine c_region ?_
  refine st (y_assign (v := vI ((0 : Nat) : Int)) rfl) rfl ?_
  refine st (y_assign rfl) rfl ?_
  refine l_nil ?_
  refine q_then ?_
  refine c_seq ?_
  refine c_seq ?_
  refine c_region ?_
  refine st (y_move rfl) rfl ?_
  refine st (y_nil rfl) rfl ?_
  refine st (fa79_0 rfl) rfl ?_
  refine st (y_loadb rfl one42 (by assumption) (by rfl)) rfl ?_
  refine st (y_len rfl Try.underlying42) rfl ?_
  refine st (y_assign rfl) rfl ?_
  refine l_nil ?_
  refine q_then ?_
  refine c_seq ?_
  refine c_region ?_
  refine st (y_move rfl) rfl ?_
  refine st (y_move rfl) rfl ?_
  refine st (y_nil rfl) rfl ?_
  refine st (fa79_0 rfl) rfl ?_
  refine st (y_loadb rfl one42 (by assumption) (by rfl)) rfl ?_
  refine st (y_cap rfl Try.underlying42) rfl ?_
  refine st (y_move rfl) rfl ?_
  refine st (y_sub_i rfl rfl (by omega) (by omega)) rfl ?_
  refine st_t (y_le_i rfl rfl) (by omega) rfl ?_
  refine l_nil ?_
  refine q_then ?_
  refine c_true rfl rfl ?_
  refine c_seq ?_
  refine c_region ?_
  refine st (y_move rfl) rfl ?_
  refine st (y_move rfl) rfl ?_
  refine st (y_nil rfl) rfl ?_
  refine st (fa79_0 rfl) rfl ?_
  refine st (y_loadb rfl one42 (by assumption) (by rfl)) rfl ?_
  refine st (y_move rfl) rfl ?_
  refine st (y_move rfl) rfl ?_
  first | refine st (y_add_in rfl rfl (by omega)) rfl ?_ | refine st (y_add_i rfl rfl (by omega) (by omega)) rfl ?_
  refine st (y_slice_h rfl rfl Try.underlying42 sz5 (by omega)) rfl ?_
  refine st (y_nil rfl) rfl ?_
  refine st (fa79_0 rfl) rfl ?_
  refine st_store rfl rfl rfl sz42 (by assumption) (by first | simp | (simp; omega)) rfl ?_
  intro w1 hst1 hK1 hS1
  refine l_nil ?_
  refine q_then ?_
  refine c_seq ?_
  refine c_region ?_
  refine st (y_move rfl) rfl ?_
  refine st (y_assign rfl) rfl ?_
  refine st (y_assign rfl) rfl ?_
  refine l_nil ?_
  refine q_then ?_
  refine c_ret ?_
  refine q_then_ret ?_
  refine q_end2 (.inl rfl) rfl rfl rfl ?_
  exact ⟨_, rfl, rfl, ⟨⟨lr, hst1⟩, hB.row.keep hK1 (by simpa using hne), hfit, hne, hcap, hB.lt⟩, hK1⟩

theorem c_tryG0 (b r n m : Nat) (l : List Nat) (w : World) (hB : BufR w b r n l) (hm : m ≤ 1000000) (hfit : l.length < n + m) :
    Cal Try.prog 100 [vP b, vI (m : Nat)] w fun v w' => v = vT [vI ((0 : Nat) : Int), vB false] ∧ w = w' := by
  obtain ⟨lr, hst⟩ := hB.st
  have hle := hB.le
  have hcap := hB.cap
  have hne := hB.ne
  refine go_in' Try.func100 rfl Try.ntmps100 (Nat.le_of_ble_eq_true rfl) ?_
  refine c_seq ?_
  refine c_region ?_
  refine st (y_assign (v := vI ((0 : Nat) : Int)) rfl) rfl ?_
  refine st (y_assign rfl) rfl ?_
  refine l_nil ?_
  refine q_then ?_
  refine c_seq ?_
  refine c_seq ?_
  refine c_region ?_
  refine st (y_move rfl) rfl ?_
  refine st (y_nil rfl) rfl ?_
  refine st (fa79_0 rfl) rfl ?_
  refine st (y_loadb rfl one42 (by assumption) (by rfl)) rfl ?_
  refine st (y_len rfl Try.underlying42) rfl ?_
  refine st (y_assign rfl) rfl ?_
  refine l_nil ?_
  refine q_then ?_
  refine c_seq ?_
  refine c_region ?_
  refine st (y_move rfl) rfl ?_
  refine st (y_move rfl) rfl ?_
  refine st (y_nil rfl) rfl ?_
  refine st (fa79_0 rfl) rfl ?_
  refine st (y_loadb rfl one42 (by assumption) (by rfl)) rfl ?_
  refine st (y_cap rfl Try.underlying42) rfl ?_
  refine st (y_move rfl) rfl ?_
  refine st (y_sub_i rfl rfl (by omega) (by omega)) rfl ?_
  refine st_f (y_le_i rfl rfl) (by omega) rfl ?_
  refine l_nil ?_
  refine q_then ?_
  refine c_false rfl rfl ?_
  refine c_skip ?_
  refine q_then ?_
  refine c_seq ?_
  refine c_region ?_
  refine st (y_assign (v := vI ((0 : Nat) : Int)) rfl) rfl ?_
  refine st (y_assign rfl) rfl ?_
  refine l_nil ?_
  refine q_then ?_
  refine c_ret ?_
  refine q_end2 (.inl rfl) rfl rfl rfl ?_
  exact ⟨_, rfl, rfl, rfl⟩

theorem c_tryGN (b m : Nat) (w : World) (hB : BufN w b) (hm : m ≤ 1000000) (h0 : 0 < m) :
    Cal Try.prog 100 [vP b, vI (m : Nat)] w fun v w' => v = vT [vI ((0 : Nat) : Int), vB false] ∧ w = w' := by
  obtain ⟨lr, hst⟩ := hB
  refine go_in' Try.func100 rfl Try.ntmps100 (Nat.le_of_ble_eq_true rfl) ?_
  refine c_seq ?_
  refine c_region ?_
  refine st (y_assign (v := vI ((0 : Nat) : Int)) rfl) rfl ?_
  refine st (y_assign rfl) rfl ?_
  refine l_nil ?_
  refine q_then ?_
  refine c_seq ?_
  refine c_seq ?_
  refine c_region ?_
  refine st (y_move rfl) rfl ?_
  refine st (y_nil rfl) rfl ?_
  refine st (fa79_0 rfl) rfl ?_
  refine st (y_loadb rfl one42 (by assumption) (by rfl)) rfl ?_
  refine st (y_len rfl Try.underlying42) rfl ?_
  refine st (y_assign rfl) rfl ?_
  refine l_nil ?_
  refine q_then ?_
  refine c_seq ?_
  refine c_region ?_
  refine st (y_move rfl) rfl ?_
  refine st (y_move rfl) rfl ?_
  refine st (y_nil rfl) rfl ?_
  refine st (fa79_0 rfl) rfl ?_
  refine st (y_loadb rfl one42 (by assumption) (by rfl)) rfl ?_
  refine st (y_cap rfl Try.underlying42) rfl ?_
  refine st (y_move rfl) rfl ?_
  refine st (y_sub_i rfl rfl (by omega) (by omega)) rfl ?_
  refine st_f (y_le_i rfl rfl) (by omega) rfl ?_
  refine l_nil ?_
  refine q_then ?_
  refine c_false rfl rfl ?_
  refine c_skip ?_
  refine q_then ?_
  refine c_seq ?_
  refine c_region ?_
  refine st (y_assign (v := vI ((0 : Nat) : Int)) rfl) rfl ?_
  refine st (y_assign rfl) rfl ?_
  refine l_nil ?_
  refine q_then ?_
  refine c_ret ?_
  refine q_end2 (.inl rfl) rfl rfl rfl ?_
  exact ⟨_, rfl, rfl, rfl⟩

theorem c_growN (b m : Nat) (w : World) (hB : BufN w b) (hm : m ≤ 64) (h0 : 0 < m) :
    Cal Try.prog 101 [vP b, vI (m : Nat)] w fun v w' => v = vI ((0 : Nat) : Int) ∧ ∃ r l, w.heap.size ≤ r ∧ BufR w' b r m l ∧ Keep w w' [b] := by
  refine go_in' Try.func101 rfl Try.ntmps101 (Nat.le_of_ble_eq_true rfl) ?_
  refine c_seq ?_
  refine c_region ?_
  refine st (y_assign (v := vI ((0 : Nat) : Int)) rfl) rfl ?_
  refine l_nil ?_
  refine q_then ?_
  refine c_seq ?_
  refine c_region ?_
  refine st (y_move rfl) rfl ?_
  refine sc rfl rfl isfn102 (c_BLen0 b _ hB) rfl ?_
  rintro _ _ ⟨rfl, rfl⟩
  have hBd : BufN w.drew b := hB
  obtain ⟨lr, hst⟩ := hB
  have hst := hst.drew
  have hbl := hst.lt
  refine st (y_assign rfl) rfl ?_
  refine l_nil ?_
  refine q_then ?_
  refine c_seq ?_
  refine c_seq ?_
  refine c_region ?_
  refine st (y_move rfl) rfl ?_
  refine st_t (y_eq_i (b := 0) rfl rfl) (by omega) rfl ?_
  refine st (y_move rfl) rfl ?_
  refine stg rfl rfl (y_move rfl) rfl ?_
  refine stg rfl rfl (y_nil rfl) rfl ?_
  refine stg rfl rfl (fa79_1 rfl) rfl ?_
  refine stg rfl rfl (y_loadb rfl one3 (by assumption) (by rfl)) rfl ?_
  refine stg_f rfl rfl (y_ne_i (b := 0) rfl rfl) (by omega) rfl ?_
  refine st (y_pickT rfl rfl) rfl ?_
  refine l_nil ?_
  refine q_then ?_
  refine c_false rfl rfl ?_
  refine c_skip ?_
  refine q_then ?_
  refine c_seq ?_
  refine c_seq ?_
  refine c_region ?_
  refine st (y_move rfl) rfl ?_
  refine st (y_move rfl) rfl ?_
  refine sc rfl rfl isfn100 (c_tryGN b m _ hBd (by omega) h0) rfl ?_
  rintro _ _ ⟨rfl, rfl⟩
  refine st (y_move rfl) rfl ?_
  refine st (y_extract rfl rfl) rfl ?_
  refine st (y_extract rfl rfl) rfl ?_
  refine st (y_assign rfl) rfl ?_
  refine st (y_assign rfl) rfl ?_
  refine l_nil ?_
  refine q_then ?_
  refine c_seq ?_
  refine c_region ?_
  refine st (y_move rfl) rfl ?_
  refine l_nil ?_
  refine q_then ?_
  refine c_false rfl rfl ?_
  refine c_skip ?_
  refine q_then ?_
  refine c_seq ?_
  refine c_seq ?_
  refine c_region ?_
  refine st (y_move rfl) rfl ?_
  refine st (y_nil rfl) rfl ?_
  refine st (fa79_0 rfl) rfl ?_
  refine st (y_loadb rfl one42 (by assumption) (by rfl)) rfl ?_
  refine st (y_snil_eq rfl rfl Try.underlying42) rfl ?_
  refine st (y_move rfl) rfl ?_
  refine stg rfl rfl (y_move rfl) rfl ?_
  refine stg_t rfl rfl (y_le_i (b := 64) rfl rfl) (by omega) rfl ?_
  refine st (y_pickT rfl rfl) rfl ?_
  refine l_nil ?_
  refine q_then ?_
  refine c_true rfl rfl ?_
  refine c_seq ?_
  refine c_region ?_
  refine st (y_move rfl) rfl ?_
  refine st (y_move rfl) rfl ?_
  refine mk42 (l := m) (c := 64) rfl rfl (by omega) (by omega) rfl ?_
  intro r w1 hr hB1 hK1 hS1
  have hst := hst.keep hK1 (by simp only [List.mem_cons, List.not_mem_nil, or_false, not_or, not_false_eq_true] <;> omega)
  refine st (y_nil rfl) rfl ?_
  refine st (fa79_0 rfl) rfl ?_
  refine st_store rfl rfl rfl sz42 (by assumption) (by first | simp | (simp; omega)) rfl ?_
  intro w2 hst2 hK2 hS2
  have hrow := hB1.keep hK2 (by simp only [List.mem_singleton]; omega)
  refine l_nil ?_
  refine q_then ?_
  refine c_seq ?_
  refine c_region ?_
  refine st (y_assign (v := vI ((0 : Nat) : Int)) rfl) rfl ?_
  refine l_nil ?_
  refine q_then ?_
  refine c_ret ?_
  refine q_then_ret ?_
  refine q_end1 (.inl rfl) rfl rfl ?_
  refine ⟨_, rfl, rfl, r, List.replicate 64 0, by simp at hr; omega, ⟨⟨lr, hst2⟩, ?_, by simpa using hm, by omega, by simp, lt_rep0 64⟩, ((Keep.drew w [b]).trans hK1 (by simp)).trans hK2 (fun i hi => .inl hi)⟩
  exact (by simpa using hrow : Blk w2 r 5 ((List.replicate 64 0).map v8)).toF

theorem c_growR (b r n m : Nat) (l : List Nat) (w : World) (hB : BufR w b r n l) (hn : n ≤ 1000000) (hm : m ≤ 1000000) (h0 : 0 < m) (hfit : l.length < n + m) :
    Cal Try.prog 101 [vP b, vI (m : Nat)] w fun v w' => v = vI (n : Nat) ∧ ∃ r' l', w.heap.size ≤ r' ∧ BufR w' b r' (n + m) l' ∧ l'.take n = l.take n ∧ Keep w w' [b] := by
  have hle := hB.le
  have hcap := hB.cap
  have hne := hB.ne
  refine go_in' Try.func101 rfl Try.ntmps101 (Nat.le_of_ble_eq_true rfl) ?_
  refine c_seq ?_
  refine c_region ?_
  refine st (y_assign (v := vI ((0 : Nat) : Int)) rfl) rfl ?_
  refine l_nil ?_
  refine q_then ?_
  refine c_seq ?_
  refine c_region ?_
  refine st (y_move rfl) rfl ?_
  refine sc rfl rfl isfn102 (c_BLen b r n l _ hB) rfl ?_
  rintro _ _ ⟨rfl, rfl⟩
  have hBd : BufR w.drew b r n l := hB.keep (Keep.drew w []) (by simp) (by simp)
  obtain ⟨lr, hst⟩ := hBd.st
  have hbl := hst.lt
  refine st (y_assign rfl) rfl ?_
  refine l_nil ?_
  refine q_then ?_
  refine c_cut (fun _ : Unit => [(0, vP b), (1, vI (m : Nat)), (5, vI (n : Nat))]) (fun _ w' => w' = w.drew) ?_ ?_
  · refine c_seq ?_
    refine c_region ?_
    refine st (y_move rfl) rfl ?_
    refine st_if (y_eq_i (b := 0) rfl rfl) rfl (fun hn0 => ?_) (fun hn0 => ?_)
    · refine st (y_move rfl) rfl ?_
      refine stg rfl rfl (y_move rfl) rfl ?_
      refine stg rfl rfl (y_nil rfl) rfl ?_
      refine stg rfl rfl (fa79_1 rfl) rfl ?_
      refine stg rfl rfl (y_loadb rfl one3 (by assumption) (by rfl)) rfl ?_
      refine stg_f rfl rfl (y_ne_i (b := 0) rfl rfl) (by omega) rfl ?_
      refine st (y_pickT rfl rfl) rfl ?_
      refine l_nil ?_
      refine q_then ?_
      refine c_false rfl rfl ?_
      refine c_skip ?_
      exact q_meet () ⟨rfl, rfl, rfl, trivial⟩ rfl
    ·
      refine st (y_move rfl) rfl ?_
      refine sno rfl rfl rfl rfl ?_
      refine sno rfl rfl rfl rfl ?_
      refine sno rfl rfl rfl rfl ?_
      refine sno rfl rfl rfl rfl ?_
      refine sno rfl rfl rfl rfl ?_
      refine st (y_pickF rfl rfl) rfl ?_
      refine l_nil ?_
      refine q_then ?_
      refine c_false rfl rfl ?_
      refine c_skip ?_
      exact q_meet () ⟨rfl, rfl, rfl, trivial⟩ rfl
  ·
    rintro _ w1 rfl
    refine c_seq ?_
    refine c_seq ?_
    refine c_region ?_
    refine st (y_move rfl) rfl ?_
    refine st (y_move rfl) rfl ?_
    refine sc rfl rfl isfn100 (c_tryG0 b r n m l _ hBd hm hfit) rfl ?_
    rintro _ _ ⟨rfl, rfl⟩
    refine st (y_move rfl) rfl ?_
    refine st (y_extract rfl rfl) rfl ?_
    refine st (y_extract rfl rfl) rfl ?_
    refine st (y_assign rfl) rfl ?_
    refine st (y_assign rfl) rfl ?_
    refine l_nil ?_
    refine q_then ?_
    refine c_seq ?_
    refine c_region ?_
    refine st (y_move rfl) rfl ?_
    refine l_nil ?_
    refine q_then ?_
    refine c_false rfl rfl ?_
    refine c_skip ?_
    refine q_then ?_
    refine c_seq ?_
    refine c_seq ?_
    refine c_region ?_
    refine st (y_move rfl) rfl ?_
    refine st (y_nil rfl) rfl ?_
    refine st (fa79_0 rfl) rfl ?_
    refine st (y_loadb rfl one42 (by assumption) (by rfl)) rfl ?_
    refine st (y_snil_eq rfl rfl Try.underlying42) rfl ?_
    refine st (y_move rfl) rfl ?_
    refine sno rfl rfl rfl rfl ?_
    refine sno rfl rfl rfl rfl ?_
    refine st (y_pickF rfl rfl) rfl ?_
    refine l_nil ?_
    refine q_then ?_
    refine c_false rfl rfl ?_
    refine c_skip ?_
    refine q_then ?_
    refine c_seq ?_
    refine c_region ?_
    refine st (y_move rfl) rfl ?_
    refine st (y_nil rfl) rfl ?_
    refine st (fa79_0 rfl) rfl ?_
    refine st (y_loadb rfl one42 (by assumption) (by rfl)) rfl ?_
    refine st (y_cap rfl Try.underlying42) rfl ?_
    refine st (y_assign rfl) rfl ?_
    refine l_nil ?_
    refine q_then ?_
    refine c_seq ?_
    refine c_seq ?_
    refine c_region ?_
    refine st (y_move rfl) rfl ?_
    refine st (y_move rfl) rfl ?_
    refine st (y_quo_i (b := 2) rfl rfl (by omega) (by omega)) rfl ?_
    refine st (y_move rfl) rfl ?_
    refine st (y_sub_i rfl rfl (by omega) (by omega)) rfl ?_
    refine st_f (y_le_i rfl rfl) (by omega) rfl ?_
    refine l_nil ?_
    refine q_then ?_
    refine c_false rfl rfl ?_
    refine c_seq ?_
    refine c_region ?_
    refine st (y_move rfl) rfl ?_
    refine st (y_move rfl) rfl ?_
    refine st (y_sub_i (a := 9223372036854775807) rfl rfl (by omega) (by omega)) rfl ?_
    refine st (y_move rfl) rfl ?_
    refine st (y_sub_i rfl rfl (by omega) (by omega)) rfl ?_
    refine st_f (y_gt_i rfl rfl) (by omega) rfl ?_
    have hstd := hst.drew
    refine l_nil ?_
    refine q_then ?_
    refine c_false rfl rfl ?_
    refine c_moves 19 ((fun w' => Blk w' b 79 [vS r n l.length, vI 0, .int .i8 lr])) (.take 0 (.take 1 (.take 2 (.take 3 (.take 4 (.take 5 (.take 6 (.take 7 (.take 8 (.take 9 (.take 10 (.take 11 (.take 12 (.take 13 (.take 14 (.take 15 (.one 16 (.take 17 (.take 18 (.last 19)))))))))))))))))))) mixed (by kernel_rfl) rfl (by kernel_rfl) (hstd) ?_
    show wpM _ _ _ _ _ _ _ _ _
    refine mt rfl (fun w' hS => y_move rfl) rfl rfl ?_
    refine mt rfl (fun w' hS => y_move rfl) rfl rfl ?_
    refine mt rfl (fun w' hS => y_nil rfl) rfl rfl ?_
    refine mt rfl (fun w' hS => fa79_0 rfl) rfl rfl ?_
    refine mt rfl (fun w' hS => y_loadb rfl one42 (by first | assumption | exact hS | exact hS.1 | exact hS.2.1 | exact hS.2.2.1 | exact hS.2.2.2.1 | exact hS.2 | exact hS.2.2 | exact hS.2.2.2) (by rfl)) rfl rfl ?_
    refine mt rfl (fun w' hS => y_move rfl) rfl rfl ?_
    refine mt rfl (fun w' hS => y_nil rfl) rfl rfl ?_
    refine mt rfl (fun w' hS => fa79_1 rfl) rfl rfl ?_
    refine mt rfl (fun w' hS => y_loadb rfl one3 (by first | assumption | exact hS | exact hS.1 | exact hS.2.1 | exact hS.2.2.1 | exact hS.2.2.2.1 | exact hS.2 | exact hS.2.2 | exact hS.2.2.2) (by rfl)) rfl rfl ?_
    refine mt rfl (fun w' hS => y_slice_0 rfl rfl Try.underlying42 sz5) rfl rfl ?_
    refine mt rfl (fun w' hS => y_move rfl) rfl rfl ?_
    refine mt rfl (fun w' hS => y_nil rfl) rfl rfl ?_
    refine mt rfl (fun w' hS => fa79_1 rfl) rfl rfl ?_
    refine mt rfl (fun w' hS => y_loadb rfl one3 (by first | assumption | exact hS | exact hS.1 | exact hS.2.1 | exact hS.2.2.1 | exact hS.2.2.2.1 | exact hS.2 | exact hS.2.2 | exact hS.2.2.2) (by rfl)) rfl rfl ?_
    refine mt rfl (fun w' hS => y_move rfl) rfl rfl ?_
    first | refine mt rfl (fun w' hS => y_add_in rfl rfl (by omega)) rfl rfl ?_ | refine mt rfl (fun w' hS => y_add_i rfl rfl (by omega) (by omega)) rfl rfl ?_
    refine mh rfl ?_
    first | rw [Int.zero_add] | rw [Nat.zero_add]
    have hrowd : BlkF w.drew.drew r 5 (l.map v8) := hBd.row
    refine sc rfl rfl isfn103 (c_growSlice r n m l _ hrowd hle (by omega) hm (by omega)) rfl ?_
    rintro _ w3 ⟨r3, c3, rfl, hc1, hc2, hr3, hB3, hK3⟩
    have hstd := hstd.keep hK3 (by simp only [List.mem_cons, List.not_mem_nil, or_false, not_or, not_false_eq_true] <;> omega)
    refine l_nil ?_
    refine mh_end (hstd) ?_
    refine mt rfl (fun w' hS => y_nil rfl) rfl rfl ?_
    refine mt rfl (fun w' hS => fa79_0 rfl) rfl rfl ?_
    refine mlast rfl ?_
    refine st_store rfl rfl rfl sz42 (by assumption) (by first | simp | (simp; omega)) rfl ?_
    intro w4 hst4 hK4 hS4
    have hr3l := hB3.lt
    have hr3' : w.heap.size ≤ r3 := hr3
    have hbl' : b < w.heap.size := hbl
    have hr3b : r3 ≠ b := by omega
    have hB34 := hB3.keep hK4 (by simpa using hr3b)
    clear hst hstd
    have hst : Blk w4 b 79 [vS r3 n c3, vI 0, .int .i8 lr] := hst4
    clear hst4
    refine l_nil ?_
    refine mlast_end ?_
    refine q_then ?_
    refine c_seq ?_
    refine c_region ?_
    refine st (y_move rfl) rfl ?_
    refine st (y_nil rfl) rfl ?_
    refine st (fa79_1 rfl) rfl ?_
    refine st_store rfl rfl rfl sz3 (by assumption) (by first | simp | (simp; omega)) rfl ?_
    intro w5 hst5 hK5 hS5
    have hB35 := hB34.keep hK5 (by simpa using hr3b)
    clear hst
    have hst : Blk w5 b 79 [vS r3 n c3, vI 0, .int .i8 lr] := hst5
    clear hst5
    refine l_nil ?_
    refine q_then ?_
    refine c_seq ?_
    refine c_region ?_
    refine st (y_move rfl) rfl ?_
    refine st (y_move rfl) rfl ?_
    refine st (y_nil rfl) rfl ?_
    refine st (fa79_0 rfl) rfl ?_
    refine st (y_loadb rfl one42 (by assumption) (by rfl)) rfl ?_
    refine st (y_move rfl) rfl ?_
    refine st (y_move rfl) rfl ?_
    first | refine st (y_add_in rfl rfl (by omega)) rfl ?_ | refine st (y_add_i rfl rfl (by omega) (by omega)) rfl ?_
    refine st (y_slice_h rfl rfl Try.underlying42 sz5 (by omega)) rfl ?_
    refine st (y_nil rfl) rfl ?_
    refine st (fa79_0 rfl) rfl ?_
    refine st_store rfl rfl rfl sz42 (by assumption) (by first | simp | (simp; omega)) rfl ?_
    intro w6 hst6 hK6 hS6
    have hB36 := hB35.keep hK6 (by simpa using hr3b)
    refine l_nil ?_
    refine q_then ?_
    refine c_seq ?_
    refine c_region ?_
    refine st (y_move rfl) rfl ?_
    refine st (y_assign rfl) rfl ?_
    refine l_nil ?_
    refine q_then ?_
    refine c_ret ?_
    refine q_end1 (.inl rfl) rfl rfl ?_
    have hll : (l.take n ++ List.replicate (c3 - n) 0).length = c3 := by simp; omega
    refine ⟨_, rfl, rfl, r3, l.take n ++ List.replicate (c3 - n) 0, hr3', ⟨⟨lr, by rw [hll]; exact hst6⟩, hB36, by rw [hll]; omega, hr3b, by rw [hll]; exact hc2, ?_⟩, ?_, ?_⟩
    · intro x hx
      rcases List.mem_append.1 hx with h | h
      · exact hB.lt x (List.mem_of_mem_take h)
      · exact lt_rep0 _ x h
    · rw [List.take_left' (by simp; omega)]
    · exact (((((Keep.drew w [b]).trans (Keep.drew _ []) (by simp)).trans hK3 (by simp)).trans hK4 (fun i hi => .inl hi)).trans hK5 (fun i hi => .inl hi)).trans hK6 (fun i hi => .inl hi)

end Go.Proofs.Ytlhbbndedbacpaa

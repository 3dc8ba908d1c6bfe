/- How many numbers two sets have joined: the loops over two rows of words, and the four counts, each by its contract. -/
import Derived.Test.YtlhbbndedbacpaaC3
import Derived.Test.YtlhbbndedbacpaaK8
import Derived.Test.YtlhbbndedbacpaaL9
set_option linter.unusedVariables false
set_option linter.unusedSimpArgs false
set_option maxRecDepth 100000
namespace Go.Proofs.Ytlhbbndedbacpaa
open Go Go.RowKit

theorem Rd.cellk {w : World} {ad : Addr} {n : Nat} {xs : List Nat} (h : Rd w (some ad) n xs) {k : Nat} (hk : k < n) : w.cell? (ad.add k) = some (vU (xs.getD k 0)) := by
  obtain ⟨ad', e, _, hc⟩ := h.2.2 (by omega)
  cases e
  exact hc k hk
theorem Rd.adr {w : World} {A : Option Addr} {n : Nat} {xs : List Nat} (h : Rd w A n xs) (hn : 0 < n) : ∃ ad, A = some ad := by
  obtain ⟨ad, e, _⟩ := h.2.2 hn
  exact ⟨ad, e⟩

theorem c_popcntOrSlice (A B : Option Addr) (n c m d : Nat) (xs ys : List Nat) (hx : ∀ x ∈ xs, x < 18446744073709551616) (hy : ∀ x ∈ ys, x < 18446744073709551616) (h0 : 0 < n) (h1 : n ≤ m) (hn : m ≤ 1000000) (w : World) (hRx : Rd w A n xs) (hRy : Rd w B m ys) :
    Cal Try.prog 71 [.slice A n c, .slice B m d] w fun v w' => v = vU (psum (zipw (· ||| ·) xs ys n)) ∧ Keep w w' [] := by
  have hlx := hRx.1
  obtain ⟨ax, rfl⟩ := hRx.adr h0
  obtain ⟨ay, rfl⟩ := hRy.adr (by omega)
  have hcy := hRy.cellk (k := n - 1) (by omega)
  refine go_in' Try.func71 rfl Try.ntmps71 (Nat.le_of_ble_eq_true rfl) ?_
  refine c_seq ?_
  refine c_region ?_
  refine st (y_assign (v := vU 0) rfl) rfl ?_
  refine l_nil ?_
  refine q_then ?_
  refine c_seq ?_
  refine c_region ?_
  refine st (y_move rfl) rfl ?_
  refine st (y_move rfl) rfl ?_
  refine st (y_len rfl Try.underlying69) rfl ?_
  refine st (y_sub_i (b := 1) rfl rfl (by omega) (by omega)) rfl ?_
  rw [show ((n : Int) - 1) = ((n - 1 : Nat) : Int) by omega]
  first | refine st (y_index0 rfl rfl Try.underlying69 sz34 (by omega)) rfl ?_ | refine st (y_index rfl rfl Try.underlying69 sz34 (by omega)) rfl ?_ | refine st (y_indexA rfl rfl Try.underlying69 sz34 (by omega)) rfl ?_
  refine st (y_load rfl one34 (by assumption)) rfl ?_
  refine l_nil ?_
  refine q_then ?_
  refine c_seq ?_
  refine c_seq ?_
  refine c_region ?_
  refine st (y_move rfl) rfl ?_
  refine st (y_len rfl Try.underlying69) rfl ?_
  refine st (y_move (v := vI ((0 : Nat) : Int)) rfl) rfl ?_
  refine l_nil ?_
  refine q_then ?_
  refine c_block ?_
  refine c_loop (fun k : Nat => [(0, .slice (some ax) n c), (1, .slice (some ay) m d), (4, vU (psum (zipw (· ||| ·) xs ys k))), (13, vI (n : Nat)), (14, vI (k : Nat))]) (fun k w' => k ≤ n ∧ Keep w w' []) (fun k => n - k) 0 ?_ ?_ ?_
  · exact ⟨rfl, rfl, rfl, rfl, rfl, trivial⟩
  · exact ⟨Nat.zero_le _, Keep.refl _ _⟩
  · rintro k w1 ⟨hk, hK⟩
    have hz := zipw_le (· ||| ·) xs ys k
    refine c_seq ?_
    refine c_region ?_
    refine st_if (y_lt_i rfl rfl) rfl (fun hlt => ?_) (fun hlt => ?_)
    · have hK2 := hK.trans (Keep.drew w1 []) (by simp)
      have hcx := (hRx.keep hK2 (by simp)).cellk (k := k) (by omega)
      have hcy := (hRy.keep hK2 (by simp)).cellk (k := k) (by omega)
      have hkx := getD_lt64 hx k
      have hky := getD_lt64 hy k
      have hlt64 : xs.getD k 0 ||| ys.getD k 0 < 18446744073709551616 := or_lt64 (getD_lt64 hx k) (getD_lt64 hy k)
      have hpp := popc_le (xs.getD k 0 ||| ys.getD k 0)
      refine l_nil ?_
      refine q_then ?_
      refine c_seq ?_
      refine c_true rfl rfl ?_
      refine c_skip ?_
      refine q_then ?_
      refine c_seq ?_
      refine c_block ?_
      refine c_seq ?_
      refine c_region ?_
      refine st (y_move rfl) rfl ?_
      refine st (y_assign rfl) rfl ?_
      refine l_nil ?_
      refine q_then ?_
      refine c_tail 13 mixed (by kernel_rfl) ?_
      refine ss (y_move rfl) rfl ?_
      refine ss (y_move rfl) rfl ?_
      refine ss (y_move rfl) rfl ?_
      first | refine ss (y_index0 rfl rfl Try.underlying69 sz34 (by omega)) rfl ?_ | refine ss (y_index rfl rfl Try.underlying69 sz34 (by omega)) rfl ?_ | refine ss (y_indexA rfl rfl Try.underlying69 sz34 (by omega)) rfl ?_
      refine ss (y_load rfl one34 (by assumption)) rfl ?_
      refine ss (y_move rfl) rfl ?_
      refine ss (y_move rfl) rfl ?_
      first | refine ss (y_index0 rfl rfl Try.underlying69 sz34 (by omega)) rfl ?_ | refine ss (y_index rfl rfl Try.underlying69 sz34 (by omega)) rfl ?_ | refine ss (y_indexA rfl rfl Try.underlying69 sz34 (by omega)) rfl ?_
      refine ss (y_load rfl one34 (by assumption)) rfl ?_
      refine ss (y_or rfl rfl (by first | omega | assumption | (repeat (first | assumption | omega | decide | exact shl_lt64 _ _ | apply and_lt64 | apply or_lt64 | apply xor_lt64 | apply nt_lt | apply shr_lt64 | apply getD_lt64))) (by first | omega | assumption | (repeat (first | assumption | omega | decide | exact shl_lt64 _ _ | apply and_lt64 | apply or_lt64 | apply xor_lt64 | apply nt_lt | apply shr_lt64 | apply getD_lt64)))) rfl ?_
      refine ssc rfl rfl isfn63 (c_OnesCount64 _ hlt64 _) rfl ?_
      refine ss (y_conv_iu rfl us3 Try.underlying34 rfl (by omega)) rfl ?_
      refine ss (y_add_u rfl rfl (by omega)) rfl ?_
      refine s_nil ?_
      show wpL _ _ _ _ _ _ _ _
      refine st (y_assign rfl) rfl ?_
      refine l_nil ?_
      refine q_block ?_
      refine q_then ?_
      refine c_region ?_
      first | refine st (y_add_in (b := 1) rfl rfl (by omega)) rfl ?_ | refine st (y_add_i (b := 1) rfl rfl (by omega) (by omega)) rfl ?_
      refine st (y_move rfl) rfl ?_
      refine l_nil ?_
      refine q_round (k + 1) ⟨rfl, rfl, ?_, rfl, rfl, trivial⟩ ⟨by omega, hK2⟩ (by omega)
      rw [zipw_succ]; rfl
    ·
      have hkn : k = n := by omega
      subst hkn
      refine l_nil ?_
      refine q_then ?_
      refine c_seq ?_
      refine c_false rfl rfl ?_
      refine c_exit ?_
      refine q_then_exit ?_
      refine q_then_exit ?_
      refine q_block_hit ?_
      refine q_then ?_
      refine c_ret ?_
      refine q_end1 (.inl rfl) rfl rfl ?_
      exact ⟨_, rfl, rfl, hK⟩

theorem c_popcntAndSlice (A B : Option Addr) (n c m d : Nat) (xs ys : List Nat) (hx : ∀ x ∈ xs, x < 18446744073709551616) (hy : ∀ x ∈ ys, x < 18446744073709551616) (h0 : 0 < n) (h1 : n ≤ m) (hn : m ≤ 1000000) (w : World) (hRx : Rd w A n xs) (hRy : Rd w B m ys) :
    Cal Try.prog 72 [.slice A n c, .slice B m d] w fun v w' => v = vU (psum (zipw (· &&& ·) xs ys n)) ∧ Keep w w' [] := by
  have hlx := hRx.1
  obtain ⟨ax, rfl⟩ := hRx.adr h0
  obtain ⟨ay, rfl⟩ := hRy.adr (by omega)
  have hcy := hRy.cellk (k := n - 1) (by omega)
  refine go_in' Try.func72 rfl Try.ntmps72 (Nat.le_of_ble_eq_true rfl) ?_
  refine c_seq ?_
  refine c_region ?_
  refine st (y_assign (v := vU 0) rfl) rfl ?_
  refine l_nil ?_
  refine q_then ?_
  refine c_seq ?_
  refine c_region ?_
  refine st (y_move rfl) rfl ?_
  refine st (y_move rfl) rfl ?_
  refine st (y_len rfl Try.underlying69) rfl ?_
  refine st (y_sub_i (b := 1) rfl rfl (by omega) (by omega)) rfl ?_
  rw [show ((n : Int) - 1) = ((n - 1 : Nat) : Int) by omega]
  first | refine st (y_index0 rfl rfl Try.underlying69 sz34 (by omega)) rfl ?_ | refine st (y_index rfl rfl Try.underlying69 sz34 (by omega)) rfl ?_ | refine st (y_indexA rfl rfl Try.underlying69 sz34 (by omega)) rfl ?_
  refine st (y_load rfl one34 (by assumption)) rfl ?_
  refine l_nil ?_
  refine q_then ?_
  refine c_seq ?_
  refine c_seq ?_
  refine c_region ?_
  refine st (y_move rfl) rfl ?_
  refine st (y_len rfl Try.underlying69) rfl ?_
  refine st (y_move (v := vI ((0 : Nat) : Int)) rfl) rfl ?_
  refine l_nil ?_
  refine q_then ?_
  refine c_block ?_
  refine c_loop (fun k : Nat => [(0, .slice (some ax) n c), (1, .slice (some ay) m d), (4, vU (psum (zipw (· &&& ·) xs ys k))), (13, vI (n : Nat)), (14, vI (k : Nat))]) (fun k w' => k ≤ n ∧ Keep w w' []) (fun k => n - k) 0 ?_ ?_ ?_
  · exact ⟨rfl, rfl, rfl, rfl, rfl, trivial⟩
  · exact ⟨Nat.zero_le _, Keep.refl _ _⟩
  · rintro k w1 ⟨hk, hK⟩
    have hz := zipw_le (· &&& ·) xs ys k
    refine c_seq ?_
    refine c_region ?_
    refine st_if (y_lt_i rfl rfl) rfl (fun hlt => ?_) (fun hlt => ?_)
    · have hK2 := hK.trans (Keep.drew w1 []) (by simp)
      have hcx := (hRx.keep hK2 (by simp)).cellk (k := k) (by omega)
      have hcy := (hRy.keep hK2 (by simp)).cellk (k := k) (by omega)
      have hkx := getD_lt64 hx k
      have hky := getD_lt64 hy k
      have hlt64 : xs.getD k 0 &&& ys.getD k 0 < 18446744073709551616 := Nat.lt_of_le_of_lt Nat.and_le_left (getD_lt64 hx k)
      have hpp := popc_le (xs.getD k 0 &&& ys.getD k 0)
      refine l_nil ?_
      refine q_then ?_
      refine c_seq ?_
      refine c_true rfl rfl ?_
      refine c_skip ?_
      refine q_then ?_
      refine c_seq ?_
      refine c_block ?_
      refine c_seq ?_
      refine c_region ?_
      refine st (y_move rfl) rfl ?_
      refine st (y_assign rfl) rfl ?_
      refine l_nil ?_
      refine q_then ?_
      refine c_tail 13 mixed (by kernel_rfl) ?_
      refine ss (y_move rfl) rfl ?_
      refine ss (y_move rfl) rfl ?_
      refine ss (y_move rfl) rfl ?_
      first | refine ss (y_index0 rfl rfl Try.underlying69 sz34 (by omega)) rfl ?_ | refine ss (y_index rfl rfl Try.underlying69 sz34 (by omega)) rfl ?_ | refine ss (y_indexA rfl rfl Try.underlying69 sz34 (by omega)) rfl ?_
      refine ss (y_load rfl one34 (by assumption)) rfl ?_
      refine ss (y_move rfl) rfl ?_
      refine ss (y_move rfl) rfl ?_
      first | refine ss (y_index0 rfl rfl Try.underlying69 sz34 (by omega)) rfl ?_ | refine ss (y_index rfl rfl Try.underlying69 sz34 (by omega)) rfl ?_ | refine ss (y_indexA rfl rfl Try.underlying69 sz34 (by omega)) rfl ?_
      refine ss (y_load rfl one34 (by assumption)) rfl ?_
      refine ss (y_and rfl rfl (by first | omega | assumption | (repeat (first | assumption | omega | decide | exact shl_lt64 _ _ | apply and_lt64 | apply or_lt64 | apply xor_lt64 | apply nt_lt | apply shr_lt64 | apply getD_lt64))) (by first | omega | assumption | (repeat (first | assumption | omega | decide | exact shl_lt64 _ _ | apply and_lt64 | apply or_lt64 | apply xor_lt64 | apply nt_lt | apply shr_lt64 | apply getD_lt64)))) rfl ?_
      refine ssc rfl rfl isfn63 (c_OnesCount64 _ hlt64 _) rfl ?_
      refine ss (y_conv_iu rfl us3 Try.underlying34 rfl (by omega)) rfl ?_
      refine ss (y_add_u rfl rfl (by omega)) rfl ?_
      refine s_nil ?_
      show wpL _ _ _ _ _ _ _ _
      refine st (y_assign rfl) rfl ?_
      refine l_nil ?_
      refine q_block ?_
      refine q_then ?_
      refine c_region ?_
      first | refine st (y_add_in (b := 1) rfl rfl (by omega)) rfl ?_ | refine st (y_add_i (b := 1) rfl rfl (by omega) (by omega)) rfl ?_
      refine st (y_move rfl) rfl ?_
      refine l_nil ?_
      refine q_round (k + 1) ⟨rfl, rfl, ?_, rfl, rfl, trivial⟩ ⟨by omega, hK2⟩ (by omega)
      rw [zipw_succ]; rfl
    ·
      have hkn : k = n := by omega
      subst hkn
      refine l_nil ?_
      refine q_then ?_
      refine c_seq ?_
      refine c_false rfl rfl ?_
      refine c_exit ?_
      refine q_then_exit ?_
      refine q_then_exit ?_
      refine q_block_hit ?_
      refine q_then ?_
      refine c_ret ?_
      refine q_end1 (.inl rfl) rfl rfl ?_
      exact ⟨_, rfl, rfl, hK⟩

theorem c_popcntXorSlice (A B : Option Addr) (n c m d : Nat) (xs ys : List Nat) (hx : ∀ x ∈ xs, x < 18446744073709551616) (hy : ∀ x ∈ ys, x < 18446744073709551616) (h0 : 0 < n) (h1 : n ≤ m) (hn : m ≤ 1000000) (w : World) (hRx : Rd w A n xs) (hRy : Rd w B m ys) :
    Cal Try.prog 74 [.slice A n c, .slice B m d] w fun v w' => v = vU (psum (zipw (· ^^^ ·) xs ys n)) ∧ Keep w w' [] := by
  have hlx := hRx.1
  obtain ⟨ax, rfl⟩ := hRx.adr h0
  obtain ⟨ay, rfl⟩ := hRy.adr (by omega)
  have hcy := hRy.cellk (k := n - 1) (by omega)
  refine go_in' Try.func74 rfl Try.ntmps74 (Nat.le_of_ble_eq_true rfl) ?_
  refine c_seq ?_
  refine c_region ?_
  refine st (y_assign (v := vU 0) rfl) rfl ?_
  refine l_nil ?_
  refine q_then ?_
  refine c_seq ?_
  refine c_region ?_
  refine st (y_move rfl) rfl ?_
  refine st (y_move rfl) rfl ?_
  refine st (y_len rfl Try.underlying69) rfl ?_
  refine st (y_sub_i (b := 1) rfl rfl (by omega) (by omega)) rfl ?_
  rw [show ((n : Int) - 1) = ((n - 1 : Nat) : Int) by omega]
  first | refine st (y_index0 rfl rfl Try.underlying69 sz34 (by omega)) rfl ?_ | refine st (y_index rfl rfl Try.underlying69 sz34 (by omega)) rfl ?_ | refine st (y_indexA rfl rfl Try.underlying69 sz34 (by omega)) rfl ?_
  refine st (y_load rfl one34 (by assumption)) rfl ?_
  refine l_nil ?_
  refine q_then ?_
  refine c_seq ?_
  refine c_seq ?_
  refine c_region ?_
  refine st (y_move rfl) rfl ?_
  refine st (y_len rfl Try.underlying69) rfl ?_
  refine st (y_move (v := vI ((0 : Nat) : Int)) rfl) rfl ?_
  refine l_nil ?_
  refine q_then ?_
  refine c_block ?_
  refine c_loop (fun k : Nat => [(0, .slice (some ax) n c), (1, .slice (some ay) m d), (4, vU (psum (zipw (· ^^^ ·) xs ys k))), (13, vI (n : Nat)), (14, vI (k : Nat))]) (fun k w' => k ≤ n ∧ Keep w w' []) (fun k => n - k) 0 ?_ ?_ ?_
  · exact ⟨rfl, rfl, rfl, rfl, rfl, trivial⟩
  · exact ⟨Nat.zero_le _, Keep.refl _ _⟩
  · rintro k w1 ⟨hk, hK⟩
    have hz := zipw_le (· ^^^ ·) xs ys k
    refine c_seq ?_
    refine c_region ?_
    refine st_if (y_lt_i rfl rfl) rfl (fun hlt => ?_) (fun hlt => ?_)
    · have hK2 := hK.trans (Keep.drew w1 []) (by simp)
      have hcx := (hRx.keep hK2 (by simp)).cellk (k := k) (by omega)
      have hcy := (hRy.keep hK2 (by simp)).cellk (k := k) (by omega)
      have hkx := getD_lt64 hx k
      have hky := getD_lt64 hy k
      have hlt64 : xs.getD k 0 ^^^ ys.getD k 0 < 18446744073709551616 := xor_lt64 (getD_lt64 hx k) (getD_lt64 hy k)
      have hpp := popc_le (xs.getD k 0 ^^^ ys.getD k 0)
      refine l_nil ?_
      refine q_then ?_
      refine c_seq ?_
      refine c_true rfl rfl ?_
      refine c_skip ?_
      refine q_then ?_
      refine c_seq ?_
      refine c_block ?_
      refine c_seq ?_
      refine c_region ?_
      refine st (y_move rfl) rfl ?_
      refine st (y_assign rfl) rfl ?_
      refine l_nil ?_
      refine q_then ?_
      refine c_tail 13 mixed (by kernel_rfl) ?_
      refine ss (y_move rfl) rfl ?_
      refine ss (y_move rfl) rfl ?_
      refine ss (y_move rfl) rfl ?_
      first | refine ss (y_index0 rfl rfl Try.underlying69 sz34 (by omega)) rfl ?_ | refine ss (y_index rfl rfl Try.underlying69 sz34 (by omega)) rfl ?_ | refine ss (y_indexA rfl rfl Try.underlying69 sz34 (by omega)) rfl ?_
      refine ss (y_load rfl one34 (by assumption)) rfl ?_
      refine ss (y_move rfl) rfl ?_
      refine ss (y_move rfl) rfl ?_
      first | refine ss (y_index0 rfl rfl Try.underlying69 sz34 (by omega)) rfl ?_ | refine ss (y_index rfl rfl Try.underlying69 sz34 (by omega)) rfl ?_ | refine ss (y_indexA rfl rfl Try.underlying69 sz34 (by omega)) rfl ?_
      refine ss (y_load rfl one34 (by assumption)) rfl ?_
      refine ss (y_xor rfl rfl (by first | omega | assumption | (repeat (first | assumption | omega | decide | exact shl_lt64 _ _ | apply and_lt64 | apply or_lt64 | apply xor_lt64 | apply nt_lt | apply shr_lt64 | apply getD_lt64))) (by first | omega | assumption | (repeat (first | assumption | omega | decide | exact shl_lt64 _ _ | apply and_lt64 | apply or_lt64 | apply xor_lt64 | apply nt_lt | apply shr_lt64 | apply getD_lt64)))) rfl ?_
      refine ssc rfl rfl isfn63 (c_OnesCount64 _ hlt64 _) rfl ?_
      refine ss (y_conv_iu rfl us3 Try.underlying34 rfl (by omega)) rfl ?_
      refine ss (y_add_u rfl rfl (by omega)) rfl ?_
      refine s_nil ?_
      show wpL _ _ _ _ _ _ _ _
      refine st (y_assign rfl) rfl ?_
      refine l_nil ?_
      refine q_block ?_
      refine q_then ?_
      refine c_region ?_
      first | refine st (y_add_in (b := 1) rfl rfl (by omega)) rfl ?_ | refine st (y_add_i (b := 1) rfl rfl (by omega) (by omega)) rfl ?_
      refine st (y_move rfl) rfl ?_
      refine l_nil ?_
      refine q_round (k + 1) ⟨rfl, rfl, ?_, rfl, rfl, trivial⟩ ⟨by omega, hK2⟩ (by omega)
      rw [zipw_succ]; rfl
    ·
      have hkn : k = n := by omega
      subst hkn
      refine l_nil ?_
      refine q_then ?_
      refine c_seq ?_
      refine c_false rfl rfl ?_
      refine c_exit ?_
      refine q_then_exit ?_
      refine q_then_exit ?_
      refine q_block_hit ?_
      refine q_then ?_
      refine c_ret ?_
      refine q_end1 (.inl rfl) rfl rfl ?_
      exact ⟨_, rfl, rfl, hK⟩
theorem ntE (a : Nat) : nt a = nt' a := rfl

theorem c_popcntMaskSlice (A B : Option Addr) (n c m d : Nat) (xs ys : List Nat) (hx : ∀ x ∈ xs, x < 18446744073709551616) (hy : ∀ x ∈ ys, x < 18446744073709551616) (h0 : 0 < n) (h1 : n ≤ m) (hn : m ≤ 1000000) (w : World) (hRx : Rd w A n xs) (hRy : Rd w B m ys) :
    Cal Try.prog 73 [.slice A n c, .slice B m d] w fun v w' => v = vU (psum (zipw (fun x y => x &&& nt' y) xs ys n)) ∧ Keep w w' [] := by
  have hlx := hRx.1
  obtain ⟨ax, rfl⟩ := hRx.adr h0
  obtain ⟨ay, rfl⟩ := hRy.adr (by omega)
  have hcy := hRy.cellk (k := n - 1) (by omega)
  refine go_in' Try.func73 rfl Try.ntmps73 (Nat.le_of_ble_eq_true rfl) ?_
  refine c_seq ?_
  refine c_region ?_
  refine st (y_assign (v := vU 0) rfl) rfl ?_
  refine l_nil ?_
  refine q_then ?_
  refine c_seq ?_
  refine c_region ?_
  refine st (y_move rfl) rfl ?_
  refine st (y_move rfl) rfl ?_
  refine st (y_len rfl Try.underlying69) rfl ?_
  refine st (y_sub_i (b := 1) rfl rfl (by omega) (by omega)) rfl ?_
  rw [show ((n : Int) - 1) = ((n - 1 : Nat) : Int) by omega]
  first | refine st (y_index0 rfl rfl Try.underlying69 sz34 (by omega)) rfl ?_ | refine st (y_index rfl rfl Try.underlying69 sz34 (by omega)) rfl ?_ | refine st (y_indexA rfl rfl Try.underlying69 sz34 (by omega)) rfl ?_
  refine st (y_load rfl one34 (by assumption)) rfl ?_
  refine l_nil ?_
  refine q_then ?_
  refine c_seq ?_
  refine c_region ?_
  refine st (y_assign (v := vU 0) rfl) rfl ?_
  refine st (y_assign (v := vU 0) rfl) rfl ?_
  refine st (y_assign (v := vU 0) rfl) rfl ?_
  refine st (y_assign (v := vU 0) rfl) rfl ?_
  refine l_nil ?_
  refine q_then ?_
  refine c_seq ?_
  refine c_region ?_
  refine st (y_move rfl) rfl ?_
  refine st (y_len rfl Try.underlying69) rfl ?_
  refine st (y_assign rfl) rfl ?_
  refine l_nil ?_
  refine q_then ?_
  refine c_seq ?_
  refine c_region ?_
  refine st (y_assign (v := vI ((0 : Nat) : Int)) rfl) rfl ?_
  refine l_nil ?_
  refine q_then ?_
  refine c_seq ?_
  refine c_block ?_
  refine c_loop (fun x : Nat × Nat × Nat × Nat × Nat => [(0, .slice (some ax) n c), (1, .slice (some ay) m d), (5, vU x.2.1), (6, vU x.2.2.1), (7, vU x.2.2.2.1), (8, vU x.2.2.2.2), (9, vI (n : Nat)), (10, vI (x.1 : Nat))]) (fun x w' => x.1 ≤ n ∧ Keep w w' [] ∧ x.2.1 + x.2.2.1 + x.2.2.2.1 + x.2.2.2.2 = psum (zipw (fun x y => x &&& nt' y) xs ys x.1)) (fun x => n - x.1) (0, 0, 0, 0, 0) ?_ ?_ ?_
  · exact ⟨rfl, rfl, rfl, rfl, rfl, rfl, rfl, rfl, trivial⟩
  · exact ⟨Nat.zero_le _, Keep.refl _ _, rfl⟩
  · rintro ⟨k, a0, a1, a2, a3⟩ w1 ⟨hk, hK, hsum⟩
    simp only at hk hK hsum ⊢
    have hz := zipw_le (fun x y => x &&& nt' y) xs ys k
    refine c_seq ?_
    refine c_seq ?_
    refine c_region ?_
    refine st (y_move rfl) rfl ?_
    refine st (y_move rfl) rfl ?_
    refine st (y_sub_i (b := 4) rfl rfl (by omega) (by omega)) rfl ?_
    refine st_if (y_le_i rfl rfl) rfl (fun h4 => ?_) (fun h4 => ?_)
    · have hK0 := hK
      have hp0 := popc_le (xs.getD k 0 &&& nt' (ys.getD k 0))
      have hp1 := popc_le (xs.getD (k + 1) 0 &&& nt' (ys.getD (k + 1) 0))
      have hp2 := popc_le (xs.getD (k + 2) 0 &&& nt' (ys.getD (k + 2) 0))
      have hp3 := popc_le (xs.getD (k + 3) 0 &&& nt' (ys.getD (k + 3) 0))
      refine l_nil ?_
      refine q_then ?_
      refine c_true rfl rfl ?_
      refine c_skip ?_
      refine q_then ?_
      refine c_seq ?_
      refine c_block ?_
      refine c_seq ?_
      have hK1 := hK0.trans (Keep.drew w1 []) (by simp)
      have hcx0 := (hRx.keep hK1 (by simp)).cellk (k := k) (by omega)
      have hcy0 := (hRy.keep hK1 (by simp)).cellk (k := k) (by omega)
      refine c_tail 13 mixed (by kernel_rfl) ?_
      refine ss (y_move rfl) rfl ?_
      refine ss (y_move rfl) rfl ?_
      refine ss (y_move rfl) rfl ?_
      first | refine ss (y_index0 rfl rfl Try.underlying69 sz34 (by omega)) rfl ?_ | refine ss (y_index rfl rfl Try.underlying69 sz34 (by omega)) rfl ?_ | refine ss (y_indexA rfl rfl Try.underlying69 sz34 (by omega)) rfl ?_
      refine ss (y_load rfl one34 (by assumption)) rfl ?_
      refine ss (y_move rfl) rfl ?_
      refine ss (y_move rfl) rfl ?_
      first | refine ss (y_index0 rfl rfl Try.underlying69 sz34 (by omega)) rfl ?_ | refine ss (y_index rfl rfl Try.underlying69 sz34 (by omega)) rfl ?_ | refine ss (y_indexA rfl rfl Try.underlying69 sz34 (by omega)) rfl ?_
      refine ss (y_load rfl one34 (by assumption)) rfl ?_
      refine ss (y_andNot rfl rfl (by first | omega | assumption | (repeat (first | assumption | omega | decide | exact shl_lt64 _ _ | apply and_lt64 | apply or_lt64 | apply xor_lt64 | apply nt_lt | apply shr_lt64 | apply getD_lt64))) (by first | omega | assumption | (repeat (first | assumption | omega | decide | exact shl_lt64 _ _ | apply and_lt64 | apply or_lt64 | apply xor_lt64 | apply nt_lt | apply shr_lt64 | apply getD_lt64)))) rfl ?_
      refine ssc rfl rfl isfn63 (c_OnesCount64 _ (and_lt64 _ (getD_lt64 hx k)) _) rfl ?_
      rw [ntE]
      refine ss (y_conv_iu rfl us3 Try.underlying34 rfl (by omega)) rfl ?_
      refine ss (y_add_u rfl rfl (by omega)) rfl ?_
      refine s_nil ?_
      show wpL _ _ _ _ _ _ _ _
      refine st (y_assign rfl) rfl ?_
      refine l_nil ?_
      refine q_then ?_
      refine c_seq ?_
      have hK2 := hK1.trans (Keep.drew w1.drew []) (by simp)
      have hcx1 := (hRx.keep hK2 (by simp)).cellk (k := (k + 1)) (by omega)
      have hcy1 := (hRy.keep hK2 (by simp)).cellk (k := (k + 1)) (by omega)
      refine c_tail 15 mixed (by kernel_rfl) ?_
      refine ss (y_move rfl) rfl ?_
      refine ss (y_move rfl) rfl ?_
      refine ss (y_move rfl) rfl ?_
      first | refine ss (y_add_in (b := 1) rfl rfl (by omega)) rfl ?_ | refine ss (y_add_i (b := 1) rfl rfl (by omega) (by omega)) rfl ?_
      first | refine ss (y_index0 rfl rfl Try.underlying69 sz34 (by omega)) rfl ?_ | refine ss (y_index rfl rfl Try.underlying69 sz34 (by omega)) rfl ?_ | refine ss (y_indexA rfl rfl Try.underlying69 sz34 (by omega)) rfl ?_
      refine ss (y_load rfl one34 (by assumption)) rfl ?_
      refine ss (y_move rfl) rfl ?_
      refine ss (y_move rfl) rfl ?_
      first | refine ss (y_add_in (b := 1) rfl rfl (by omega)) rfl ?_ | refine ss (y_add_i (b := 1) rfl rfl (by omega) (by omega)) rfl ?_
      first | refine ss (y_index0 rfl rfl Try.underlying69 sz34 (by omega)) rfl ?_ | refine ss (y_index rfl rfl Try.underlying69 sz34 (by omega)) rfl ?_ | refine ss (y_indexA rfl rfl Try.underlying69 sz34 (by omega)) rfl ?_
      refine ss (y_load rfl one34 (by assumption)) rfl ?_
      refine ss (y_andNot rfl rfl (by first | omega | assumption | (repeat (first | assumption | omega | decide | exact shl_lt64 _ _ | apply and_lt64 | apply or_lt64 | apply xor_lt64 | apply nt_lt | apply shr_lt64 | apply getD_lt64))) (by first | omega | assumption | (repeat (first | assumption | omega | decide | exact shl_lt64 _ _ | apply and_lt64 | apply or_lt64 | apply xor_lt64 | apply nt_lt | apply shr_lt64 | apply getD_lt64)))) rfl ?_
      refine ssc rfl rfl isfn63 (c_OnesCount64 _ (and_lt64 _ (getD_lt64 hx (k + 1))) _) rfl ?_
      rw [ntE]
      refine ss (y_conv_iu rfl us3 Try.underlying34 rfl (by omega)) rfl ?_
      refine ss (y_add_u rfl rfl (by omega)) rfl ?_
      refine s_nil ?_
      show wpL _ _ _ _ _ _ _ _
      refine st (y_assign rfl) rfl ?_
      refine l_nil ?_
      refine q_then ?_
      refine c_seq ?_
      have hK3 := hK2.trans (Keep.drew w1.drew.drew []) (by simp)
      have hcx2 := (hRx.keep hK3 (by simp)).cellk (k := (k + 2)) (by omega)
      have hcy2 := (hRy.keep hK3 (by simp)).cellk (k := (k + 2)) (by omega)
      refine c_tail 15 mixed (by kernel_rfl) ?_
      refine ss (y_move rfl) rfl ?_
      refine ss (y_move rfl) rfl ?_
      refine ss (y_move rfl) rfl ?_
      first | refine ss (y_add_in (b := 2) rfl rfl (by omega)) rfl ?_ | refine ss (y_add_i (b := 2) rfl rfl (by omega) (by omega)) rfl ?_
      first | refine ss (y_index0 rfl rfl Try.underlying69 sz34 (by omega)) rfl ?_ | refine ss (y_index rfl rfl Try.underlying69 sz34 (by omega)) rfl ?_ | refine ss (y_indexA rfl rfl Try.underlying69 sz34 (by omega)) rfl ?_
      refine ss (y_load rfl one34 (by assumption)) rfl ?_
      refine ss (y_move rfl) rfl ?_
      refine ss (y_move rfl) rfl ?_
      first | refine ss (y_add_in (b := 2) rfl rfl (by omega)) rfl ?_ | refine ss (y_add_i (b := 2) rfl rfl (by omega) (by omega)) rfl ?_
      first | refine ss (y_index0 rfl rfl Try.underlying69 sz34 (by omega)) rfl ?_ | refine ss (y_index rfl rfl Try.underlying69 sz34 (by omega)) rfl ?_ | refine ss (y_indexA rfl rfl Try.underlying69 sz34 (by omega)) rfl ?_
      refine ss (y_load rfl one34 (by assumption)) rfl ?_
      refine ss (y_andNot rfl rfl (by first | omega | assumption | (repeat (first | assumption | omega | decide | exact shl_lt64 _ _ | apply and_lt64 | apply or_lt64 | apply xor_lt64 | apply nt_lt | apply shr_lt64 | apply getD_lt64))) (by first | omega | assumption | (repeat (first | assumption | omega | decide | exact shl_lt64 _ _ | apply and_lt64 | apply or_lt64 | apply xor_lt64 | apply nt_lt | apply shr_lt64 | apply getD_lt64)))) rfl ?_
      refine ssc rfl rfl isfn63 (c_OnesCount64 _ (and_lt64 _ (getD_lt64 hx (k + 2))) _) rfl ?_
      rw [ntE]
      refine ss (y_conv_iu rfl us3 Try.underlying34 rfl (by omega)) rfl ?_
      refine ss (y_add_u rfl rfl (by omega)) rfl ?_
      refine s_nil ?_
      show wpL _ _ _ _ _ _ _ _
      refine st (y_assign rfl) rfl ?_
      refine l_nil ?_
      refine q_then ?_
      have hK4 := hK3.trans (Keep.drew w1.drew.drew.drew []) (by simp)
      have hcx3 := (hRx.keep hK4 (by simp)).cellk (k := (k + 3)) (by omega)
      have hcy3 := (hRy.keep hK4 (by simp)).cellk (k := (k + 3)) (by omega)
      refine c_tail 15 mixed (by kernel_rfl) ?_
      refine ss (y_move rfl) rfl ?_
      refine ss (y_move rfl) rfl ?_
      refine ss (y_move rfl) rfl ?_
      first | refine ss (y_add_in (b := 3) rfl rfl (by omega)) rfl ?_ | refine ss (y_add_i (b := 3) rfl rfl (by omega) (by omega)) rfl ?_
      first | refine ss (y_index0 rfl rfl Try.underlying69 sz34 (by omega)) rfl ?_ | refine ss (y_index rfl rfl Try.underlying69 sz34 (by omega)) rfl ?_ | refine ss (y_indexA rfl rfl Try.underlying69 sz34 (by omega)) rfl ?_
      refine ss (y_load rfl one34 (by assumption)) rfl ?_
      refine ss (y_move rfl) rfl ?_
      refine ss (y_move rfl) rfl ?_
      first | refine ss (y_add_in (b := 3) rfl rfl (by omega)) rfl ?_ | refine ss (y_add_i (b := 3) rfl rfl (by omega) (by omega)) rfl ?_
      first | refine ss (y_index0 rfl rfl Try.underlying69 sz34 (by omega)) rfl ?_ | refine ss (y_index rfl rfl Try.underlying69 sz34 (by omega)) rfl ?_ | refine ss (y_indexA rfl rfl Try.underlying69 sz34 (by omega)) rfl ?_
      refine ss (y_load rfl one34 (by assumption)) rfl ?_
      refine ss (y_andNot rfl rfl (by first | omega | assumption | (repeat (first | assumption | omega | decide | exact shl_lt64 _ _ | apply and_lt64 | apply or_lt64 | apply xor_lt64 | apply nt_lt | apply shr_lt64 | apply getD_lt64))) (by first | omega | assumption | (repeat (first | assumption | omega | decide | exact shl_lt64 _ _ | apply and_lt64 | apply or_lt64 | apply xor_lt64 | apply nt_lt | apply shr_lt64 | apply getD_lt64)))) rfl ?_
      refine ssc rfl rfl isfn63 (c_OnesCount64 _ (and_lt64 _ (getD_lt64 hx (k + 3))) _) rfl ?_
      rw [ntE]
      refine ss (y_conv_iu rfl us3 Try.underlying34 rfl (by omega)) rfl ?_
      refine ss (y_add_u rfl rfl (by omega)) rfl ?_
      refine s_nil ?_
      show wpL _ _ _ _ _ _ _ _
      refine st (y_assign rfl) rfl ?_
      refine l_nil ?_
      refine q_block ?_
      refine q_then ?_
      refine c_region ?_
      refine st (y_move rfl) rfl ?_
      first | refine st (y_add_in (b := 4) rfl rfl (by omega)) rfl ?_ | refine st (y_add_i (b := 4) rfl rfl (by omega) (by omega)) rfl ?_
      refine st (y_assign rfl) rfl ?_
      refine l_nil ?_
      refine q_round (k + 4, a0 + popc (xs.getD k 0 &&& nt' (ys.getD k 0)), a1 + popc (xs.getD (k + 1) 0 &&& nt' (ys.getD (k + 1) 0)), a2 + popc (xs.getD (k + 2) 0 &&& nt' (ys.getD (k + 2) 0)), a3 + popc (xs.getD (k + 3) 0 &&& nt' (ys.getD (k + 3) 0))) ⟨rfl, rfl, rfl, rfl, rfl, rfl, rfl, rfl, trivial⟩ ⟨by simp only; omega, hK4, ?_⟩ (by simp only; omega)
      simp only
      rw [show k + 4 = k + 3 + 1 by omega, zipw_succ, show k + 3 = k + 2 + 1 by omega, zipw_succ, show k + 2 = k + 1 + 1 by omega, zipw_succ, zipw_succ]
      omega
    ·
      refine l_nil ?_
      refine q_then ?_
      refine c_false rfl rfl ?_
      refine c_exit ?_
      refine q_then_exit ?_
      refine q_then_exit ?_
      refine q_block_hit ?_
      refine q_then ?_
      refine c_seq ?_
      refine c_region ?_
      refine st (y_move rfl) rfl ?_
      refine st (y_move rfl) rfl ?_
      refine st (y_add_u rfl rfl (by omega)) rfl ?_
      refine st (y_move rfl) rfl ?_
      refine st (y_add_u rfl rfl (by omega)) rfl ?_
      refine st (y_move rfl) rfl ?_
      refine st (y_add_u rfl rfl (by omega)) rfl ?_
      refine st (y_assign rfl) rfl ?_
      refine l_nil ?_
      refine q_then ?_
      refine c_seq ?_
      refine c_block ?_
      refine c_loop (fun k : Nat => [(0, .slice (some ax) n c), (1, .slice (some ay) m d), (4, vU (psum (zipw (fun x y => x &&& nt' y) xs ys k))), (9, vI (n : Nat)), (10, vI (k : Nat))]) (fun k w' => k ≤ n ∧ Keep w w' []) (fun k => n - k) k ?_ ?_ ?_
      · exact ⟨rfl, rfl, by rw [← hsum]; rfl, rfl, rfl, trivial⟩
      · exact ⟨hk, hK⟩
      · rintro j w2 ⟨hj, hKj⟩
        have hzj := zipw_le (fun x y => x &&& nt' y) xs ys j
        refine c_seq ?_
        refine c_seq ?_
        refine c_region ?_
        refine st (y_move rfl) rfl ?_
        refine st (y_move rfl) rfl ?_
        refine st_if (y_lt_i rfl rfl) rfl (fun hlt => ?_) (fun hlt => ?_)
        · have hK2 := hKj.trans (Keep.drew w2 []) (by simp)
          have hcx := (hRx.keep hK2 (by simp)).cellk (k := j) (by omega)
          have hcy := (hRy.keep hK2 (by simp)).cellk (k := j) (by omega)
          have hpp := popc_le (xs.getD j 0 &&& nt' (ys.getD j 0))
          refine l_nil ?_
          refine q_then ?_
          refine c_true rfl rfl ?_
          refine c_skip ?_
          refine q_then ?_
          refine c_seq ?_
          refine c_block ?_
          refine c_tail 13 mixed (by kernel_rfl) ?_
          refine ss (y_move rfl) rfl ?_
          refine ss (y_move rfl) rfl ?_
          refine ss (y_move rfl) rfl ?_
          first | refine ss (y_index0 rfl rfl Try.underlying69 sz34 (by omega)) rfl ?_ | refine ss (y_index rfl rfl Try.underlying69 sz34 (by omega)) rfl ?_ | refine ss (y_indexA rfl rfl Try.underlying69 sz34 (by omega)) rfl ?_
          refine ss (y_load rfl one34 (by assumption)) rfl ?_
          refine ss (y_move rfl) rfl ?_
          refine ss (y_move rfl) rfl ?_
          first | refine ss (y_index0 rfl rfl Try.underlying69 sz34 (by omega)) rfl ?_ | refine ss (y_index rfl rfl Try.underlying69 sz34 (by omega)) rfl ?_ | refine ss (y_indexA rfl rfl Try.underlying69 sz34 (by omega)) rfl ?_
          refine ss (y_load rfl one34 (by assumption)) rfl ?_
          refine ss (y_andNot rfl rfl (by first | omega | assumption | (repeat (first | assumption | omega | decide | exact shl_lt64 _ _ | apply and_lt64 | apply or_lt64 | apply xor_lt64 | apply nt_lt | apply shr_lt64 | apply getD_lt64))) (by first | omega | assumption | (repeat (first | assumption | omega | decide | exact shl_lt64 _ _ | apply and_lt64 | apply or_lt64 | apply xor_lt64 | apply nt_lt | apply shr_lt64 | apply getD_lt64)))) rfl ?_
          refine ssc rfl rfl isfn63 (c_OnesCount64 _ (and_lt64 _ (getD_lt64 hx j)) _) rfl ?_
          rw [ntE]
          refine ss (y_conv_iu rfl us3 Try.underlying34 rfl (by omega)) rfl ?_
          refine ss (y_add_u rfl rfl (by omega)) rfl ?_
          refine s_nil ?_
          show wpL _ _ _ _ _ _ _ _
          refine st (y_assign rfl) rfl ?_
          refine l_nil ?_
          refine q_block ?_
          refine q_then ?_
          refine c_region ?_
          refine st (y_move rfl) rfl ?_
          first | refine st (y_add_in (b := 1) rfl rfl (by omega)) rfl ?_ | refine st (y_add_i (b := 1) rfl rfl (by omega) (by omega)) rfl ?_
          refine st (y_assign rfl) rfl ?_
          refine l_nil ?_
          refine q_round (j + 1) ⟨rfl, rfl, ?_, rfl, rfl, trivial⟩ ⟨by omega, hK2⟩ (by omega)
          rw [zipw_succ]; rfl
        ·
          have hjn : j = n := by omega
          subst hjn
          refine l_nil ?_
          refine q_then ?_
          refine c_false rfl rfl ?_
          refine c_exit ?_
          refine q_then_exit ?_
          refine q_then_exit ?_
          refine q_block_hit ?_
          refine q_then ?_
          refine c_ret ?_
          refine q_end1 (.inl rfl) rfl rfl ?_
          exact ⟨_, rfl, rfl, hKj⟩

end Go.Proofs.Ytlhbbndedbacpaa

/- Len64, by its contract. -/
import Derived.Test.YtbahhdeblppooaaDoorA5
import Derived.Test.YtbahhdeblppooaaDoorK13
import Derived.Test.YtbahhdeblppooaaDoorL20
set_option linter.unusedVariables false
set_option linter.unusedSimpArgs false
set_option maxRecDepth 100000
namespace Go.Proofs.YtbahhdeblppooaaDoor
open Go Go.RowKit

theorem fin_all2 {n : Nat} {p : Nat → Prop} (h : ∀ b : Fin n, p b.val) {m : Nat} (hm : m < n) : p m := h ⟨m, hm⟩

theorem c_Len64 (m : Nat) (h : m < 18446744073709551616) (w : World) : Cal Tryd.prog 42 [vU m] w fun v w' => v = vI (lg m : Nat) ∧ w = w' := by
  have step : ∀ (k x n : Nat), 2 ^ k ≤ x → n + lg x = (n + k) + lg (x >>> k) := fun k x n hx => by rw [lg_shift hx]; omega
  refine go_in' Tryd.func42 rfl Tryd.ntmps42 (Nat.le_of_ble_eq_true rfl) ?_
  refine c_seq ?_
  refine c_region ?_
  refine st (y_assign (v := vI ((0 : Nat) : Int)) rfl) rfl ?_
  refine l_nil ?_
  refine q_then ?_
  refine c_cut (fun x : Nat × Nat => [(0, vU x.1), (2, vI (x.2 : Nat))]) (fun x w' => w = w' ∧ x.1 < 4294967296 ∧ x.2 ≤ 32 ∧ x.2 + lg x.1 = lg m) ?_ ?_
  · refine c_seq ?_
    refine c_region ?_
    refine st (y_move rfl) rfl ?_
    refine st_if (y_ge_u (b := 4294967296) rfl rfl) rfl (fun h1 => ?_) (fun h1 => ?_)
    · have hs : m >>> 32 < 4294967296 := by rw [Nat.shiftRight_eq_div_pow]; omega
      refine l_nil ?_
      refine q_then ?_
      refine c_true rfl rfl ?_
      refine c_seq ?_
      refine c_region ?_
      refine st (y_move rfl) rfl ?_
      refine st (y_shr (k := 32) rfl rfl (by first | omega | assumption | (repeat (first | assumption | omega | decide | exact shl_lt64 _ _ | apply and_lt64 | apply or_lt64 | apply xor_lt64 | apply nt_lt | apply shr_lt64 | apply getD_lt64)))) rfl ?_
      refine st (y_assign rfl) rfl ?_
      refine l_nil ?_
      refine q_then ?_
      refine c_region ?_
      refine st (y_assign (v := vI ((32 : Nat) : Int)) rfl) rfl ?_
      refine l_nil ?_
      exact q_meet (m >>> 32, 32) ⟨rfl, rfl, trivial⟩ ⟨rfl, hs, Nat.le_refl _, by have := step 32 m 0 (by omega); simp only; omega⟩
    ·
      refine l_nil ?_
      refine q_then ?_
      refine c_false rfl rfl ?_
      refine c_skip ?_
      exact q_meet (m, 0) ⟨rfl, rfl, trivial⟩ ⟨rfl, by omega, by omega, by simp only; omega⟩
  ·
    rintro ⟨x, n⟩ w1 ⟨rfl, hx, hn, hl⟩
    simp only at hx hn hl ⊢
    refine c_cut (fun x : Nat × Nat => [(0, vU x.1), (2, vI (x.2 : Nat))]) (fun x w' => w = w' ∧ x.1 < 65536 ∧ x.2 ≤ 48 ∧ x.2 + lg x.1 = lg m) ?_ ?_
    · refine c_seq ?_
      refine c_region ?_
      refine st (y_move rfl) rfl ?_
      refine st_if (y_ge_u (b := 65536) rfl rfl) rfl (fun h1 => ?_) (fun h1 => ?_)
      · have hs : x >>> 16 < 65536 := by rw [Nat.shiftRight_eq_div_pow]; omega
        refine l_nil ?_
        refine q_then ?_
        refine c_true rfl rfl ?_
        refine c_seq ?_
        refine c_region ?_
        refine st (y_move rfl) rfl ?_
        refine st (y_shr (k := 16) rfl rfl (by first | omega | assumption | (repeat (first | assumption | omega | decide | exact shl_lt64 _ _ | apply and_lt64 | apply or_lt64 | apply xor_lt64 | apply nt_lt | apply shr_lt64 | apply getD_lt64)))) rfl ?_
        refine st (y_assign rfl) rfl ?_
        refine l_nil ?_
        refine q_then ?_
        refine c_region ?_
        refine st (y_move rfl) rfl ?_
        first | refine st (y_add_in (b := 16) rfl rfl (by omega)) rfl ?_ | refine st (y_add_i (b := 16) rfl rfl (by omega) (by omega)) rfl ?_
        refine st (y_assign rfl) rfl ?_
        refine l_nil ?_
        exact q_meet (x >>> 16, n + 16) ⟨rfl, rfl, trivial⟩ ⟨rfl, hs, by simp only; omega, by have := step 16 x n (by omega); simp only; omega⟩
      ·
        refine l_nil ?_
        refine q_then ?_
        refine c_false rfl rfl ?_
        refine c_skip ?_
        exact q_meet (x, n) ⟨rfl, rfl, trivial⟩ ⟨rfl, by simp only; omega, by simp only; omega, hl⟩
    ·
      clear hx hn hl
      clear x n
      rintro ⟨x, n⟩ w1 ⟨rfl, hx, hn, hl⟩
      simp only at hx hn hl ⊢
      refine c_cut (fun x : Nat × Nat => [(0, vU x.1), (2, vI (x.2 : Nat))]) (fun x w' => w = w' ∧ x.1 < 256 ∧ x.2 ≤ 56 ∧ x.2 + lg x.1 = lg m) ?_ ?_
      · refine c_seq ?_
        refine c_region ?_
        refine st (y_move rfl) rfl ?_
        refine st_if (y_ge_u (b := 256) rfl rfl) rfl (fun h1 => ?_) (fun h1 => ?_)
        · have hs : x >>> 8 < 256 := by rw [Nat.shiftRight_eq_div_pow]; omega
          refine l_nil ?_
          refine q_then ?_
          refine c_true rfl rfl ?_
          refine c_seq ?_
          refine c_region ?_
          refine st (y_move rfl) rfl ?_
          refine st (y_shr (k := 8) rfl rfl (by first | omega | assumption | (repeat (first | assumption | omega | decide | exact shl_lt64 _ _ | apply and_lt64 | apply or_lt64 | apply xor_lt64 | apply nt_lt | apply shr_lt64 | apply getD_lt64)))) rfl ?_
          refine st (y_assign rfl) rfl ?_
          refine l_nil ?_
          refine q_then ?_
          refine c_region ?_
          refine st (y_move rfl) rfl ?_
          first | refine st (y_add_in (b := 8) rfl rfl (by omega)) rfl ?_ | refine st (y_add_i (b := 8) rfl rfl (by omega) (by omega)) rfl ?_
          refine st (y_assign rfl) rfl ?_
          refine l_nil ?_
          exact q_meet (x >>> 8, n + 8) ⟨rfl, rfl, trivial⟩ ⟨rfl, hs, by simp only; omega, by have := step 8 x n (by omega); simp only; omega⟩
        ·
          refine l_nil ?_
          refine q_then ?_
          refine c_false rfl rfl ?_
          refine c_skip ?_
          exact q_meet (x, n) ⟨rfl, rfl, trivial⟩ ⟨rfl, by simp only; omega, by simp only; omega, hl⟩
      ·
        clear hx hn hl
        clear x n
        rintro ⟨x, n⟩ w1 ⟨rfl, hx, hn, hl⟩
        simp only at hx hn hl ⊢
        have hlx := lg_le (n := 8) hx
        have h8 : x % 256 = x := Nat.mod_eq_of_lt hx
        have hb : (UInt8.ofNat (lg x)).toNat = lg x := by simp; omega
        refine c_seq ?_
        refine c_region ?_
        refine st (y_move rfl) rfl ?_
        refine st (y_move rfl) rfl ?_
        refine st (y_conv_u8 rfl us67 Tryd.underlying5) rfl ?_
        rw [h8]
        refine st (y_indexStr (b := UInt8.ofNat (lg x)) rfl rfl Tryd.underlying9 (by refine fin_all2 (n := 256) (p := fun m => (_ : ByteArray)[m]? = some (UInt8.ofNat (lg m))) ?_ hx; decide +kernel)) rfl ?_
        rw [hb]
        refine st (y_conv_8i rfl us5 Tryd.underlying3 (by omega)) rfl ?_
        first | refine st (y_add_in rfl rfl (by omega)) rfl ?_ | refine st (y_add_i rfl rfl (by omega) (by omega)) rfl ?_
        refine st (y_assign rfl) rfl ?_
        refine l_nil ?_
        refine q_then ?_
        refine c_ret ?_
        refine q_end1 (.inl rfl) rfl rfl ?_
        exact ⟨_, rfl, by rw [hl], rfl⟩

end Go.Proofs.YtbahhdeblppooaaDoor

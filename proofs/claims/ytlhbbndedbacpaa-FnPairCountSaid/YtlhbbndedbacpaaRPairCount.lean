/- The law FnPairCount, for every input: the call returns true and each argument reads afterwards as it read before. -/
import Derived.Test.YtlhbbndedbacpaaRows
import Derived.Test.YtlhbbndedbacpaaK6
import Derived.Test.YtlhbbndedbacpaaFPairCount
import Derived.WalkKit
import Derived.ProofKit
import Derived.OpenShut
import Derived.ShutString
import Derived.ChangeOld
import Derived.Below
import Derived.SizedLaws
import Derived.Lib.SmallJoins
namespace Go.Proofs.Ytlhbbndedbacpaa.fnPairCount
open Go.ChangeShapes Go.WideShapes Go.ChangeAt Go.RowKit Go.Joins
open Go.ChangeMaps (open_string shut_string)
set_option linter.unusedVariables false
set_option linter.unusedSimpArgs false
theorem own : ownKnob Try.prog.godebug = none := by kernel_rfl
theorem laidOut : laidOutB Try.prog = true := by kernel_rfl
set_option maxRecDepth 100000 in
theorem lifted (os : Os) (started : os.Started) (H : Type) (enc : TypeId × Value → H) :
    ReturnsInHanded {} Try.checked os 11 .any (Rows.fnPairCountSpec.pre6 enc Try.prog Try.f11 Rows.fnPairCountRow.domain false) (Rows.fnPairCountSpec.post enc Try.prog Try.f11 false true false false) := by
  refine returnsInHanded_of_change_sized (C := Try.checked) own started (by kernel_rfl) Try.func11
    (ChangeSpec.witness6 (enc := enc) (C := Try.checked) false ⟨#[], #[.int .u8 0, .agg #[.int .u64 0, .slice none 0 0], .agg #[.int .u64 0, .slice none 0 0]], []⟩ 8 (by kernel_rfl) (by kernel_rfl) (by kernel_rfl) (by kernel_rfl)) ?_
  intro W base args ds gs before hval0 hW hcnd hsz0 _
  have hval : ∀ (j : Nat) t v, Try.f11.params[j]? = some t → args[j]? = some v → Value.okWide Try.prog W .any base t v := hval0
  have hW' := hW
  obtain ⟨p, q, hA0, hV, rfl, hfz, hnd⟩ := hW
  have hA : DataW.TrodAll enc Try.prog W 0 (fun _ => true) true Try.f11.params.toList args.toList ds p := hA0
  rw [Try.params11] at hA hval
  obtain ⟨v0, vs0, d0, ds0, p0, q0, hargs, rfl, rfl, h0, r0⟩ := trodAll_cons hA
  obtain ⟨v1, vs1, d1, ds1, p1, q1, rfl, rfl, rfl, h1, r1⟩ := trodAll_cons r0
  obtain ⟨v2, vs2, d2, ds2, p2, q2, rfl, rfl, rfl, h2, r2⟩ := trodAll_cons r1
  obtain ⟨rfl, rfl, rfl⟩ := trodAll_nil r2
  obtain rfl : args = #[v0, v1, v2] := by cases args; simp_all
  obtain ⟨rfl, rfl⟩ := trodVars_none hV
  obtain ⟨a0, rfl, rfl, rfl, w0⟩ := open_int Try.underlying5 (hval 0 5 v0 rfl rfl) h0
  have z0 := bounds_u8 w0
  obtain ⟨i0, rfl⟩ : ∃ i : Nat, a0 = (i : Int) := ⟨a0.toNat, by omega⟩
  have k1 := h1
  have lt1 : ∀ x ∈ p1, x.block < W.heap.size := by obtain ⟨m, hm⟩ := k1; exact DataW.trod_lt m _ _ _ hm
  obtain ⟨x1, L1, A1, n1, c1, hx1, hL1, hR1⟩ : ∃ (xs : List Nat) (L : Nat) (A : Option Addr) (n c : Nat), v1 = .agg #[.int .u64 (L : Int), .slice A n c] ∧ L < 18446744073709551616 ∧ Rd W A n xs := by
    obtain ⟨c0, c1, y0, y1, m, rfl, rfl, hp, hy0, hy1⟩ := open_agg2 Try.underlying25 (by kernel_rfl) (by kernel_rfl) (hval 1 25 v1 rfl rfl) h1
    obtain ⟨z, e0, rfl, wz⟩ := DataW.trod_int Try.underlying22 hy0
    simp at e0; subst e0
    have wz := wf_u64 wz
    obtain ⟨L, rfl⟩ : ∃ L : Nat, z = (L : Int) := ⟨z.toNat, by omega⟩
    have hq1 : ∀ x ∈ y1.2, x.block < W.heap.size := fun x hx => lt1 x (by rw [hp]; exact List.mem_append_right _ hx)
    rcases open_ints Try.underlying23 Try.underlying22 (by kernel_rfl) hy1 with ⟨hcs, _⟩ | ⟨x, l, c, zs, hcs, _, hl, hm, hz, hyx, hcell, hwz⟩
    · simp at hcs; subst hcs
      exact ⟨[], L, none, 0, 0, rfl, by omega, rd_nil W⟩
    · simp at hcs; subst hcs
      have hzl : l ≤ zs.length := by rw [hz]; split <;> omega
      exact ⟨_, L, some x, l, c, rfl, by omega, rd_some hl hm hzl hcell hwz⟩
  subst hx1
  have k2 := h2
  have lt2 : ∀ x ∈ p2, x.block < W.heap.size := by obtain ⟨m, hm⟩ := k2; exact DataW.trod_lt m _ _ _ hm
  obtain ⟨x2, L2, A2, n2, c2, hx2, hL2, hR2⟩ : ∃ (xs : List Nat) (L : Nat) (A : Option Addr) (n c : Nat), v2 = .agg #[.int .u64 (L : Int), .slice A n c] ∧ L < 18446744073709551616 ∧ Rd W A n xs := by
    obtain ⟨c0, c1, y0, y1, m, rfl, rfl, hp, hy0, hy1⟩ := open_agg2 Try.underlying25 (by kernel_rfl) (by kernel_rfl) (hval 2 25 v2 rfl rfl) h2
    obtain ⟨z, e0, rfl, wz⟩ := DataW.trod_int Try.underlying22 hy0
    simp at e0; subst e0
    have wz := wf_u64 wz
    obtain ⟨L, rfl⟩ : ∃ L : Nat, z = (L : Int) := ⟨z.toNat, by omega⟩
    have hq1 : ∀ x ∈ y1.2, x.block < W.heap.size := fun x hx => lt2 x (by rw [hp]; exact List.mem_append_right _ hx)
    rcases open_ints Try.underlying23 Try.underlying22 (by kernel_rfl) hy1 with ⟨hcs, _⟩ | ⟨x, l, c, zs, hcs, _, hl, hm, hz, hyx, hcell, hwz⟩
    · simp at hcs; subst hcs
      exact ⟨[], L, none, 0, 0, rfl, by omega, rd_nil W⟩
    · simp at hcs; subst hcs
      have hzl : l ≤ zs.length := by rw [hz]; split <;> omega
      exact ⟨_, L, some x, l, c, rfl, by omega, rd_some hl hm hzl hcell hwz⟩
  subst hx2
  refine Calls.mono (c_FnPairCount i0 L1 A1 n1 c1 x1 L2 A2 n2 c2 x2 W hR1 hR2 (by omega)) fun e W' he => ?_
  obtain ⟨v, rfl, rfl, hK⟩ := he
  have bel : Below W.heap.size W W' := hK.below (Nat.le_refl _) (by simp)
  exact ⟨_, rfl, _, _, _, [], _, [], hW', trodAll_mk1 (shut_bool Try.underlying4 _), (trodAll_cons_mk (shut_int Try.underlying5 w0) (trodAll_cons_mk (Below.trod laidOut (by kernel_rfl) (of_decide_eq_true (by kernel_rfl)) k1 bel lt1) (trodAll_cons_mk (Below.trod laidOut (by kernel_rfl) (of_decide_eq_true (by kernel_rfl)) k2 bel lt2) trodAll_mk0))), rfl, bel.frame _, fun h => by cases h⟩
theorem over : Rows.fnPairCountRow.holds Try.pinned (OpenSpec.ofChange Rows.fnPairCountSpec) :=
  OpenClaim.holds_of_wide 11 Try.f11 rfl rfl rfl rfl rfl rfl rfl ⟨rfl, rfl, rfl, rfl, rfl⟩ rfl rfl rfl rfl rfl (by kernel_rfl) Try.func11 (by kernel_rfl)
    (of_decide_eq_true (by kernel_rfl)) (by unfold Func.isWrapper; first | (rw [if_pos (by decide +kernel)]; kernel_rfl) | (rw [if_neg (by decide +kernel)]; exact ⟨rfl, rfl⟩))
    (fun os started H enc _ => lifted os started H enc)
end Go.Proofs.Ytlhbbndedbacpaa.fnPairCount
namespace Go.Proofs.Ytlhbbndedbacpaa
theorem fnPairCount_holds : Rows.FnPairCountSaid := fnPairCount.over
#print axioms fnPairCount_holds
end Go.Proofs.Ytlhbbndedbacpaa

/- The law FnBytes, for every input: the call returns true and each argument reads afterwards as it read before. -/
import Derived.Test.YtlhbbndedbacpaaRows
import Derived.Test.YtlhbbndedbacpaaK6
import Derived.Test.YtlhbbndedbacpaaFBytes
import Derived.WalkKit
import Derived.ProofKit
import Derived.OpenShut
import Derived.ShutString
import Derived.ChangeOld
import Derived.Below
import Derived.SizedLaws
import Derived.Lib.SmallJoins
namespace Go.Proofs.Ytlhbbndedbacpaa.fnBytes
open Go.ChangeShapes Go.WideShapes Go.ChangeAt Go.RowKit Go.Joins
open Go.ChangeMaps (open_string shut_string)
set_option linter.unusedVariables false
set_option linter.unusedSimpArgs false
theorem own : ownKnob Try.prog.godebug = none := by kernel_rfl
theorem laidOut : laidOutB Try.prog = true := by kernel_rfl
set_option maxRecDepth 100000 in
theorem lifted (os : Os) (started : os.Started) (H : Type) (enc : TypeId × Value → H) :
    ReturnsInHanded {} Try.checked os 8 .any (Rows.fnBytesSpec.pre6 enc Try.prog Try.f8 Rows.fnBytesRow.domain false) (Rows.fnBytesSpec.post enc Try.prog Try.f8 false true false false) := by
  refine returnsInHanded_of_change_sized (C := Try.checked) own started (by kernel_rfl) Try.func8
    (ChangeSpec.witness6 (enc := enc) (C := Try.checked) false ⟨#[], #[.agg #[.int .u64 0, .slice none 0 0]], []⟩ 8 (by kernel_rfl) (by kernel_rfl) (by kernel_rfl) (by kernel_rfl)) ?_
  intro W base args ds gs before hval0 hW hcnd hsz0 _
  have hval : ∀ (j : Nat) t v, Try.f8.params[j]? = some t → args[j]? = some v → Value.okWide Try.prog W .any base t v := hval0
  have hW' := hW
  obtain ⟨p, q, hA0, hV, rfl, hfz, hnd⟩ := hW
  have hA : DataW.TrodAll enc Try.prog W 0 (fun _ => true) true Try.f8.params.toList args.toList ds p := hA0
  rw [Try.params8] at hA hval
  obtain ⟨v0, vs0, d0, ds0, p0, q0, hargs, rfl, rfl, h0, r0⟩ := trodAll_cons hA
  obtain ⟨rfl, rfl, rfl⟩ := trodAll_nil r0
  obtain rfl : args = #[v0] := by cases args; simp_all
  obtain ⟨rfl, rfl⟩ := trodVars_none hV
  have k0 := h0
  have lt0 : ∀ x ∈ p0, x.block < W.heap.size := by obtain ⟨m, hm⟩ := k0; exact DataW.trod_lt m _ _ _ hm
  obtain ⟨x0, L0, A0, n0, c0, hx0, hL0, hR0⟩ : ∃ (xs : List Nat) (L : Nat) (A : Option Addr) (n c : Nat), v0 = .agg #[.int .u64 (L : Int), .slice A n c] ∧ L < 18446744073709551616 ∧ Rd W A n xs := by
    obtain ⟨c0, c1, y0, y1, m, rfl, rfl, hp, hy0, hy1⟩ := open_agg2 Try.underlying25 (by kernel_rfl) (by kernel_rfl) (hval 0 25 v0 rfl rfl) h0
    obtain ⟨z, e0, rfl, wz⟩ := DataW.trod_int Try.underlying22 hy0
    simp at e0; subst e0
    have wz := wf_u64 wz
    obtain ⟨L, rfl⟩ : ∃ L : Nat, z = (L : Int) := ⟨z.toNat, by omega⟩
    have hq1 : ∀ x ∈ y1.2, x.block < W.heap.size := fun x hx => lt0 x (by rw [hp]; exact List.mem_append_right _ hx)
    rcases open_ints Try.underlying23 Try.underlying22 (by kernel_rfl) hy1 with ⟨hcs, _⟩ | ⟨x, l, c, zs, hcs, _, hl, hm, hz, hyx, hcell, hwz⟩
    · simp at hcs; subst hcs
      exact ⟨[], L, none, 0, 0, rfl, by omega, rd_nil W⟩
    · simp at hcs; subst hcs
      have hzl : l ≤ zs.length := by rw [hz]; split <;> omega
      exact ⟨_, L, some x, l, c, rfl, by omega, rd_some hl hm hzl hcell hwz⟩
  subst hx0
  refine Calls.mono (c_FnBytes L0 A0 n0 c0 x0 W hR0) fun e W' he => ?_
  obtain ⟨v, rfl, rfl, hK⟩ := he
  have bel : Below W.heap.size W W' := hK.below (Nat.le_refl _) (by simp)
  exact ⟨_, rfl, _, _, _, [], _, [], hW', trodAll_mk1 (shut_bool Try.underlying4 _), (trodAll_cons_mk (Below.trod laidOut (by kernel_rfl) (of_decide_eq_true (by kernel_rfl)) k0 bel lt0) trodAll_mk0), rfl, bel.frame _, fun h => by cases h⟩
theorem over : Rows.fnBytesRow.holds Try.pinned (OpenSpec.ofChange Rows.fnBytesSpec) :=
  OpenClaim.holds_of_wide 8 Try.f8 rfl rfl rfl rfl rfl rfl rfl ⟨rfl, rfl, rfl, rfl, rfl⟩ rfl rfl rfl rfl rfl (by kernel_rfl) Try.func8 (by kernel_rfl)
    (of_decide_eq_true (by kernel_rfl)) (by unfold Func.isWrapper; first | (rw [if_pos (by decide +kernel)]; kernel_rfl) | (rw [if_neg (by decide +kernel)]; exact ⟨rfl, rfl⟩))
    (fun os started H enc _ => lifted os started H enc)
end Go.Proofs.Ytlhbbndedbacpaa.fnBytes
namespace Go.Proofs.Ytlhbbndedbacpaa
theorem fnBytes_holds : Rows.FnBytesSaid := fnBytes.over
#print axioms fnBytes_holds
end Go.Proofs.Ytlhbbndedbacpaa

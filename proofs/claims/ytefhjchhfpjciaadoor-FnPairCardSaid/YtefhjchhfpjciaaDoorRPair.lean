/- The law FnPair, for every input: the call returns true and each argument reads afterwards as it read before. -/
import Derived.Test.YtefhjchhfpjciaaDoorRows
import Derived.Test.YtefhjchhfpjciaaDoorK6
import Derived.Test.YtefhjchhfpjciaaDoorFPair
import Derived.WalkKit
import Derived.ProofKit
import Derived.OpenShut
import Derived.ShutString
import Derived.ChangeOld
import Derived.Below
import Derived.SizedLaws
import Derived.Lib.SmallJoins
import Derived.Handed
import Derived.LaidLaws
import Derived.LaidHandle
import Derived.Lib.LaidTab
import Derived.SevenTiedAt
import Derived.Test.YtefhjchhfpjciaaDoorCards
import Derived.Test.YtefhjchhfpjciaaDoorTie
namespace Go.Proofs.YtefhjchhfpjciaaDoor.fnPair
open Go.ChangeShapes Go.WideShapes Go.ChangeAt Go.RowKit Go.Joins
open Go.ChangeMaps (open_string shut_string)
set_option linter.unusedVariables false
set_option linter.unusedSimpArgs false
theorem own : ownKnob Tryd.prog.godebug = none := by kernel_rfl
theorem laidOut : laidOutB Tryd.prog = true := by kernel_rfl
theorem gT : Tryd.prog.globalNamed "math/bits.deBruijn64tab" = some 0 := by kernel_rfl
theorem gTType : (Tryd.prog.globals[0]?).map (·.type) = some 72 := by kernel_rfl
theorem cellsE : Tryd.prog.cellsOf 5 = 1 := by kernel_rfl
theorem cellsT : Tryd.prog.cellsOf 72 = 64 := by kernel_rfl
theorem tbLt {w : World} {a : Addr} {v : Value} (h : w.cell? a = some v) : a.block < w.heap.size := by
  rcases Nat.lt_or_ge a.block w.heap.size with h1 | h1
  · exact h1
  · unfold World.cell? at h; rw [Array.getElem?_eq_none h1] at h; cases h
/-- the table as the row lists it -/
theorem tabL : Rows.fnPairRow.laid = [("math/bits.deBruijn64tab", Lib.tabData .u8 (Lib.deBruijn64tab.map fun (z : Nat) => (z : Int)))] := rfl
/-- a world that meets the row's condition -/
noncomputable def laidWorld (os : Os) : World :=
  { World.holding Tryd.prog os ⟨#[], #[], []⟩ with heap := (World.holding Tryd.prog os ⟨#[], #[], []⟩).heap.modify 0 fun
      | .cells _ t frozen => .cells (Lib.deBruijn64tab.map fun (z : Nat) => Value.int .u8 (z : Int)).toArray t frozen
      | o => o }
theorem laidMet_W (os : Os) (args : Array Value) : laidMetH Tryd.prog Rows.fnPairRow.laid ((laidWorld os).forCall (fun _ _ => 0) ⟨#[], args, []⟩).memory := laidMetH_of_parts (laidMet_of_run' 8 (by kernel_rfl) (by kernel_rfl)) (by kernel_rfl)
set_option maxRecDepth 100000 in
theorem lifted (os : Os) (started : os.Started) (H : Type) (enc : TypeId × Value → H) :
    ReturnsInHanded {} Tryd.checked os 3 .any (fun w args => (Rows.fnPairSpec.pre enc Tryd.prog Tryd.f3 Rows.fnPairRow.domain false w args ∧ laidMetH Tryd.prog Rows.fnPairRow.laid w) ∧ sizedMet enc Tryd.prog Tryd.f3 (OpenSpec.ofChange Rows.fnPairSpec) false w args) (Rows.fnPairSpec.post enc Tryd.prog Tryd.f3 false true false false) := by
  refine returnsInHanded_of_change_and (C := Tryd.checked) (X := fun w _ => laidMetH Tryd.prog Rows.fnPairRow.laid w) (fun _ _ _ hh h => h.of_heap hh) own started (by kernel_rfl) Tryd.func3
    (ChangeSpec.witness_at (enc := enc) (C := Tryd.checked) (os := os) (X := fun w _ => laidMetH Tryd.prog Rows.fnPairRow.laid w) false (laidWorld os) #[.int .u8 0, .bool false, .agg #[.int .u64 0, .slice none 0 0], .agg #[.int .u64 0, .slice none 0 0]] 8 rfl (by kernel_rfl) (by kernel_rfl) (by kernel_rfl) (by kernel_rfl) (by kernel_rfl) (laidMet_W os _)) ?_
  intro W base args ds gs before hval0 hW hcnd hsz0 hLaid _
  have hval : ∀ (j : Nat) t v, Tryd.f3.params[j]? = some t → args[j]? = some v → Value.okWide Tryd.prog W .any base t v := hval0
  have hW' := hW
  obtain ⟨p, q, hA0, hV, rfl, hfz, hnd⟩ := hW
  have hA : DataW.TrodAll enc Tryd.prog W 0 (fun _ => true) true Tryd.f3.params.toList args.toList ds p := hA0
  rw [Tryd.params3] at hA hval
  obtain ⟨v0, vs0, d0, ds0, p0, q0, hargs, rfl, rfl, h0, r0⟩ := trodAll_cons hA
  obtain ⟨v1, vs1, d1, ds1, p1, q1, rfl, rfl, rfl, h1, r1⟩ := trodAll_cons r0
  obtain ⟨v2, vs2, d2, ds2, p2, q2, rfl, rfl, rfl, h2, r2⟩ := trodAll_cons r1
  obtain ⟨v3, vs3, d3, ds3, p3, q3, rfl, rfl, rfl, h3, r3⟩ := trodAll_cons r2
  obtain ⟨rfl, rfl, rfl⟩ := trodAll_nil r3
  obtain rfl : args = #[v0, v1, v2, v3] := by cases args; simp_all
  obtain ⟨rfl, rfl⟩ := trodVars_none hV
  obtain ⟨a0, rfl, rfl, rfl, w0⟩ := open_int Tryd.underlying5 (hval 0 5 v0 rfl rfl) h0
  have z0 := bounds_u8 w0
  obtain ⟨i0, rfl⟩ : ∃ i : Nat, a0 = (i : Int) := ⟨a0.toNat, by omega⟩
  obtain ⟨a1, rfl, rfl, rfl⟩ := open_bool Tryd.underlying4 (hval 1 4 v1 rfl rfl) h1
  have k2 := h2
  have lt2 : ∀ x ∈ p2, x.block < W.heap.size := by obtain ⟨m, hm⟩ := k2; exact DataW.trod_lt m _ _ _ hm
  obtain ⟨x2, L2, A2, n2, c2, hx2, hL2, hR2⟩ : ∃ (xs : List Nat) (L : Nat) (A : Option Addr) (n c : Nat), v2 = .agg #[.int .u64 (L : Int), .slice A n c] ∧ L < 18446744073709551616 ∧ Rd W A n xs := by
    obtain ⟨c0, c1, y0, y1, m, rfl, rfl, hp, hy0, hy1⟩ := open_agg2 Tryd.underlying25 (by kernel_rfl) (by kernel_rfl) (hval 2 25 v2 rfl rfl) h2
    obtain ⟨z, e0, rfl, wz⟩ := DataW.trod_int Tryd.underlying22 hy0
    simp at e0; subst e0
    have wz := wf_u64 wz
    obtain ⟨L, rfl⟩ : ∃ L : Nat, z = (L : Int) := ⟨z.toNat, by omega⟩
    have hq1 : ∀ x ∈ y1.2, x.block < W.heap.size := fun x hx => lt2 x (by rw [hp]; exact List.mem_append_right _ hx)
    rcases open_ints Tryd.underlying23 Tryd.underlying22 (by kernel_rfl) hy1 with ⟨hcs, _⟩ | ⟨x, l, c, zs, hcs, _, hl, hm, hz, hyx, hcell, hwz⟩
    · simp at hcs; subst hcs
      exact ⟨[], L, none, 0, 0, rfl, by omega, rd_nil W⟩
    · simp at hcs; subst hcs
      have hzl : l ≤ zs.length := by rw [hz]; split <;> omega
      exact ⟨_, L, some x, l, c, rfl, by omega, rd_some hl hm hzl hcell hwz⟩
  subst hx2
  have k3 := h3
  have lt3 : ∀ x ∈ p3, x.block < W.heap.size := by obtain ⟨m, hm⟩ := k3; exact DataW.trod_lt m _ _ _ hm
  obtain ⟨x3, L3, A3, n3, c3, hx3, hL3, hR3⟩ : ∃ (xs : List Nat) (L : Nat) (A : Option Addr) (n c : Nat), v3 = .agg #[.int .u64 (L : Int), .slice A n c] ∧ L < 18446744073709551616 ∧ Rd W A n xs := by
    obtain ⟨c0, c1, y0, y1, m, rfl, rfl, hp, hy0, hy1⟩ := open_agg2 Tryd.underlying25 (by kernel_rfl) (by kernel_rfl) (hval 3 25 v3 rfl rfl) h3
    obtain ⟨z, e0, rfl, wz⟩ := DataW.trod_int Tryd.underlying22 hy0
    simp at e0; subst e0
    have wz := wf_u64 wz
    obtain ⟨L, rfl⟩ : ∃ L : Nat, z = (L : Int) := ⟨z.toNat, by omega⟩
    have hq1 : ∀ x ∈ y1.2, x.block < W.heap.size := fun x hx => lt3 x (by rw [hp]; exact List.mem_append_right _ hx)
    rcases open_ints Tryd.underlying23 Tryd.underlying22 (by kernel_rfl) hy1 with ⟨hcs, _⟩ | ⟨x, l, c, zs, hcs, _, hl, hm, hz, hyx, hcell, hwz⟩
    · simp at hcs; subst hcs
      exact ⟨[], L, none, 0, 0, rfl, by omega, rd_nil W⟩
    · simp at hcs; subst hcs
      have hzl : l ≤ zs.length := by rw [hz]; split <;> omega
      exact ⟨_, L, some x, l, c, rfl, by omega, rd_some hl hm hzl hcell hwz⟩
  subst hx3
  have hTb : Tb W := by
    have h' : laidMet Tryd.prog Rows.fnPairRow.laid W := hLaid
    rw [tabL] at h'
    have hI := Lib.tabIs_of_head gT gTType Tryd.underlying72 Tryd.underlying5 cellsE cellsT h'
    refine ⟨tbLt (hI.cell gT 0 (by decide)), fun i hi => ?_⟩
    have hc := hI.cell gT i (by rw [List.length_map]; exact hi)
    rw [hc]
    have e : (Lib.deBruijn64tab.map fun (z : Nat) => (z : Int)).getD i 0 = ((Lib.deBruijn64tab.getD i 0 : Nat) : Int) := by
      have hl : i < Lib.deBruijn64tab.length := hi
      rw [List.getD_eq_getElem?_getD, List.getElem?_map, List.getD_eq_getElem?_getD, List.getElem?_eq_getElem hl]; rfl
    rw [e]
  refine Calls.mono (c_FnPair i0 a1 L2 A2 n2 c2 x2 L3 A3 n3 c3 x3 W hTb hR2 hR3 (by omega)) fun e W' he => ?_
  obtain ⟨v, rfl, rfl, hK⟩ := he
  have bel : Below W.heap.size W W' := hK.below (Nat.le_refl _) (by simp)
  exact ⟨_, rfl, _, _, _, [], _, [], hW', trodAll_mk1 (shut_bool Tryd.underlying4 _), (trodAll_cons_mk (shut_int Tryd.underlying5 w0) (trodAll_cons_mk (shut_bool Tryd.underlying4 _) (trodAll_cons_mk (Below.trod laidOut (by kernel_rfl) (of_decide_eq_true (by kernel_rfl)) k2 bel lt2) (trodAll_cons_mk (Below.trod laidOut (by kernel_rfl) (of_decide_eq_true (by kernel_rfl)) k3 bel lt3) trodAll_mk0)))), rfl, bel.frame _, fun h => by cases h⟩
theorem over : Rows.fnPairRow.holds Tryd.pinned (OpenSpec.ofChange Rows.fnPairSpec) :=
  OpenClaim.holds_of_wide 3 Tryd.f3 rfl rfl rfl rfl rfl rfl rfl ⟨rfl, rfl, rfl, rfl, rfl⟩ rfl rfl rfl rfl rfl (by kernel_rfl) Tryd.func3 (by kernel_rfl)
    (of_decide_eq_true (by kernel_rfl)) (by unfold Func.isWrapper; first | (rw [if_pos (by decide +kernel)]; kernel_rfl) | (rw [if_neg (by decide +kernel)]; exact ⟨rfl, rfl⟩))
    (fun os started H enc _ => lifted os started H enc)
end Go.Proofs.YtefhjchhfpjciaaDoor.fnPair
namespace Go.Proofs.YtefhjchhfpjciaaDoor
theorem fnPair_holds : Rows.FnPairCardSaid :=
  Claim7.holds_tied_plain_at .later [] [.data] true (true, "6a2bdde181d49371bd7f439c04e34fd1fcb62902e16d27d390fdeb0c393e329b") false
    fnPair.over (fun _ h => by cases h) (by kernel_rfl) (fun _ h => by cases h) fnPair_row_tie rfl ⟨rfl, rfl⟩ (by kernel_rfl) rfl
    (fun f fn hf hfn => by
      obtain rfl : f = 3 := Option.some.inj ((show Tryd.prog.funcNamed "loop.example/pub-g03257/laws.FnPair" = some 3 by kernel_rfl).symm.trans hf) |>.symm
      obtain rfl : fn = Tryd.f3 := (Option.some.inj (Tryd.func3.symm.trans hfn)).symm
      refine ⟨by kernel_rfl, fun j t ht => ?_⟩
      rw [Tryd.params3] at ht
      have hm : t ∈ [5, 4, 25, 25] := by
        have := Array.mem_of_getElem? ht
        simpa using this
      simp only [List.mem_cons, List.not_mem_nil, or_false] at hm
      rcases hm with rfl | rfl | rfl | rfl
      · exact (show Tryd.prog.wantsStandIn 5 = false by kernel_rfl)
      · exact (show Tryd.prog.wantsStandIn 4 = false by kernel_rfl)
      · exact (show Tryd.prog.wantsStandIn 25 = false by kernel_rfl)
      · exact (show Tryd.prog.wantsStandIn 25 = false by kernel_rfl))
    (by kernel_rfl)
#print axioms fnPair_holds
end Go.Proofs.YtefhjchhfpjciaaDoor

/- The law FnNumbers, for every input: the call returns true and each argument reads afterwards as it read before. -/
import Derived.Test.YtbahhdeblppooaaDoorRows
import Derived.Test.YtbahhdeblppooaaDoorK6
import Derived.Test.YtbahhdeblppooaaDoorFNumbers
import Derived.WalkKit
import Derived.ProofKit
import Derived.OpenShut
import Derived.ShutString
import Derived.ChangeOld
import Derived.Below
import Derived.SizedLaws
import Derived.Lib.SmallJoins
import Derived.Handed
import Derived.LaidLaws
import Derived.LaidHandle
import Derived.Lib.LaidTab
import Derived.SevenTiedAt
import Derived.Test.YtbahhdeblppooaaDoorCards
import Derived.Test.YtbahhdeblppooaaDoorTie
namespace Go.Proofs.YtbahhdeblppooaaDoor.fnNumbers
open Go.ChangeShapes Go.WideShapes Go.ChangeAt Go.RowKit Go.Joins
open Go.ChangeMaps (open_string shut_string)
set_option linter.unusedVariables false
set_option linter.unusedSimpArgs false
theorem own : ownKnob Tryd.prog.godebug = none := by kernel_rfl
theorem laidOut : laidOutB Tryd.prog = true := by kernel_rfl
theorem laid_tail {P : Program} {x : String × DataW Unit} {rest : List (String × DataW Unit)} {W : World} (h : laidMet P (x :: rest) W) : laidMet P rest W := by
  obtain ⟨ps, hL, hnd, hrows⟩ := h
  obtain ⟨name, d⟩ := x
  obtain ⟨g', t', cs, fuel, p, q, hg', ht', hvar, hd, hrest, rfl⟩ := hL
  exact ⟨q, hrest, (List.nodup_append.1 hnd).2.1, fun b off hm => hrows b off (List.mem_append_right _ hm)⟩
theorem gT : Tryd.prog.globalNamed "math/bits.deBruijn64tab" = some 0 := by kernel_rfl
theorem gTType : (Tryd.prog.globals[0]?).map (·.type) = some 76 := by kernel_rfl
theorem cellsE : Tryd.prog.cellsOf 5 = 1 := by kernel_rfl
theorem cellsT : Tryd.prog.cellsOf 76 = 64 := by kernel_rfl
theorem tbLt {w : World} {a : Addr} {v : Value} (h : w.cell? a = some v) : a.block < w.heap.size := by
  rcases Nat.lt_or_ge a.block w.heap.size with h1 | h1
  · exact h1
  · unfold World.cell? at h; rw [Array.getElem?_eq_none h1] at h; cases h
/-- the table as the row lists it -/
theorem tabL : Rows.fnNumbersRow.laid = [("math/bits.deBruijn64tab", Lib.tabData .u8 (Lib.deBruijn64tab.map fun (z : Nat) => (z : Int)))] := by kernel_rfl
/-- a world that meets the row's condition -/
noncomputable def laidWorld (os : Os) : World := { (World.holding Tryd.prog os ⟨#[], #[], []⟩) with heap := ((World.holding Tryd.prog os ⟨#[], #[], []⟩).heap.modify 0 fun | .cells _ t frozen => .cells (Lib.deBruijn64tab.map fun (z : Nat) => Value.int .u8 (z : Int)).toArray t frozen | o => o) }
theorem laidMet_W (os : Os) (args : Array Value) : laidMetH Tryd.prog Rows.fnNumbersRow.laid ((laidWorld os).forCall (fun _ _ => 0) ⟨#[], args, []⟩).memory := laidMetH_of_parts (laidMet_of_run' 8 (by kernel_rfl) (by kernel_rfl)) (by kernel_rfl)
set_option maxRecDepth 100000 in
theorem lifted (os : Os) (started : os.Started) (H : Type) (enc : TypeId × Value → H) :
    ReturnsInHanded {} Tryd.checked os 5 .any (fun w args => (Rows.fnNumbersSpec.pre enc Tryd.prog Tryd.f5 Rows.fnNumbersRow.domain false w args ∧ laidMetH Tryd.prog Rows.fnNumbersRow.laid w) ∧ sizedMet enc Tryd.prog Tryd.f5 (OpenSpec.ofChange Rows.fnNumbersSpec) false w args) (Rows.fnNumbersSpec.post enc Tryd.prog Tryd.f5 false true false false) := by
  refine returnsInHanded_of_change_and (C := Tryd.checked) (X := fun w _ => laidMetH Tryd.prog Rows.fnNumbersRow.laid w) (fun _ _ _ hh h => h.of_heap hh) own started (by kernel_rfl) Tryd.func5
    (ChangeSpec.witness_at (enc := enc) (C := Tryd.checked) (os := os) (X := fun w _ => laidMetH Tryd.prog Rows.fnNumbersRow.laid w) false (laidWorld os) #[.int .u8 0, .agg #[.int .u64 0, .slice none 0 0]] 8 rfl (by kernel_rfl) (by kernel_rfl) (by kernel_rfl) (by kernel_rfl) (by kernel_rfl) (laidMet_W os _)) ?_
  intro W base args ds gs before hval0 hW hcnd hsz0 hLaid _
  have hval : ∀ (j : Nat) t v, Tryd.f5.params[j]? = some t → args[j]? = some v → Value.okWide Tryd.prog W .any base t v := hval0
  have hW' := hW
  obtain ⟨p, q, hA0, hV, rfl, hfz, hnd⟩ := hW
  have hA : DataW.TrodAll enc Tryd.prog W 0 (fun _ => true) true Tryd.f5.params.toList args.toList ds p := hA0
  rw [Tryd.params5] at hA hval
  obtain ⟨v0, vs0, d0, ds0, p0, q0, hargs, rfl, rfl, h0, r0⟩ := trodAll_cons hA
  obtain ⟨v1, vs1, d1, ds1, p1, q1, rfl, rfl, rfl, h1, r1⟩ := trodAll_cons r0
  obtain ⟨rfl, rfl, rfl⟩ := trodAll_nil r1
  obtain rfl : args = #[v0, v1] := by cases args; simp_all
  obtain ⟨rfl, rfl⟩ := trodVars_none hV
  obtain ⟨a0, rfl, rfl, rfl, w0⟩ := open_int Tryd.underlying5 (hval 0 5 v0 rfl rfl) h0
  have z0 := bounds_u8 w0
  obtain ⟨i0, rfl⟩ : ∃ i : Nat, a0 = (i : Int) := ⟨a0.toNat, by omega⟩
  have k1 := h1
  have lt1 : ∀ x ∈ p1, x.block < W.heap.size := by obtain ⟨m, hm⟩ := k1; exact DataW.trod_lt m _ _ _ hm
  obtain ⟨x1, L1, A1, n1, c1, hx1, hL1, hR1⟩ : ∃ (xs : List Nat) (L : Nat) (A : Option Addr) (n c : Nat), v1 = .agg #[.int .u64 (L : Int), .slice A n c] ∧ L < 18446744073709551616 ∧ Rd W A n xs := by
    obtain ⟨c0, c1, y0, y1, m, rfl, rfl, hp, hy0, hy1⟩ := open_agg2 Tryd.underlying25 (by kernel_rfl) (by kernel_rfl) (hval 1 25 v1 rfl rfl) h1
    obtain ⟨z, e0, rfl, wz⟩ := DataW.trod_int Tryd.underlying22 hy0
    simp at e0; subst e0
    have wz := wf_u64 wz
    obtain ⟨L, rfl⟩ : ∃ L : Nat, z = (L : Int) := ⟨z.toNat, by omega⟩
    have hq1 : ∀ x ∈ y1.2, x.block < W.heap.size := fun x hx => lt1 x (by rw [hp]; exact List.mem_append_right _ hx)
    rcases open_ints Tryd.underlying23 Tryd.underlying22 (by kernel_rfl) hy1 with ⟨hcs, _⟩ | ⟨x, l, c, zs, hcs, _, hl, hm, hz, hyx, hcell, hwz⟩
    · simp at hcs; subst hcs
      exact ⟨[], L, none, 0, 0, rfl, by omega, rd_nil W⟩
    · simp at hcs; subst hcs
      have hzl : l ≤ zs.length := by rw [hz]; split <;> omega
      exact ⟨_, L, some x, l, c, rfl, by omega, rd_some hl hm hzl hcell hwz⟩
  subst hx1
  have hTb : Tb W := by
    have h' : laidMet Tryd.prog Rows.fnNumbersRow.laid W := hLaid
    rw [tabL] at h'
    have hI := Lib.tabIs_of_head gT gTType Tryd.underlying76 Tryd.underlying5 cellsE cellsT h'
    refine ⟨tbLt (hI.cell gT 0 (by decide)), fun i hi => ?_⟩
    have hc := hI.cell gT i (by rw [List.length_map]; exact hi)
    rw [hc]
    have e : (Lib.deBruijn64tab.map fun (z : Nat) => (z : Int)).getD i 0 = ((Lib.deBruijn64tab.getD i 0 : Nat) : Int) := by
      have hl : i < Lib.deBruijn64tab.length := hi
      rw [List.getD_eq_getElem?_getD, List.getElem?_map, List.getD_eq_getElem?_getD, List.getElem?_eq_getElem hl]; rfl
    rw [e]
  refine Calls.mono (c_FnNumbers i0 L1 A1 n1 c1 x1 W hTb hR1 (by omega)) fun e W' he => ?_
  obtain ⟨v, rfl, rfl, hK⟩ := he
  have bel : Below W.heap.size W W' := hK.below (Nat.le_refl _) (by simp)
  exact ⟨_, rfl, _, _, _, [], _, [], hW', trodAll_mk1 (shut_bool Tryd.underlying4 _), (trodAll_cons_mk (shut_int Tryd.underlying5 w0) (trodAll_cons_mk (Below.trod laidOut (by kernel_rfl) (of_decide_eq_true (by kernel_rfl)) k1 bel lt1) trodAll_mk0)), rfl, bel.frame _, fun h => by cases h⟩
theorem over : Rows.fnNumbersRow.holds Tryd.pinned (OpenSpec.ofChange Rows.fnNumbersSpec) :=
  OpenClaim.holds_of_wide 5 Tryd.f5 rfl rfl rfl rfl rfl rfl rfl ⟨rfl, rfl, rfl, rfl, rfl⟩ rfl rfl rfl rfl rfl (by kernel_rfl) Tryd.func5 (by kernel_rfl)
    (of_decide_eq_true (by kernel_rfl)) (by unfold Func.isWrapper; first | (rw [if_pos (by decide +kernel)]; kernel_rfl) | (rw [if_neg (by decide +kernel)]; exact ⟨rfl, rfl⟩))
    (fun os started H enc _ => lifted os started H enc)
end Go.Proofs.YtbahhdeblppooaaDoor.fnNumbers
namespace Go.Proofs.YtbahhdeblppooaaDoor
theorem fnNumbers_holds : Rows.FnNumbersCardSaid :=
  Claim7.holds_tied_plain_at .later [] [.data] true (true, "e79080b6d1a4d1dcb6559e78ead9800caba5f895ce0d983b93bc86f8fa20e7c9") false
    fnNumbers.over (fun _ h => by cases h) (by kernel_rfl) (fun _ h => by cases h) fnNumbers_row_tie rfl ⟨rfl, rfl⟩ (by kernel_rfl) rfl
    (fun f fn hf hfn => by
      obtain rfl : f = 5 := Option.some.inj ((show Tryd.prog.funcNamed "loop.example/pub-g03257/laws.FnNumbers" = some 5 by kernel_rfl).symm.trans hf) |>.symm
      obtain rfl : fn = Tryd.f5 := (Option.some.inj (Tryd.func5.symm.trans hfn)).symm
      refine ⟨by kernel_rfl, fun j t ht => ?_⟩
      rw [Tryd.params5] at ht
      have hm : t ∈ [5, 25] := by
        have := Array.mem_of_getElem? ht
        simpa using this
      simp only [List.mem_cons, List.not_mem_nil, or_false] at hm
      rcases hm with rfl | rfl
      · exact (show Tryd.prog.wantsStandIn 5 = false by kernel_rfl)
      · exact (show Tryd.prog.wantsStandIn 25 = false by kernel_rfl))
    (by kernel_rfl)
#print axioms fnNumbers_holds
end Go.Proofs.YtbahhdeblppooaaDoor

/- The law FnText, for every input: the call returns true and each argument reads afterwards as it read before. -/
import Derived.Test.YtoheaoihiecgdaaDoorRows
import Derived.Test.YtoheaoihiecgdaaDoorK6
import Derived.Test.YtoheaoihiecgdaaDoorFText
import Derived.WalkKit
import Derived.ProofKit
import Derived.OpenShut
import Derived.ShutString
import Derived.ChangeOld
import Derived.Below
import Derived.SizedLaws
import Derived.Lib.SmallJoins
import Derived.Handed
import Derived.LaidLaws
import Derived.LaidHandle
import Derived.Lib.LaidTab
import Derived.SevenTiedAt
import Derived.Test.YtoheaoihiecgdaaDoorCards
import Derived.Test.YtoheaoihiecgdaaDoorTie
namespace Go.Proofs.YtoheaoihiecgdaaDoor.fnText
open Go.ChangeShapes Go.WideShapes Go.ChangeAt Go.RowKit Go.Joins
open Go.ChangeMaps (open_string shut_string)
set_option linter.unusedVariables false
set_option linter.unusedSimpArgs false
theorem own : ownKnob Tryd.prog.godebug = none := by kernel_rfl
theorem laidOut : laidOutB Tryd.prog = true := by kernel_rfl
theorem laid_tail {P : Program} {x : String × DataW Unit} {rest : List (String × DataW Unit)} {W : World} (h : laidMet P (x :: rest) W) : laidMet P rest W := by
  obtain ⟨ps, hL, hnd, hrows⟩ := h
  obtain ⟨name, d⟩ := x
  obtain ⟨g', t', cs, fuel, p, q, hg', ht', hvar, hd, hrest, rfl⟩ := hL
  exact ⟨q, hrest, (List.nodup_append.1 hnd).2.1, fun b off hm => hrows b off (List.mem_append_right _ hm)⟩
theorem gP : Tryd.prog.globalNamed "internal/strconv.uint64pow10" = some 2 := by kernel_rfl
theorem gPType : (Tryd.prog.globals[2]?).map (·.type) = some 82 := by kernel_rfl
theorem cellsPE : Tryd.prog.cellsOf 63 = 1 := by kernel_rfl
theorem cellsPT : Tryd.prog.cellsOf 82 = 20 := by kernel_rfl
theorem gT : Tryd.prog.globalNamed "math/bits.deBruijn64tab" = some 1 := by kernel_rfl
theorem gTType : (Tryd.prog.globals[1]?).map (·.type) = some 75 := by kernel_rfl
theorem cellsE : Tryd.prog.cellsOf 5 = 1 := by kernel_rfl
theorem cellsT : Tryd.prog.cellsOf 75 = 64 := by kernel_rfl
theorem tbLt {w : World} {a : Addr} {v : Value} (h : w.cell? a = some v) : a.block < w.heap.size := by
  rcases Nat.lt_or_ge a.block w.heap.size with h1 | h1
  · exact h1
  · unfold World.cell? at h; rw [Array.getElem?_eq_none h1] at h; cases h
/-- the table as the row lists it -/
theorem tabL : Rows.fnTextRow.laid = [("math/bits.deBruijn32tab", Rows.laid_math_bits_deBruijn32tab), ("math/bits.deBruijn64tab", Lib.tabData .u8 (Lib.deBruijn64tab.map fun (z : Nat) => (z : Int))), ("internal/strconv.uint64pow10", Lib.tabData .u64 Lib.pow10Tab), ("bytes.ErrTooLarge", Rows.laid_bytes_ErrTooLarge)] := by kernel_rfl
/-- a world that meets the row's condition -/
noncomputable def low : Nat := (World.holding Tryd.prog default ⟨#[], #[], []⟩).heap.size
noncomputable def laidWorld (os : Os) : World := { (World.holding Tryd.prog os ⟨#[.cells #[.string ⟨#[98, 121, 116, 101, 115, 46, 66, 117, 102, 102, 101, 114, 58, 32, 116, 111, 111, 32, 108, 97, 114, 103, 101]⟩] 103], #[], []⟩) with heap := (((((World.holding Tryd.prog os ⟨#[.cells #[.string ⟨#[98, 121, 116, 101, 115, 46, 66, 117, 102, 102, 101, 114, 58, 32, 116, 111, 111, 32, 108, 97, 114, 103, 101]⟩] 103], #[], []⟩).heap.modify 3 fun | .cells _ t frozen => .cells #[.int .u8 0, .int .u8 1, .int .u8 28, .int .u8 2, .int .u8 29, .int .u8 14, .int .u8 24, .int .u8 3, .int .u8 30, .int .u8 22, .int .u8 20, .int .u8 15, .int .u8 25, .int .u8 17, .int .u8 4, .int .u8 8, .int .u8 31, .int .u8 27, .int .u8 13, .int .u8 23, .int .u8 21, .int .u8 19, .int .u8 16, .int .u8 7, .int .u8 26, .int .u8 12, .int .u8 18, .int .u8 6, .int .u8 11, .int .u8 5, .int .u8 10, .int .u8 9] t frozen | o => o).modify 1 fun | .cells _ t frozen => .cells (Lib.deBruijn64tab.map fun (z : Nat) => Value.int .u8 (z : Int)).toArray t frozen | o => o).modify 2 fun | .cells _ t frozen => .cells #[.int .u64 1, .int .u64 10, .int .u64 100, .int .u64 1000, .int .u64 10000, .int .u64 100000, .int .u64 1000000, .int .u64 10000000, .int .u64 100000000, .int .u64 1000000000, .int .u64 10000000000, .int .u64 100000000000, .int .u64 1000000000000, .int .u64 10000000000000, .int .u64 100000000000000, .int .u64 1000000000000000, .int .u64 10000000000000000, .int .u64 100000000000000000, .int .u64 1000000000000000000, .int .u64 10000000000000000000] t frozen | o => o).modify 0 fun | .cells _ t frozen => .cells #[.iface 88 (.pointer (some ⟨low, 0, none⟩))] t frozen | o => o) }
theorem laidMet_W (os : Os) (args : Array Value) : laidMetH Tryd.prog Rows.fnTextRow.laid ((laidWorld os).forCall (fun _ _ => 0) ⟨#[], args, []⟩).memory := laidMetH_of_parts (laidMet_of_run' 8 (by kernel_rfl) (by kernel_rfl)) (by kernel_rfl)
set_option maxRecDepth 100000 in
theorem lifted (os : Os) (started : os.Started) (H : Type) (enc : TypeId × Value → H) :
    ReturnsInHanded {} Tryd.checked os 3 .any (fun w args => (Rows.fnTextSpec.pre enc Tryd.prog Tryd.f3 Rows.fnTextRow.domain false w args ∧ laidMetH Tryd.prog Rows.fnTextRow.laid w) ∧ sizedMet enc Tryd.prog Tryd.f3 (OpenSpec.ofChange Rows.fnTextSpec) false w args) (Rows.fnTextSpec.post enc Tryd.prog Tryd.f3 false true false false) := by
  refine returnsInHanded_of_change_and (C := Tryd.checked) (X := fun w _ => laidMetH Tryd.prog Rows.fnTextRow.laid w) (fun _ _ _ hh h => h.of_heap hh) own started (by kernel_rfl) Tryd.func3
    (ChangeSpec.witness_at (enc := enc) (C := Tryd.checked) (os := os) (X := fun w _ => laidMetH Tryd.prog Rows.fnTextRow.laid w) false (laidWorld os) #[.agg #[.int .u64 0, .slice none 0 0]] 8 rfl (by kernel_rfl) (by kernel_rfl) (by kernel_rfl) (by kernel_rfl) (by kernel_rfl) (laidMet_W os _)) ?_
  intro W base args ds gs before hval0 hW hcnd hsz0 hLaid _
  have hval : ∀ (j : Nat) t v, Tryd.f3.params[j]? = some t → args[j]? = some v → Value.okWide Tryd.prog W .any base t v := hval0
  have hW' := hW
  obtain ⟨p, q, hA0, hV, rfl, hfz, hnd⟩ := hW
  have hA : DataW.TrodAll enc Tryd.prog W 0 (fun _ => true) true Tryd.f3.params.toList args.toList ds p := hA0
  rw [Tryd.params3] at hA hval
  obtain ⟨v0, vs0, d0, ds0, p0, q0, hargs, rfl, rfl, h0, r0⟩ := trodAll_cons hA
  obtain ⟨rfl, rfl, rfl⟩ := trodAll_nil r0
  obtain rfl : args = #[v0] := by cases args; simp_all
  obtain ⟨rfl, rfl⟩ := trodVars_none hV
  have k0 := h0
  have lt0 : ∀ x ∈ p0, x.block < W.heap.size := by obtain ⟨m, hm⟩ := k0; exact DataW.trod_lt m _ _ _ hm
  obtain ⟨x0, L0, A0, n0, c0, hx0, hL0, hR0⟩ : ∃ (xs : List Nat) (L : Nat) (A : Option Addr) (n c : Nat), v0 = .agg #[.int .u64 (L : Int), .slice A n c] ∧ L < 18446744073709551616 ∧ Rd W A n xs := by
    obtain ⟨c0, c1, y0, y1, m, rfl, rfl, hp, hy0, hy1⟩ := open_agg2 Tryd.underlying25 (by kernel_rfl) (by kernel_rfl) (hval 0 25 v0 rfl rfl) h0
    obtain ⟨z, e0, rfl, wz⟩ := DataW.trod_int Tryd.underlying22 hy0
    simp at e0; subst e0
    have wz := wf_u64 wz
    obtain ⟨L, rfl⟩ : ∃ L : Nat, z = (L : Int) := ⟨z.toNat, by omega⟩
    have hq1 : ∀ x ∈ y1.2, x.block < W.heap.size := fun x hx => lt0 x (by rw [hp]; exact List.mem_append_right _ hx)
    rcases open_ints Tryd.underlying23 Tryd.underlying22 (by kernel_rfl) hy1 with ⟨hcs, _⟩ | ⟨x, l, c, zs, hcs, _, hl, hm, hz, hyx, hcell, hwz⟩
    · simp at hcs; subst hcs
      exact ⟨[], L, none, 0, 0, rfl, by omega, rd_nil W⟩
    · simp at hcs; subst hcs
      have hzl : l ≤ zs.length := by rw [hz]; split <;> omega
      exact ⟨_, L, some x, l, c, rfl, by omega, rd_some hl hm hzl hcell hwz⟩
  subst hx0
  have hTp : Tp W := by
    have h' : laidMet Tryd.prog Rows.fnTextRow.laid W := hLaid
    rw [tabL] at h'
    have hI := Lib.tabIs_of_head gP gPType Tryd.underlying82 Tryd.underlying63 cellsPE cellsPT (laid_tail (laid_tail h'))
    exact ⟨hI, tbLt (hI.cell gP 0 (by decide))⟩
  have hTb : Tb W := by
    have h' : laidMet Tryd.prog Rows.fnTextRow.laid W := hLaid
    rw [tabL] at h'
    have hI := Lib.tabIs_of_head gT gTType Tryd.underlying75 Tryd.underlying5 cellsE cellsT (laid_tail h')
    refine ⟨tbLt (hI.cell gT 0 (by decide)), fun i hi => ?_⟩
    have hc := hI.cell gT i (by rw [List.length_map]; exact hi)
    rw [hc]
    have e : (Lib.deBruijn64tab.map fun (z : Nat) => (z : Int)).getD i 0 = ((Lib.deBruijn64tab.getD i 0 : Nat) : Int) := by
      have hl : i < Lib.deBruijn64tab.length := hi
      rw [List.getD_eq_getElem?_getD, List.getElem?_map, List.getD_eq_getElem?_getD, List.getElem?_eq_getElem hl]; rfl
    rw [e]
  refine Calls.mono (c_FnText L0 A0 n0 c0 x0 W hTb hTp hR0) fun e W' he => ?_
  obtain ⟨v, rfl, rfl, hK⟩ := he
  have bel : Below W.heap.size W W' := hK.below (Nat.le_refl _) (by simp)
  exact ⟨_, rfl, _, _, _, [], _, [], hW', trodAll_mk1 (shut_bool Tryd.underlying4 _), (trodAll_cons_mk (Below.trod laidOut (by kernel_rfl) (of_decide_eq_true (by kernel_rfl)) k0 bel lt0) trodAll_mk0), rfl, bel.frame _, fun h => by cases h⟩
theorem over : Rows.fnTextRow.holds Tryd.pinned (OpenSpec.ofChange Rows.fnTextSpec) :=
  OpenClaim.holds_of_wide 3 Tryd.f3 rfl rfl rfl rfl rfl rfl rfl ⟨rfl, rfl, rfl, rfl, rfl⟩ rfl rfl rfl rfl rfl (by kernel_rfl) Tryd.func3 (by kernel_rfl)
    (of_decide_eq_true (by kernel_rfl)) (by unfold Func.isWrapper; first | (rw [if_pos (by decide +kernel)]; kernel_rfl) | (rw [if_neg (by decide +kernel)]; exact ⟨rfl, rfl⟩))
    (fun os started H enc _ => lifted os started H enc)
end Go.Proofs.YtoheaoihiecgdaaDoor.fnText
namespace Go.Proofs.YtoheaoihiecgdaaDoor
theorem fnText_holds : Rows.FnTextCardSaid :=
  Claim7.holds_tied_plain_at .later [] [.data, .data, .data, .sentinel] true (true, "0de75e578ff46263364c52af5c81469ad9b53262d36735f378b0f9eb0e614b8e") false
    fnText.over (fun _ h => by cases h) (by kernel_rfl) (fun _ h => by cases h) fnText_row_tie rfl ⟨rfl, rfl⟩ (by kernel_rfl) rfl
    (fun f fn hf hfn => by
      obtain rfl : f = 3 := Option.some.inj ((show Tryd.prog.funcNamed "loop.example/pub-g03257/laws.FnText" = some 3 by kernel_rfl).symm.trans hf) |>.symm
      obtain rfl : fn = Tryd.f3 := (Option.some.inj (Tryd.func3.symm.trans hfn)).symm
      refine ⟨by kernel_rfl, fun j t ht => ?_⟩
      rw [Tryd.params3] at ht
      have hm : t ∈ [25] := by
        have := Array.mem_of_getElem? ht
        simpa using this
      simp only [List.mem_cons, List.not_mem_nil, or_false] at hm
      rcases hm with rfl
      · exact (show Tryd.prog.wantsStandIn 25 = false by kernel_rfl))
    (by kernel_rfl)
#print axioms fnText_holds
end Go.Proofs.YtoheaoihiecgdaaDoor

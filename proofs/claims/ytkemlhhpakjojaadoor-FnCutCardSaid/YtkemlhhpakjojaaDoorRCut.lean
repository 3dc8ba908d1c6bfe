/- The law FnCut, for every input: the call returns true and each argument reads afterwards as it read before. -/
import Derived.Test.YtkemlhhpakjojaaDoorRows
import Derived.Test.YtkemlhhpakjojaaDoorZ6
import Derived.Test.YtkemlhhpakjojaaDoorVCut
import Derived.WalkKit
import Derived.ProofKit
import Derived.OpenShut
import Derived.ShutString
import Derived.ChangeOld
import Derived.Below
import Derived.SizedLaws
import Derived.Lib.SmallJoins
import Derived.Handed
import Derived.LaidLaws
import Derived.LaidHandle
import Derived.Lib.LaidTab
import Derived.SevenTiedAt
import Derived.Test.YtkemlhhpakjojaaDoorCards
import Derived.Test.YtkemlhhpakjojaaDoorTie
namespace Go.Proofs.YtkemlhhpakjojaaDoor.fnCut
open Go.ChangeShapes Go.WideShapes Go.ChangeAt Go.RowKit Go.Joins
open Go.ChangeMaps (open_string shut_string)
set_option linter.unusedVariables false
set_option linter.unusedSimpArgs false
theorem own : ownKnob Tryd.prog.godebug = none := by kernel_rfl
theorem laidOut : laidOutB Tryd.prog = true := by kernel_rfl
theorem laid_tail {P : Program} {x : String × DataW Unit} {rest : List (String × DataW Unit)} {W : World} (h : laidMet P (x :: rest) W) : laidMet P rest W := by
  obtain ⟨ps, hL, hnd, hrows⟩ := h
  obtain ⟨name, d⟩ := x
  obtain ⟨g', t', cs, fuel, p, q, hg', ht', hvar, hd, hrest, rfl⟩ := hL
  exact ⟨q, hrest, (List.nodup_append.1 hnd).2.1, fun b off hm => hrows b off (List.mem_append_right _ hm)⟩
theorem gT : Tryd.prog.globalNamed "math/bits.deBruijn64tab" = some 3 := by kernel_rfl
theorem gTType : (Tryd.prog.globals[3]?).map (·.type) = some 84 := by kernel_rfl
theorem cellsE : Tryd.prog.cellsOf 5 = 1 := by kernel_rfl
theorem cellsT : Tryd.prog.cellsOf 84 = 64 := by kernel_rfl
theorem tbLt {w : World} {a : Addr} {v : Value} (h : w.cell? a = some v) : a.block < w.heap.size := by
  rcases Nat.lt_or_ge a.block w.heap.size with h1 | h1
  · exact h1
  · unfold World.cell? at h; rw [Array.getElem?_eq_none h1] at h; cases h
/-- the table as the row lists it -/
theorem tabL : Rows.fnCutRow.laid = [("math/bits.deBruijn64tab", Lib.tabData .u8 (Lib.deBruijn64tab.map fun (z : Nat) => (z : Int))), ("io.ErrShortBuffer", Rows.laid_io_ErrShortBuffer), ("io.EOF", Rows.laid_io_EOF), ("io.ErrUnexpectedEOF", Rows.laid_io_ErrUnexpectedEOF)] := by kernel_rfl
theorem star : "*" ++ "errors.errorString" = "*errors.errorString" := by decide
theorem rowE (u : TypeId) (h : Tryd.prog.typeName? 3 u = some "*errors.errorString") : u = 80 :=
  typeName_ptr_named (nm := "errors.errorString") (by rw [star]; kernel_rfl) (by kernel_rfl) (by decide) u (by rw [star]; exact h)
/-- a variable that holds an error, out of the row's condition -/
theorem sent_of_head {W : World} {nm : String} {text : List UInt8} {rest : List (String × DataW Unit)} {g : Nat} (hg : Tryd.prog.globalNamed nm = some g) (ht : (Tryd.prog.globals[g]?).map (·.type) = some 50)
    (h : laidMet Tryd.prog ((nm, .iface "*errors.errorString" (.ptr (.agg [.lit (.string text)]))) :: rest) W) : ∃ a, Sen W.heap.size W g 80 a := by
  obtain ⟨ps, ⟨g0, t0, cs0, f0, p0, q0, hg0, ht0, hv0, hd0, hrest, e0⟩, hnd, hrows⟩ := h
  obtain rfl := Option.some.inj (hg.symm.trans hg0)
  obtain rfl := Option.some.inj (ht.symm.trans ht0)
  subst e0
  obtain ⟨l0⟩ := cs0
  have ok0 : ∀ u v, l0 = [.iface u v] → Value.okWide Tryd.prog W .any 0 u v := fun u v e => by
    subst e
    exact (hrows g 0 (by simp [MemPlace.row])).2 u v (by simpa using World.var?_cell hg hv0 0)
  obtain ⟨a0, s0, rfl, hc0, hs0, hz0, rfl⟩ := errorString_of_trod Tryd.underlying50 rowE Tryd.underlying80 Tryd.underlying82 rfl rfl Tryd.underlying9 (by kernel_rfl) (by kernel_rfl) hd0 ok0
  obtain ⟨c0, t0, hb0⟩ := (hrows a0.block a0.off (by simp [MemPlace.row])).1
  have hcell : W.cell? ⟨g, 0, none⟩ = some (.iface 80 (.pointer (some a0))) := by simpa using World.var?_cell hg hv0 0
  exact ⟨a0, hcell, tbLt hcell, (Array.getElem?_eq_some_iff.1 hb0).1, Nat.le_refl _, c0, t0, hb0⟩
/-- a world that meets the row's condition -/
noncomputable def low : Nat := (World.holding Tryd.prog default ⟨#[], #[], []⟩).heap.size
noncomputable def laidWorld (os : Os) : World := { (World.holding Tryd.prog os ⟨#[.cells #[.string ⟨#[115, 104, 111, 114, 116, 32, 98, 117, 102, 102, 101, 114]⟩] 82, .cells #[.string ⟨#[69, 79, 70]⟩] 82, .cells #[.string ⟨#[117, 110, 101, 120, 112, 101, 99, 116, 101, 100, 32, 69, 79, 70]⟩] 82], #[], []⟩) with heap := (((((World.holding Tryd.prog os ⟨#[.cells #[.string ⟨#[115, 104, 111, 114, 116, 32, 98, 117, 102, 102, 101, 114]⟩] 82, .cells #[.string ⟨#[69, 79, 70]⟩] 82, .cells #[.string ⟨#[117, 110, 101, 120, 112, 101, 99, 116, 101, 100, 32, 69, 79, 70]⟩] 82], #[], []⟩).heap.modify 3 fun | .cells _ t frozen => .cells (Lib.deBruijn64tab.map fun (z : Nat) => Value.int .u8 (z : Int)).toArray t frozen | o => o).modify 4 fun | .cells _ t frozen => .cells #[.iface 80 (.pointer (some ⟨low, 0, none⟩))] t frozen | o => o).modify 1 fun | .cells _ t frozen => .cells #[.iface 80 (.pointer (some ⟨low + 1, 0, none⟩))] t frozen | o => o).modify 2 fun | .cells _ t frozen => .cells #[.iface 80 (.pointer (some ⟨low + 2, 0, none⟩))] t frozen | o => o) }
theorem laidMet_W (os : Os) (args : Array Value) : laidMetH Tryd.prog Rows.fnCutRow.laid ((laidWorld os).forCall (fun _ _ => 0) ⟨#[], args, []⟩).memory := laidMetH_of_parts (laidMet_of_run' 8 (by kernel_rfl) (by kernel_rfl)) (by kernel_rfl)
set_option maxRecDepth 100000 in
theorem lifted (os : Os) (started : os.Started) (H : Type) (enc : TypeId × Value → H) :
    ReturnsInHanded {} Tryd.checked os 3 .any (fun w args => (Rows.fnCutSpec.pre enc Tryd.prog Tryd.f3 Rows.fnCutRow.domain false w args ∧ laidMetH Tryd.prog Rows.fnCutRow.laid w) ∧ sizedMet enc Tryd.prog Tryd.f3 (OpenSpec.ofChange Rows.fnCutSpec) false w args) (Rows.fnCutSpec.post enc Tryd.prog Tryd.f3 false true false false) := by
  refine returnsInHanded_of_change_and (C := Tryd.checked) (X := fun w _ => laidMetH Tryd.prog Rows.fnCutRow.laid w) (fun _ _ _ hh h => h.of_heap hh) own started (by kernel_rfl) Tryd.func3
    (ChangeSpec.witness_at (enc := enc) (C := Tryd.checked) (os := os) (X := fun w _ => laidMetH Tryd.prog Rows.fnCutRow.laid w) false (laidWorld os) #[.agg #[.int .u64 0, .slice none 0 0], .int .u16 0] 8 rfl (by kernel_rfl) (by kernel_rfl) (by kernel_rfl) (by kernel_rfl) (by kernel_rfl) (laidMet_W os _)) ?_
  intro W base args ds gs before hval0 hW hcnd hsz0 hLaid _
  have hval : ∀ (j : Nat) t v, Tryd.f3.params[j]? = some t → args[j]? = some v → Value.okWide Tryd.prog W .any base t v := hval0
  have hW' := hW
  obtain ⟨p, q, hA0, hV, rfl, hfz, hnd⟩ := hW
  have hA : DataW.TrodAll enc Tryd.prog W 0 (fun _ => true) true Tryd.f3.params.toList args.toList ds p := hA0
  rw [Tryd.params3] at hA hval
  obtain ⟨v0, vs0, d0, ds0, p0, q0, hargs, rfl, rfl, h0, r0⟩ := trodAll_cons hA
  obtain ⟨v1, vs1, d1, ds1, p1, q1, rfl, rfl, rfl, h1, r1⟩ := trodAll_cons r0
  obtain ⟨rfl, rfl, rfl⟩ := trodAll_nil r1
  obtain rfl : args = #[v0, v1] := by cases args; simp_all
  obtain ⟨rfl, rfl⟩ := trodVars_none hV
  have k0 := h0
  have lt0 : ∀ x ∈ p0, x.block < W.heap.size := by obtain ⟨m, hm⟩ := k0; exact DataW.trod_lt m _ _ _ hm
  obtain ⟨x0, L0, A0, n0, c0, hx0, hL0, hR0⟩ : ∃ (xs : List Nat) (L : Nat) (A : Option Addr) (n c : Nat), v0 = .agg #[.int .u64 (L : Int), .slice A n c] ∧ L < 18446744073709551616 ∧ Rd W A n xs := by
    obtain ⟨c0, c1, y0, y1, m, rfl, rfl, hp, hy0, hy1⟩ := open_agg2 Tryd.underlying25 (by kernel_rfl) (by kernel_rfl) (hval 0 25 v0 rfl rfl) h0
    obtain ⟨z, e0, rfl, wz⟩ := DataW.trod_int Tryd.underlying22 hy0
    simp at e0; subst e0
    have wz := wf_u64 wz
    obtain ⟨L, rfl⟩ : ∃ L : Nat, z = (L : Int) := ⟨z.toNat, by omega⟩
    have hq1 : ∀ x ∈ y1.2, x.block < W.heap.size := fun x hx => lt0 x (by rw [hp]; exact List.mem_append_right _ hx)
    rcases open_ints Tryd.underlying23 Tryd.underlying22 (by kernel_rfl) hy1 with ⟨hcs, _⟩ | ⟨x, l, c, zs, hcs, _, hl, hm, hz, hyx, hcell, hwz⟩
    · simp at hcs; subst hcs
      exact ⟨[], L, none, 0, 0, rfl, by omega, rd_nil W⟩
    · simp at hcs; subst hcs
      have hzl : l ≤ zs.length := by rw [hz]; split <;> omega
      exact ⟨_, L, some x, l, c, rfl, by omega, rd_some hl hm hzl hcell hwz⟩
  subst hx0
  obtain ⟨a1, rfl, rfl, rfl, w1⟩ := open_int Tryd.underlying26 (hval 1 26 v1 rfl rfl) h1
  have z1 := bounds_u16 w1
  obtain ⟨i1, rfl⟩ : ∃ i : Nat, a1 = (i : Int) := ⟨a1.toNat, by omega⟩
  have hEr : Er W := by
    have h' : laidMet Tryd.prog Rows.fnCutRow.laid W := hLaid
    rw [tabL] at h'
    obtain ⟨e1, h1⟩ := sent_of_head (g := 1) (by kernel_rfl) (by kernel_rfl) (laid_tail (laid_tail h'))
    obtain ⟨e2, h2⟩ := sent_of_head (g := 2) (by kernel_rfl) (by kernel_rfl) (laid_tail (laid_tail (laid_tail h')))
    exact ⟨e1, e2, h1, h2⟩
  have hTb : Tb W := by
    have h' : laidMet Tryd.prog Rows.fnCutRow.laid W := hLaid
    rw [tabL] at h'
    have hI := Lib.tabIs_of_head gT gTType Tryd.underlying84 Tryd.underlying5 cellsE cellsT h'
    refine ⟨tbLt (hI.cell gT 0 (by decide)), fun i hi => ?_⟩
    have hc := hI.cell gT i (by rw [List.length_map]; exact hi)
    rw [hc]
    have e : (Lib.deBruijn64tab.map fun (z : Nat) => (z : Int)).getD i 0 = ((Lib.deBruijn64tab.getD i 0 : Nat) : Int) := by
      have hl : i < Lib.deBruijn64tab.length := hi
      rw [List.getD_eq_getElem?_getD, List.getElem?_map, List.getD_eq_getElem?_getD, List.getElem?_eq_getElem hl]; rfl
    rw [e]
  refine Calls.mono (c_FnCut L0 A0 n0 c0 x0 i1 W hTb hEr hR0 (by omega)) fun e W' he => ?_
  obtain ⟨v, rfl, rfl, hK⟩ := he
  have bel : Below W.heap.size W W' := hK.below (Nat.le_refl _) (by simp)
  exact ⟨_, rfl, _, _, _, [], _, [], hW', trodAll_mk1 (shut_bool Tryd.underlying4 _), (trodAll_cons_mk (Below.trod laidOut (by kernel_rfl) (of_decide_eq_true (by kernel_rfl)) k0 bel lt0) (trodAll_cons_mk (shut_int Tryd.underlying26 w1) trodAll_mk0)), rfl, bel.frame _, fun h => by cases h⟩
theorem over : Rows.fnCutRow.holds Tryd.pinned (OpenSpec.ofChange Rows.fnCutSpec) :=
  OpenClaim.holds_of_wide 3 Tryd.f3 rfl rfl rfl rfl rfl rfl rfl ⟨rfl, rfl, rfl, rfl, rfl⟩ rfl rfl rfl rfl rfl (by kernel_rfl) Tryd.func3 (by kernel_rfl)
    (of_decide_eq_true (by kernel_rfl)) (by unfold Func.isWrapper; first | (rw [if_pos (by decide +kernel)]; kernel_rfl) | (rw [if_neg (by decide +kernel)]; exact ⟨rfl, rfl⟩))
    (fun os started H enc _ => lifted os started H enc)
end Go.Proofs.YtkemlhhpakjojaaDoor.fnCut
namespace Go.Proofs.YtkemlhhpakjojaaDoor
theorem fnCut_holds : Rows.FnCutCardSaid :=
  Claim7.holds_tied_plain_at .later [] [.data, .sentinel, .sentinel, .sentinel] true (true, "63a466f6193f74f2acee2e3d5ec6f73814f637f9c62623395079b1440377faad") true
    fnCut.over (fun _ h => by cases h) (by kernel_rfl) (fun _ h => by cases h) fnCut_row_tie rfl ⟨rfl, rfl⟩ (by kernel_rfl) rfl
    (fun f fn hf hfn => by
      obtain rfl : f = 3 := Option.some.inj ((show Tryd.prog.funcNamed "loop.example/pub-g03257/laws.FnCut" = some 3 by kernel_rfl).symm.trans hf) |>.symm
      obtain rfl : fn = Tryd.f3 := (Option.some.inj (Tryd.func3.symm.trans hfn)).symm
      refine ⟨by kernel_rfl, fun j t ht => ?_⟩
      rw [Tryd.params3] at ht
      have hm : t ∈ [25, 26] := by
        have := Array.mem_of_getElem? ht
        simpa using this
      simp only [List.mem_cons, List.not_mem_nil, or_false] at hm
      rcases hm with rfl | rfl
      · exact (show Tryd.prog.wantsStandIn 25 = false by kernel_rfl)
      · exact (show Tryd.prog.wantsStandIn 26 = false by kernel_rfl))
    (by kernel_rfl)
#print axioms fnCut_holds
end Go.Proofs.YtkemlhhpakjojaaDoor

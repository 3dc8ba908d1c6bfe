/- Facts on the program's types and functions, each by the kernel; laid by a program of the session's own. -/
import Derived.Test.YtbahhdeblppooaaDoorK5
import Derived.Test.YtbahhdeblppooaaDoorProg
import Derived.OwnWalk
set_option linter.unusedVariables false
set_option maxRecDepth 100000
namespace Go.Proofs.YtbahhdeblppooaaDoor
open Go Go.RowKit
theorem agg25 : tOne Tryd.prog 25 = false := by kernel_rfl
theorem inf22 : (Tryd.prog.info? 22).map (fun i => (i.zero, i.size, i.bytes)) = some (some (.int .u64 0), 1, 8) := by kernel_rfl
theorem inf4 : (Tryd.prog.info? 4).map (fun i => (i.zero, i.size, i.bytes)) = some (some (.bool false), 1, 1) := by kernel_rfl
theorem inf67 : (Tryd.prog.info? 67).map (fun i => (i.zero, i.size, i.bytes)) = some (some (.int .u64 0), 1, 8) := by kernel_rfl
theorem isfn13 : IsFn Tryd.prog 13 := ⟨Tryd.f13, Tryd.func13, by kernel_rfl, by kernel_rfl⟩
theorem isfn14 : IsFn Tryd.prog 14 := ⟨Tryd.f14, Tryd.func14, by kernel_rfl, by kernel_rfl⟩
theorem isfn16 : IsFn Tryd.prog 16 := ⟨Tryd.f16, Tryd.func16, by kernel_rfl, by kernel_rfl⟩
theorem isfn17 : IsFn Tryd.prog 17 := ⟨Tryd.f17, Tryd.func17, by kernel_rfl, by kernel_rfl⟩
theorem isfn18 : IsFn Tryd.prog 18 := ⟨Tryd.f18, Tryd.func18, by kernel_rfl, by kernel_rfl⟩
theorem isfn21 : IsFn Tryd.prog 21 := ⟨Tryd.f21, Tryd.func21, by kernel_rfl, by kernel_rfl⟩
theorem isfn22 : IsFn Tryd.prog 22 := ⟨Tryd.f22, Tryd.func22, by kernel_rfl, by kernel_rfl⟩
theorem isfn23 : IsFn Tryd.prog 23 := ⟨Tryd.f23, Tryd.func23, by kernel_rfl, by kernel_rfl⟩
theorem isfn30 : IsFn Tryd.prog 30 := ⟨Tryd.f30, Tryd.func30, by kernel_rfl, by kernel_rfl⟩
theorem isfn31 : IsFn Tryd.prog 31 := ⟨Tryd.f31, Tryd.func31, by kernel_rfl, by kernel_rfl⟩
theorem isfn32 : IsFn Tryd.prog 32 := ⟨Tryd.f32, Tryd.func32, by kernel_rfl, by kernel_rfl⟩
theorem isfn33 : IsFn Tryd.prog 33 := ⟨Tryd.f33, Tryd.func33, by kernel_rfl, by kernel_rfl⟩
theorem isfn34 : IsFn Tryd.prog 34 := ⟨Tryd.f34, Tryd.func34, by kernel_rfl, by kernel_rfl⟩
theorem isfn37 : IsFn Tryd.prog 37 := ⟨Tryd.f37, Tryd.func37, by kernel_rfl, by kernel_rfl⟩
theorem isfn38 : IsFn Tryd.prog 38 := ⟨Tryd.f38, Tryd.func38, by kernel_rfl, by kernel_rfl⟩
theorem isfn39 : IsFn Tryd.prog 39 := ⟨Tryd.f39, Tryd.func39, by kernel_rfl, by kernel_rfl⟩
theorem isfn40 : IsFn Tryd.prog 40 := ⟨Tryd.f40, Tryd.func40, by kernel_rfl, by kernel_rfl⟩
theorem isfn41 : IsFn Tryd.prog 41 := ⟨Tryd.f41, Tryd.func41, by kernel_rfl, by kernel_rfl⟩
theorem isfn43 : IsFn Tryd.prog 43 := ⟨Tryd.f43, Tryd.func43, by kernel_rfl, by kernel_rfl⟩
theorem isfn44 : IsFn Tryd.prog 44 := ⟨Tryd.f44, Tryd.func44, by kernel_rfl, by kernel_rfl⟩
theorem isfn47 : IsFn Tryd.prog 47 := ⟨Tryd.f47, Tryd.func47, by kernel_rfl, by kernel_rfl⟩
theorem isfn49 : IsFn Tryd.prog 49 := ⟨Tryd.f49, Tryd.func49, by kernel_rfl, by kernel_rfl⟩
theorem isfn50 : IsFn Tryd.prog 50 := ⟨Tryd.f50, Tryd.func50, by kernel_rfl, by kernel_rfl⟩
theorem isfn51 : IsFn Tryd.prog 51 := ⟨Tryd.f51, Tryd.func51, by kernel_rfl, by kernel_rfl⟩
theorem isfn52 : IsFn Tryd.prog 52 := ⟨Tryd.f52, Tryd.func52, by kernel_rfl, by kernel_rfl⟩
theorem isfn53 : IsFn Tryd.prog 53 := ⟨Tryd.f53, Tryd.func53, by kernel_rfl, by kernel_rfl⟩
theorem isfn8 : IsFn Tryd.prog 8 := ⟨Tryd.f8, Tryd.func8, by kernel_rfl, by kernel_rfl⟩
theorem isfn9 : IsFn Tryd.prog 9 := ⟨Tryd.f9, Tryd.func9, by kernel_rfl, by kernel_rfl⟩
theorem mixed : Tryd.prog.follows .mixedOrders = true := by kernel_rfl
theorem one22 : tOne Tryd.prog 22 = true := by kernel_rfl
theorem one23 : tOne Tryd.prog 23 = true := by kernel_rfl
theorem one4 : tOne Tryd.prog 4 = true := by kernel_rfl
theorem one49 : tOne Tryd.prog 49 = true := by kernel_rfl
theorem one5 : tOne Tryd.prog 5 = true := by kernel_rfl
theorem one64 : tOne Tryd.prog 64 = true := by kernel_rfl
theorem one67 : tOne Tryd.prog 67 = true := by kernel_rfl
theorem pte49 : Tryd.prog.underlying 49 = some (.pointer (Tryd.prog.pointee 49)) := by kernel_rfl
theorem sz22 : tSize Tryd.prog 22 = some 1 := by kernel_rfl
theorem sz23 : tSize Tryd.prog 23 = some 1 := by kernel_rfl
theorem sz25 : tSize Tryd.prog 25 = some 2 := by kernel_rfl
theorem sz4 : tSize Tryd.prog 4 = some 1 := by kernel_rfl
theorem sz49 : tSize Tryd.prog 49 = some 1 := by kernel_rfl
theorem sz5 : tSize Tryd.prog 5 = some 1 := by kernel_rfl
theorem sz64 : tSize Tryd.prog 64 = some 1 := by kernel_rfl
theorem sz67 : tSize Tryd.prog 67 = some 1 := by kernel_rfl
theorem us22 : (Tryd.prog.underlying 22).isSome = true := by rw [Tryd.underlying22]; rfl
theorem us25 : (Tryd.prog.underlying 25).isSome = true := by rw [Tryd.underlying25]; rfl
theorem us3 : (Tryd.prog.underlying 3).isSome = true := by rw [Tryd.underlying3]; rfl
theorem us5 : (Tryd.prog.underlying 5).isSome = true := by rw [Tryd.underlying5]; rfl
theorem us67 : (Tryd.prog.underlying 67).isSome = true := by rw [Tryd.underlying67]; rfl
theorem zv22 : tZero Tryd.prog 22 = some (.int .u64 0) := by kernel_rfl
theorem zv23 : tZero Tryd.prog 23 = some (.slice none 0 0) := by kernel_rfl
theorem zv25 : tZero Tryd.prog 25 = some (.agg #[.int .u64 0, .slice none 0 0]) := by kernel_rfl
theorem zv49 : tZero Tryd.prog 49 = some (.pointer none) := by kernel_rfl
theorem bld25_0 {F : Fr} {w : World} {T : TypeId} {x0 : Operand} {z0 : Int} (h0 : ev F x0 = some (.int .u64 z0)) : Zv Tryd.prog w F (.build 25 #[(0, x0)]) T (.agg #[.int .u64 z0, .slice none 0 0]) w :=
  fun dst pos af gd ρ hρ => .inl (by
    have h := run_build (P := Tryd.prog) w 25 #[(0, .int .u64 z0)] #[.int .u64 z0, .slice none 0 0] (by kernel_rfl)
    simp [execOp, hρ _ _ h0, h])
theorem bld25_0_1 {F : Fr} {w : World} {T : TypeId} {x0 x1 : Operand} {z0 : Int} {A1 : Option Addr} {n1 c1 : Nat} (h0 : ev F x0 = some (.int .u64 z0)) (h1 : ev F x1 = some (.slice A1 n1 c1)) : Zv Tryd.prog w F (.build 25 #[(0, x0), (1, x1)]) T (.agg #[.int .u64 z0, .slice A1 n1 c1]) w :=
  fun dst pos af gd ρ hρ => .inl (by
    have h := run_build (P := Tryd.prog) w 25 #[(0, .int .u64 z0), (1, .slice A1 n1 c1)] #[.int .u64 z0, .slice A1 n1 c1] (by kernel_rfl)
    simp [execOp, hρ _ _ h0, hρ _ _ h1, h])
theorem bld66_0_1 {F : Fr} {w : World} {T : TypeId} {x0 x1 : Operand} {z0 : Int} {A1 : Option Addr} {n1 c1 : Nat} (h0 : ev F x0 = some (.int .u64 z0)) (h1 : ev F x1 = some (.slice A1 n1 c1)) : Zv Tryd.prog w F (.build 66 #[(0, x0), (1, x1)]) T (.agg #[.int .u64 z0, .slice A1 n1 c1]) w :=
  fun dst pos af gd ρ hρ => .inl (by
    have h := run_build (P := Tryd.prog) w 66 #[(0, .int .u64 z0), (1, .slice A1 n1 c1)] #[.int .u64 z0, .slice A1 n1 c1] (by kernel_rfl)
    simp [execOp, hρ _ _ h0, hρ _ _ h1, h])
theorem fa25_0 {F : Fr} {w : World} {T : TypeId} {x : Operand} {b o : Nat} (hx : ev F x = some (pt b o)) : Zv Tryd.prog w F (.fieldAddr 25 x 0) T (pt b (o + 0)) w := y_fieldAddr (i := 0) (n := 1) hx Tryd.underlying25 rfl sz22 rfl
theorem fa25_1 {F : Fr} {w : World} {T : TypeId} {x : Operand} {b o : Nat} (hx : ev F x = some (pt b o)) : Zv Tryd.prog w F (.fieldAddr 25 x 1) T (pt b (o + 1)) w := y_fieldAddr (i := 1) (n := 1) hx Tryd.underlying25 rfl sz23 rfl
theorem fa66_0 {F : Fr} {w : World} {T : TypeId} {x : Operand} {b o : Nat} (hx : ev F x = some (pt b o)) : Zv Tryd.prog w F (.fieldAddr 66 x 0) T (pt b (o + 0)) w := y_fieldAddr (i := 0) (n := 1) hx Tryd.underlying66 rfl sz22 rfl
theorem fa66_1 {F : Fr} {w : World} {T : TypeId} {x : Operand} {b o : Nat} (hx : ev F x = some (pt b o)) : Zv Tryd.prog w F (.fieldAddr 66 x 1) T (pt b (o + 1)) w := y_fieldAddr (i := 1) (n := 1) hx Tryd.underlying66 rfl sz64 rfl
theorem fld25_1 {F : Fr} {w : World} {T : TypeId} {x : Operand} {l : List Value} {v : Value} (hx : ev F x = some (.agg l.toArray)) (hv : l[1]? = some v) : Zv Tryd.prog w F (.field 25 x 1) T v w := y_field (i := 1) hx Tryd.underlying25 rfl one23 hv
theorem mk23 {ops : Array Oper} {Q : Exit → Act → World → Prop} {n : Nat} {D : List Deferred} {F : Fr} {rest : List Oper} {w : World} {T : TypeId} {pos : String} {af : Array Edge} {d : Nat} {x y : Operand} {k1 k2 : IntKind} {l c : Nat} (hx : ev F x = some (.int k1 (l : Int))) (hy : ev F y = some (.int k2 (c : Int))) (hlc : l ≤ c) (hc : c ≤ 4398046511104) (hd : Nat.blt d n = true)
    (k : ∀ b w1, w.heap.size = b → Blk w1 b 22 ((List.replicate c (0)).map vU) → Keep w w1 [] → w1.heap.size = b + 1 → wpL Tryd.prog ops Q n D ((d, vS b l c) :: F) rest w1) : wpL Tryd.prog ops Q n D F (⟨some d, .makeSlice 23 x y, T, pos, af, none⟩ :: rest) w := by
  obtain ⟨i0, hi, h0, h1, h2⟩ := info_parts inf22
  exact st_make hx hy Tryd.underlying23 hi h0 rfl h1 (by omega) hlc hc hd fun b w1 e1 e2 => k b w1 e1 (by rw [List.map_replicate]; exact e2)
theorem mk28 {ops : Array Oper} {Q : Exit → Act → World → Prop} {n : Nat} {D : List Deferred} {F : Fr} {rest : List Oper} {w : World} {T : TypeId} {pos : String} {af : Array Edge} {d : Nat} {x y : Operand} {k1 k2 : IntKind} {l c : Nat} (hx : ev F x = some (.int k1 (l : Int))) (hy : ev F y = some (.int k2 (c : Int))) (hlc : l ≤ c) (hc : c ≤ 4398046511104) (hd : Nat.blt d n = true)
    (k : ∀ b w1, w.heap.size = b → Blk w1 b 4 ((List.replicate c (false)).map vB) → Keep w w1 [] → w1.heap.size = b + 1 → wpL Tryd.prog ops Q n D ((d, vS b l c) :: F) rest w1) : wpL Tryd.prog ops Q n D F (⟨some d, .makeSlice 28 x y, T, pos, af, none⟩ :: rest) w := by
  obtain ⟨i0, hi, h0, h1, h2⟩ := info_parts inf4
  exact st_make hx hy Tryd.underlying28 hi h0 rfl h1 (by omega) hlc hc hd fun b w1 e1 e2 => k b w1 e1 (by rw [List.map_replicate]; exact e2)
theorem mk64 {ops : Array Oper} {Q : Exit → Act → World → Prop} {n : Nat} {D : List Deferred} {F : Fr} {rest : List Oper} {w : World} {T : TypeId} {pos : String} {af : Array Edge} {d : Nat} {x y : Operand} {k1 k2 : IntKind} {l c : Nat} (hx : ev F x = some (.int k1 (l : Int))) (hy : ev F y = some (.int k2 (c : Int))) (hlc : l ≤ c) (hc : c ≤ 4398046511104) (hd : Nat.blt d n = true)
    (k : ∀ b w1, w.heap.size = b → Blk w1 b 67 ((List.replicate c (0)).map vU) → Keep w w1 [] → w1.heap.size = b + 1 → wpL Tryd.prog ops Q n D ((d, vS b l c) :: F) rest w1) : wpL Tryd.prog ops Q n D F (⟨some d, .makeSlice 64 x y, T, pos, af, none⟩ :: rest) w := by
  obtain ⟨i0, hi, h0, h1, h2⟩ := info_parts inf67
  exact st_make hx hy Tryd.underlying64 hi h0 rfl h1 (by omega) hlc hc hd fun b w1 e1 e2 => k b w1 e1 (by rw [List.map_replicate]; exact e2)
end Go.Proofs.YtbahhdeblppooaaDoor

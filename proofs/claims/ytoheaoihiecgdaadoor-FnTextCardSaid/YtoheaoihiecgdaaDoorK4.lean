/- Facts on the program's types and functions, each by the kernel; laid by a program of the session's own. -/
import Derived.Test.YtoheaoihiecgdaaDoorK5
import Derived.Test.YtoheaoihiecgdaaDoorProg
import Derived.OwnWalk
set_option linter.unusedVariables false
set_option maxRecDepth 100000
namespace Go.Proofs.YtoheaoihiecgdaaDoor
open Go Go.RowKit
theorem agg25 : tOne Tryd.prog 25 = false := by kernel_rfl
theorem inf22 : (Tryd.prog.info? 22).map (fun i => (i.zero, i.size, i.bytes)) = some (some (.int .u64 0), 1, 8) := by kernel_rfl
theorem inf4 : (Tryd.prog.info? 4).map (fun i => (i.zero, i.size, i.bytes)) = some (some (.bool false), 1, 1) := by kernel_rfl
theorem inf5 : (Tryd.prog.info? 5).map (fun i => (i.zero, i.size, i.bytes)) = some (some (.int .u8 0), 1, 1) := by kernel_rfl
theorem inf63 : (Tryd.prog.info? 63).map (fun i => (i.zero, i.size, i.bytes)) = some (some (.int .u64 0), 1, 8) := by kernel_rfl
theorem isfn10 : IsFn Tryd.prog 10 := ⟨Tryd.f10, Tryd.func10, by kernel_rfl, by kernel_rfl⟩
theorem isfn11 : IsFn Tryd.prog 11 := ⟨Tryd.f11, Tryd.func11, by kernel_rfl, by kernel_rfl⟩
theorem isfn12 : IsFn Tryd.prog 12 := ⟨Tryd.f12, Tryd.func12, by kernel_rfl, by kernel_rfl⟩
theorem isfn13 : IsFn Tryd.prog 13 := ⟨Tryd.f13, Tryd.func13, by kernel_rfl, by kernel_rfl⟩
theorem isfn14 : IsFn Tryd.prog 14 := ⟨Tryd.f14, Tryd.func14, by kernel_rfl, by kernel_rfl⟩
theorem isfn15 : IsFn Tryd.prog 15 := ⟨Tryd.f15, Tryd.func15, by kernel_rfl, by kernel_rfl⟩
theorem isfn16 : IsFn Tryd.prog 16 := ⟨Tryd.f16, Tryd.func16, by kernel_rfl, by kernel_rfl⟩
theorem isfn17 : IsFn Tryd.prog 17 := ⟨Tryd.f17, Tryd.func17, by kernel_rfl, by kernel_rfl⟩
theorem isfn18 : IsFn Tryd.prog 18 := ⟨Tryd.f18, Tryd.func18, by kernel_rfl, by kernel_rfl⟩
theorem isfn19 : IsFn Tryd.prog 19 := ⟨Tryd.f19, Tryd.func19, by kernel_rfl, by kernel_rfl⟩
theorem isfn20 : IsFn Tryd.prog 20 := ⟨Tryd.f20, Tryd.func20, by kernel_rfl, by kernel_rfl⟩
theorem isfn21 : IsFn Tryd.prog 21 := ⟨Tryd.f21, Tryd.func21, by kernel_rfl, by kernel_rfl⟩
theorem isfn22 : IsFn Tryd.prog 22 := ⟨Tryd.f22, Tryd.func22, by kernel_rfl, by kernel_rfl⟩
theorem isfn23 : IsFn Tryd.prog 23 := ⟨Tryd.f23, Tryd.func23, by kernel_rfl, by kernel_rfl⟩
theorem isfn24 : IsFn Tryd.prog 24 := ⟨Tryd.f24, Tryd.func24, by kernel_rfl, by kernel_rfl⟩
theorem isfn25 : IsFn Tryd.prog 25 := ⟨Tryd.f25, Tryd.func25, by kernel_rfl, by kernel_rfl⟩
theorem isfn26 : IsFn Tryd.prog 26 := ⟨Tryd.f26, Tryd.func26, by kernel_rfl, by kernel_rfl⟩
theorem isfn27 : IsFn Tryd.prog 27 := ⟨Tryd.f27, Tryd.func27, by kernel_rfl, by kernel_rfl⟩
theorem isfn28 : IsFn Tryd.prog 28 := ⟨Tryd.f28, Tryd.func28, by kernel_rfl, by kernel_rfl⟩
theorem isfn29 : IsFn Tryd.prog 29 := ⟨Tryd.f29, Tryd.func29, by kernel_rfl, by kernel_rfl⟩
theorem isfn30 : IsFn Tryd.prog 30 := ⟨Tryd.f30, Tryd.func30, by kernel_rfl, by kernel_rfl⟩
theorem isfn31 : IsFn Tryd.prog 31 := ⟨Tryd.f31, Tryd.func31, by kernel_rfl, by kernel_rfl⟩
theorem isfn32 : IsFn Tryd.prog 32 := ⟨Tryd.f32, Tryd.func32, by kernel_rfl, by kernel_rfl⟩
theorem isfn33 : IsFn Tryd.prog 33 := ⟨Tryd.f33, Tryd.func33, by kernel_rfl, by kernel_rfl⟩
theorem isfn34 : IsFn Tryd.prog 34 := ⟨Tryd.f34, Tryd.func34, by kernel_rfl, by kernel_rfl⟩
theorem isfn35 : IsFn Tryd.prog 35 := ⟨Tryd.f35, Tryd.func35, by kernel_rfl, by kernel_rfl⟩
theorem isfn36 : IsFn Tryd.prog 36 := ⟨Tryd.f36, Tryd.func36, by kernel_rfl, by kernel_rfl⟩
theorem isfn37 : IsFn Tryd.prog 37 := ⟨Tryd.f37, Tryd.func37, by kernel_rfl, by kernel_rfl⟩
theorem isfn38 : IsFn Tryd.prog 38 := ⟨Tryd.f38, Tryd.func38, by kernel_rfl, by kernel_rfl⟩
theorem isfn39 : IsFn Tryd.prog 39 := ⟨Tryd.f39, Tryd.func39, by kernel_rfl, by kernel_rfl⟩
theorem isfn41 : IsFn Tryd.prog 41 := ⟨Tryd.f41, Tryd.func41, by kernel_rfl, by kernel_rfl⟩
theorem isfn46 : IsFn Tryd.prog 46 := ⟨Tryd.f46, Tryd.func46, by kernel_rfl, by kernel_rfl⟩
theorem isfn5 : IsFn Tryd.prog 5 := ⟨Tryd.f5, Tryd.func5, by kernel_rfl, by kernel_rfl⟩
theorem isfn6 : IsFn Tryd.prog 6 := ⟨Tryd.f6, Tryd.func6, by kernel_rfl, by kernel_rfl⟩
theorem isfn7 : IsFn Tryd.prog 7 := ⟨Tryd.f7, Tryd.func7, by kernel_rfl, by kernel_rfl⟩
theorem isfn8 : IsFn Tryd.prog 8 := ⟨Tryd.f8, Tryd.func8, by kernel_rfl, by kernel_rfl⟩
theorem isfn9 : IsFn Tryd.prog 9 := ⟨Tryd.f9, Tryd.func9, by kernel_rfl, by kernel_rfl⟩
theorem mixed : Tryd.prog.follows .mixedOrders = true := by kernel_rfl
theorem one22 : tOne Tryd.prog 22 = true := by kernel_rfl
theorem one23 : tOne Tryd.prog 23 = true := by kernel_rfl
theorem one3 : tOne Tryd.prog 3 = true := by kernel_rfl
theorem one34 : tOne Tryd.prog 34 = true := by kernel_rfl
theorem one38 : tOne Tryd.prog 38 = true := by kernel_rfl
theorem one4 : tOne Tryd.prog 4 = true := by kernel_rfl
theorem one5 : tOne Tryd.prog 5 = true := by kernel_rfl
theorem one57 : tOne Tryd.prog 57 = true := by kernel_rfl
theorem one63 : tOne Tryd.prog 63 = true := by kernel_rfl
theorem pte60 : Tryd.prog.underlying 60 = some (.pointer (Tryd.prog.pointee 60)) := by kernel_rfl
theorem sz22 : tSize Tryd.prog 22 = some 1 := by kernel_rfl
theorem sz23 : tSize Tryd.prog 23 = some 1 := by kernel_rfl
theorem sz25 : tSize Tryd.prog 25 = some 2 := by kernel_rfl
theorem sz3 : tSize Tryd.prog 3 = some 1 := by kernel_rfl
theorem sz34 : tSize Tryd.prog 34 = some 1 := by kernel_rfl
theorem sz38 : tSize Tryd.prog 38 = some 1 := by kernel_rfl
theorem sz4 : tSize Tryd.prog 4 = some 1 := by kernel_rfl
theorem sz46 : tSize Tryd.prog 46 = some 1 := by kernel_rfl
theorem sz5 : tSize Tryd.prog 5 = some 1 := by kernel_rfl
theorem sz57 : tSize Tryd.prog 57 = some 1 := by kernel_rfl
theorem sz63 : tSize Tryd.prog 63 = some 1 := by kernel_rfl
theorem us22 : (Tryd.prog.underlying 22).isSome = true := by rw [Tryd.underlying22]; rfl
theorem us25 : (Tryd.prog.underlying 25).isSome = true := by rw [Tryd.underlying25]; rfl
theorem us3 : (Tryd.prog.underlying 3).isSome = true := by rw [Tryd.underlying3]; rfl
theorem us34 : (Tryd.prog.underlying 34).isSome = true := by rw [Tryd.underlying34]; rfl
theorem us5 : (Tryd.prog.underlying 5).isSome = true := by rw [Tryd.underlying5]; rfl
theorem us63 : (Tryd.prog.underlying 63).isSome = true := by rw [Tryd.underlying63]; rfl
theorem zv22 : tZero Tryd.prog 22 = some (.int .u64 0) := by kernel_rfl
theorem zv25 : tZero Tryd.prog 25 = some (.agg #[.int .u64 0, .slice none 0 0]) := by kernel_rfl
theorem zv38 : tZero Tryd.prog 38 = some (.pointer none) := by kernel_rfl
theorem zv48 : tZero Tryd.prog 48 = some (.agg #[.slice none 0 0, .int .i64 0, .int .i8 0]) := by kernel_rfl
theorem zv5 : tZero Tryd.prog 5 = some (.int .u8 0) := by kernel_rfl
theorem bld25_0 {F : Fr} {w : World} {T : TypeId} {x0 : Operand} {z0 : Int} (h0 : ev F x0 = some (.int .u64 z0)) : Zv Tryd.prog w F (.build 25 #[(0, x0)]) T (.agg #[.int .u64 z0, .slice none 0 0]) w :=
  fun dst pos af gd ρ hρ => .inl (by
    have h := run_build (P := Tryd.prog) w 25 #[(0, .int .u64 z0)] #[.int .u64 z0, .slice none 0 0] (by kernel_rfl)
    simp [execOp, hρ _ _ h0, h])
theorem bld25_0_1 {F : Fr} {w : World} {T : TypeId} {x0 x1 : Operand} {z0 : Int} {A1 : Option Addr} {n1 c1 : Nat} (h0 : ev F x0 = some (.int .u64 z0)) (h1 : ev F x1 = some (.slice A1 n1 c1)) : Zv Tryd.prog w F (.build 25 #[(0, x0), (1, x1)]) T (.agg #[.int .u64 z0, .slice A1 n1 c1]) w :=
  fun dst pos af gd ρ hρ => .inl (by
    have h := run_build (P := Tryd.prog) w 25 #[(0, .int .u64 z0), (1, .slice A1 n1 c1)] #[.int .u64 z0, .slice A1 n1 c1] (by kernel_rfl)
    simp [execOp, hρ _ _ h0, hρ _ _ h1, h])
theorem bld48_0 {F : Fr} {w : World} {T : TypeId} {x0 : Operand} {A0 : Option Addr} {n0 c0 : Nat} (h0 : ev F x0 = some (.slice A0 n0 c0)) : Zv Tryd.prog w F (.build 48 #[(0, x0)]) T (.agg #[.slice A0 n0 c0, .int .i64 0, .int .i8 0]) w :=
  fun dst pos af gd ρ hρ => .inl (by
    have h := run_build (P := Tryd.prog) w 48 #[(0, .slice A0 n0 c0)] #[.slice A0 n0 c0, .int .i64 0, .int .i8 0] (by kernel_rfl)
    simp [execOp, hρ _ _ h0, h])
theorem bld59_0_1 {F : Fr} {w : World} {T : TypeId} {x0 x1 : Operand} {z0 : Int} {A1 : Option Addr} {n1 c1 : Nat} (h0 : ev F x0 = some (.int .u64 z0)) (h1 : ev F x1 = some (.slice A1 n1 c1)) : Zv Tryd.prog w F (.build 59 #[(0, x0), (1, x1)]) T (.agg #[.int .u64 z0, .slice A1 n1 c1]) w :=
  fun dst pos af gd ρ hρ => .inl (by
    have h := run_build (P := Tryd.prog) w 59 #[(0, .int .u64 z0), (1, .slice A1 n1 c1)] #[.int .u64 z0, .slice A1 n1 c1] (by kernel_rfl)
    simp [execOp, hρ _ _ h0, hρ _ _ h1, h])
theorem fa25_0 {F : Fr} {w : World} {T : TypeId} {x : Operand} {b o : Nat} (hx : ev F x = some (pt b o)) : Zv Tryd.prog w F (.fieldAddr 25 x 0) T (pt b (o + 0)) w := y_fieldAddr (i := 0) (n := 1) hx Tryd.underlying25 rfl sz22 rfl
theorem fa25_1 {F : Fr} {w : World} {T : TypeId} {x : Operand} {b o : Nat} (hx : ev F x = some (pt b o)) : Zv Tryd.prog w F (.fieldAddr 25 x 1) T (pt b (o + 1)) w := y_fieldAddr (i := 1) (n := 1) hx Tryd.underlying25 rfl sz23 rfl
theorem fa48_0 {F : Fr} {w : World} {T : TypeId} {x : Operand} {b o : Nat} (hx : ev F x = some (pt b o)) : Zv Tryd.prog w F (.fieldAddr 48 x 0) T (pt b (o + 0)) w := y_fieldAddr (i := 0) (n := 1) hx Tryd.underlying48 rfl sz34 rfl
theorem fa48_1 {F : Fr} {w : World} {T : TypeId} {x : Operand} {b o : Nat} (hx : ev F x = some (pt b o)) : Zv Tryd.prog w F (.fieldAddr 48 x 1) T (pt b (o + 1)) w := y_fieldAddr (i := 1) (n := 1) hx Tryd.underlying48 rfl sz3 rfl
theorem fa48_2 {F : Fr} {w : World} {T : TypeId} {x : Operand} {b o : Nat} (hx : ev F x = some (pt b o)) : Zv Tryd.prog w F (.fieldAddr 48 x 2) T (pt b (o + 2)) w := y_fieldAddr (i := 2) (n := 1) hx Tryd.underlying48 rfl sz46 rfl
theorem fa59_0 {F : Fr} {w : World} {T : TypeId} {x : Operand} {b o : Nat} (hx : ev F x = some (pt b o)) : Zv Tryd.prog w F (.fieldAddr 59 x 0) T (pt b (o + 0)) w := y_fieldAddr (i := 0) (n := 1) hx Tryd.underlying59 rfl sz22 rfl
theorem fa59_1 {F : Fr} {w : World} {T : TypeId} {x : Operand} {b o : Nat} (hx : ev F x = some (pt b o)) : Zv Tryd.prog w F (.fieldAddr 59 x 1) T (pt b (o + 1)) w := y_fieldAddr (i := 1) (n := 1) hx Tryd.underlying59 rfl sz57 rfl
theorem fld25_1 {F : Fr} {w : World} {T : TypeId} {x : Operand} {l : List Value} {v : Value} (hx : ev F x = some (.agg l.toArray)) (hv : l[1]? = some v) : Zv Tryd.prog w F (.field 25 x 1) T v w := y_field (i := 1) hx Tryd.underlying25 rfl one23 hv
theorem mk28 {ops : Array Oper} {Q : Exit → Act → World → Prop} {n : Nat} {D : List Deferred} {F : Fr} {rest : List Oper} {w : World} {T : TypeId} {pos : String} {af : Array Edge} {d : Nat} {x y : Operand} {k1 k2 : IntKind} {l c : Nat} (hx : ev F x = some (.int k1 (l : Int))) (hy : ev F y = some (.int k2 (c : Int))) (hlc : l ≤ c) (hc : c ≤ 4398046511104) (hd : Nat.blt d n = true)
    (k : ∀ b w1, w.heap.size = b → Blk w1 b 4 ((List.replicate c (false)).map vB) → Keep w w1 [] → w1.heap.size = b + 1 → wpL Tryd.prog ops Q n D ((d, vS b l c) :: F) rest w1) : wpL Tryd.prog ops Q n D F (⟨some d, .makeSlice 28 x y, T, pos, af, none⟩ :: rest) w := by
  obtain ⟨i0, hi, h0, h1, h2⟩ := info_parts inf4
  exact st_make hx hy Tryd.underlying28 hi h0 rfl h1 (by omega) hlc hc hd fun b w1 e1 e2 => k b w1 e1 (by rw [List.map_replicate]; exact e2)
theorem mk34 {ops : Array Oper} {Q : Exit → Act → World → Prop} {n : Nat} {D : List Deferred} {F : Fr} {rest : List Oper} {w : World} {T : TypeId} {pos : String} {af : Array Edge} {d : Nat} {x y : Operand} {k1 k2 : IntKind} {l c : Nat} (hx : ev F x = some (.int k1 (l : Int))) (hy : ev F y = some (.int k2 (c : Int))) (hlc : l ≤ c) (hc : c ≤ 4398046511104) (hd : Nat.blt d n = true)
    (k : ∀ b w1, w.heap.size = b → Blk w1 b 5 ((List.replicate c (0)).map v8) → Keep w w1 [] → w1.heap.size = b + 1 → wpL Tryd.prog ops Q n D ((d, vS b l c) :: F) rest w1) : wpL Tryd.prog ops Q n D F (⟨some d, .makeSlice 34 x y, T, pos, af, none⟩ :: rest) w := by
  obtain ⟨i0, hi, h0, h1, h2⟩ := info_parts inf5
  exact st_make hx hy Tryd.underlying34 hi h0 rfl h1 (by omega) hlc hc hd fun b w1 e1 e2 => k b w1 e1 (by rw [List.map_replicate]; exact e2)
theorem mk57 {ops : Array Oper} {Q : Exit → Act → World → Prop} {n : Nat} {D : List Deferred} {F : Fr} {rest : List Oper} {w : World} {T : TypeId} {pos : String} {af : Array Edge} {d : Nat} {x y : Operand} {k1 k2 : IntKind} {l c : Nat} (hx : ev F x = some (.int k1 (l : Int))) (hy : ev F y = some (.int k2 (c : Int))) (hlc : l ≤ c) (hc : c ≤ 4398046511104) (hd : Nat.blt d n = true)
    (k : ∀ b w1, w.heap.size = b → Blk w1 b 63 ((List.replicate c (0)).map vU) → Keep w w1 [] → w1.heap.size = b + 1 → wpL Tryd.prog ops Q n D ((d, vS b l c) :: F) rest w1) : wpL Tryd.prog ops Q n D F (⟨some d, .makeSlice 57 x y, T, pos, af, none⟩ :: rest) w := by
  obtain ⟨i0, hi, h0, h1, h2⟩ := info_parts inf63
  exact st_make hx hy Tryd.underlying57 hi h0 rfl h1 (by omega) hlc hc hd fun b w1 e1 e2 => k b w1 e1 (by rw [List.map_replicate]; exact e2)
end Go.Proofs.YtoheaoihiecgdaaDoor

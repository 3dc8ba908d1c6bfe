/- Facts on the program's types and functions, each by the kernel; laid by a program of the session's own. -/
import Derived.Test.YtlhbbndedbacpaaK5
import Derived.Test.YtlhbbndedbacpaaProg
import Derived.OwnWalk
set_option linter.unusedVariables false
set_option maxRecDepth 100000
namespace Go.Proofs.Ytlhbbndedbacpaa
open Go Go.RowKit
theorem agg25 : tOne Try.prog 25 = false := by kernel_rfl
theorem agg54 : tOne Try.prog 54 = false := by kernel_rfl
theorem inf22 : (Try.prog.info? 22).map (fun i => (i.zero, i.size, i.bytes)) = some (some (.int .u64 0), 1, 8) := by kernel_rfl
theorem inf34 : (Try.prog.info? 34).map (fun i => (i.zero, i.size, i.bytes)) = some (some (.int .u64 0), 1, 8) := by kernel_rfl
theorem inf4 : (Try.prog.info? 4).map (fun i => (i.zero, i.size, i.bytes)) = some (some (.bool false), 1, 1) := by kernel_rfl
theorem isfn12 : IsFn Try.prog 12 := ⟨Try.f12, Try.func12, by kernel_rfl, by kernel_rfl⟩
theorem isfn13 : IsFn Try.prog 13 := ⟨Try.f13, Try.func13, by kernel_rfl, by kernel_rfl⟩
theorem isfn14 : IsFn Try.prog 14 := ⟨Try.f14, Try.func14, by kernel_rfl, by kernel_rfl⟩
theorem isfn15 : IsFn Try.prog 15 := ⟨Try.f15, Try.func15, by kernel_rfl, by kernel_rfl⟩
theorem isfn16 : IsFn Try.prog 16 := ⟨Try.f16, Try.func16, by kernel_rfl, by kernel_rfl⟩
theorem isfn17 : IsFn Try.prog 17 := ⟨Try.f17, Try.func17, by kernel_rfl, by kernel_rfl⟩
theorem isfn18 : IsFn Try.prog 18 := ⟨Try.f18, Try.func18, by kernel_rfl, by kernel_rfl⟩
theorem isfn19 : IsFn Try.prog 19 := ⟨Try.f19, Try.func19, by kernel_rfl, by kernel_rfl⟩
theorem isfn20 : IsFn Try.prog 20 := ⟨Try.f20, Try.func20, by kernel_rfl, by kernel_rfl⟩
theorem isfn21 : IsFn Try.prog 21 := ⟨Try.f21, Try.func21, by kernel_rfl, by kernel_rfl⟩
theorem isfn22 : IsFn Try.prog 22 := ⟨Try.f22, Try.func22, by kernel_rfl, by kernel_rfl⟩
theorem isfn23 : IsFn Try.prog 23 := ⟨Try.f23, Try.func23, by kernel_rfl, by kernel_rfl⟩
theorem isfn24 : IsFn Try.prog 24 := ⟨Try.f24, Try.func24, by kernel_rfl, by kernel_rfl⟩
theorem isfn29 : IsFn Try.prog 29 := ⟨Try.f29, Try.func29, by kernel_rfl, by kernel_rfl⟩
theorem isfn30 : IsFn Try.prog 30 := ⟨Try.f30, Try.func30, by kernel_rfl, by kernel_rfl⟩
theorem isfn31 : IsFn Try.prog 31 := ⟨Try.f31, Try.func31, by kernel_rfl, by kernel_rfl⟩
theorem isfn32 : IsFn Try.prog 32 := ⟨Try.f32, Try.func32, by kernel_rfl, by kernel_rfl⟩
theorem isfn33 : IsFn Try.prog 33 := ⟨Try.f33, Try.func33, by kernel_rfl, by kernel_rfl⟩
theorem isfn34 : IsFn Try.prog 34 := ⟨Try.f34, Try.func34, by kernel_rfl, by kernel_rfl⟩
theorem isfn35 : IsFn Try.prog 35 := ⟨Try.f35, Try.func35, by kernel_rfl, by kernel_rfl⟩
theorem isfn36 : IsFn Try.prog 36 := ⟨Try.f36, Try.func36, by kernel_rfl, by kernel_rfl⟩
theorem isfn37 : IsFn Try.prog 37 := ⟨Try.f37, Try.func37, by kernel_rfl, by kernel_rfl⟩
theorem isfn38 : IsFn Try.prog 38 := ⟨Try.f38, Try.func38, by kernel_rfl, by kernel_rfl⟩
theorem isfn39 : IsFn Try.prog 39 := ⟨Try.f39, Try.func39, by kernel_rfl, by kernel_rfl⟩
theorem isfn40 : IsFn Try.prog 40 := ⟨Try.f40, Try.func40, by kernel_rfl, by kernel_rfl⟩
theorem isfn41 : IsFn Try.prog 41 := ⟨Try.f41, Try.func41, by kernel_rfl, by kernel_rfl⟩
theorem isfn42 : IsFn Try.prog 42 := ⟨Try.f42, Try.func42, by kernel_rfl, by kernel_rfl⟩
theorem isfn43 : IsFn Try.prog 43 := ⟨Try.f43, Try.func43, by kernel_rfl, by kernel_rfl⟩
theorem isfn44 : IsFn Try.prog 44 := ⟨Try.f44, Try.func44, by kernel_rfl, by kernel_rfl⟩
theorem isfn51 : IsFn Try.prog 51 := ⟨Try.f51, Try.func51, by kernel_rfl, by kernel_rfl⟩
theorem isfn52 : IsFn Try.prog 52 := ⟨Try.f52, Try.func52, by kernel_rfl, by kernel_rfl⟩
theorem isfn53 : IsFn Try.prog 53 := ⟨Try.f53, Try.func53, by kernel_rfl, by kernel_rfl⟩
theorem isfn54 : IsFn Try.prog 54 := ⟨Try.f54, Try.func54, by kernel_rfl, by kernel_rfl⟩
theorem isfn55 : IsFn Try.prog 55 := ⟨Try.f55, Try.func55, by kernel_rfl, by kernel_rfl⟩
theorem isfn56 : IsFn Try.prog 56 := ⟨Try.f56, Try.func56, by kernel_rfl, by kernel_rfl⟩
theorem isfn57 : IsFn Try.prog 57 := ⟨Try.f57, Try.func57, by kernel_rfl, by kernel_rfl⟩
theorem isfn58 : IsFn Try.prog 58 := ⟨Try.f58, Try.func58, by kernel_rfl, by kernel_rfl⟩
theorem isfn59 : IsFn Try.prog 59 := ⟨Try.f59, Try.func59, by kernel_rfl, by kernel_rfl⟩
theorem isfn60 : IsFn Try.prog 60 := ⟨Try.f60, Try.func60, by kernel_rfl, by kernel_rfl⟩
theorem isfn61 : IsFn Try.prog 61 := ⟨Try.f61, Try.func61, by kernel_rfl, by kernel_rfl⟩
theorem isfn62 : IsFn Try.prog 62 := ⟨Try.f62, Try.func62, by kernel_rfl, by kernel_rfl⟩
theorem isfn63 : IsFn Try.prog 63 := ⟨Try.f63, Try.func63, by kernel_rfl, by kernel_rfl⟩
theorem isfn64 : IsFn Try.prog 64 := ⟨Try.f64, Try.func64, by kernel_rfl, by kernel_rfl⟩
theorem isfn65 : IsFn Try.prog 65 := ⟨Try.f65, Try.func65, by kernel_rfl, by kernel_rfl⟩
theorem isfn66 : IsFn Try.prog 66 := ⟨Try.f66, Try.func66, by kernel_rfl, by kernel_rfl⟩
theorem isfn69 : IsFn Try.prog 69 := ⟨Try.f69, Try.func69, by kernel_rfl, by kernel_rfl⟩
theorem isfn70 : IsFn Try.prog 70 := ⟨Try.f70, Try.func70, by kernel_rfl, by kernel_rfl⟩
theorem isfn71 : IsFn Try.prog 71 := ⟨Try.f71, Try.func71, by kernel_rfl, by kernel_rfl⟩
theorem isfn72 : IsFn Try.prog 72 := ⟨Try.f72, Try.func72, by kernel_rfl, by kernel_rfl⟩
theorem isfn73 : IsFn Try.prog 73 := ⟨Try.f73, Try.func73, by kernel_rfl, by kernel_rfl⟩
theorem isfn74 : IsFn Try.prog 74 := ⟨Try.f74, Try.func74, by kernel_rfl, by kernel_rfl⟩
theorem isfn75 : IsFn Try.prog 75 := ⟨Try.f75, Try.func75, by kernel_rfl, by kernel_rfl⟩
theorem isfn76 : IsFn Try.prog 76 := ⟨Try.f76, Try.func76, by kernel_rfl, by kernel_rfl⟩
theorem isfn77 : IsFn Try.prog 77 := ⟨Try.f77, Try.func77, by kernel_rfl, by kernel_rfl⟩
theorem isfn78 : IsFn Try.prog 78 := ⟨Try.f78, Try.func78, by kernel_rfl, by kernel_rfl⟩
theorem isfn79 : IsFn Try.prog 79 := ⟨Try.f79, Try.func79, by kernel_rfl, by kernel_rfl⟩
theorem mixed : Try.prog.follows .mixedOrders = true := by kernel_rfl
theorem one22 : tOne Try.prog 22 = true := by kernel_rfl
theorem one23 : tOne Try.prog 23 = true := by kernel_rfl
theorem one34 : tOne Try.prog 34 = true := by kernel_rfl
theorem one4 : tOne Try.prog 4 = true := by kernel_rfl
theorem one61 : tOne Try.prog 61 = true := by kernel_rfl
theorem one69 : tOne Try.prog 69 = true := by kernel_rfl
theorem pte61 : Try.prog.underlying 61 = some (.pointer (Try.prog.pointee 61)) := by kernel_rfl
theorem sz22 : tSize Try.prog 22 = some 1 := by kernel_rfl
theorem sz23 : tSize Try.prog 23 = some 1 := by kernel_rfl
theorem sz25 : tSize Try.prog 25 = some 2 := by kernel_rfl
theorem sz34 : tSize Try.prog 34 = some 1 := by kernel_rfl
theorem sz4 : tSize Try.prog 4 = some 1 := by kernel_rfl
theorem sz54 : tSize Try.prog 54 = some 4 := by kernel_rfl
theorem sz61 : tSize Try.prog 61 = some 1 := by kernel_rfl
theorem sz69 : tSize Try.prog 69 = some 1 := by kernel_rfl
theorem us22 : (Try.prog.underlying 22).isSome = true := by rw [Try.underlying22]; rfl
theorem us25 : (Try.prog.underlying 25).isSome = true := by rw [Try.underlying25]; rfl
theorem us3 : (Try.prog.underlying 3).isSome = true := by rw [Try.underlying3]; rfl
theorem us34 : (Try.prog.underlying 34).isSome = true := by rw [Try.underlying34]; rfl
theorem us5 : (Try.prog.underlying 5).isSome = true := by rw [Try.underlying5]; rfl
theorem us54 : (Try.prog.underlying 54).isSome = true := by rw [Try.underlying54]; rfl
theorem zv22 : tZero Try.prog 22 = some (.int .u64 0) := by kernel_rfl
theorem zv25 : tZero Try.prog 25 = some (.agg #[.int .u64 0, .slice none 0 0]) := by kernel_rfl
theorem zv4 : tZero Try.prog 4 = some (.bool false) := by kernel_rfl
theorem zv54 : tZero Try.prog 54 = some (.agg #[.bool false, .bool false, .bool false, .bool false]) := by kernel_rfl
theorem zv61 : tZero Try.prog 61 = some (.pointer none) := by kernel_rfl
theorem bld25_0_1 {F : Fr} {w : World} {T : TypeId} {x0 x1 : Operand} {z0 : Int} {A1 : Option Addr} {n1 c1 : Nat} (h0 : ev F x0 = some (.int .u64 z0)) (h1 : ev F x1 = some (.slice A1 n1 c1)) : Zv Try.prog w F (.build 25 #[(0, x0), (1, x1)]) T (.agg #[.int .u64 z0, .slice A1 n1 c1]) w :=
  fun dst pos af gd ρ hρ => .inl (by
    have h := run_build (P := Try.prog) w 25 #[(0, .int .u64 z0), (1, .slice A1 n1 c1)] #[.int .u64 z0, .slice A1 n1 c1] (by kernel_rfl)
    simp [execOp, hρ _ _ h0, hρ _ _ h1, h])
theorem bld54_0_1_2_3 {F : Fr} {w : World} {T : TypeId} {x0 x1 x2 x3 : Operand} {z0 : Bool} {z1 : Bool} {z2 : Bool} {z3 : Bool} (h0 : ev F x0 = some (.bool z0)) (h1 : ev F x1 = some (.bool z1)) (h2 : ev F x2 = some (.bool z2)) (h3 : ev F x3 = some (.bool z3)) : Zv Try.prog w F (.build 54 #[(0, x0), (1, x1), (2, x2), (3, x3)]) T (.agg #[.bool z0, .bool z1, .bool z2, .bool z3]) w :=
  fun dst pos af gd ρ hρ => .inl (by
    have h := run_build (P := Try.prog) w 54 #[(0, .bool z0), (1, .bool z1), (2, .bool z2), (3, .bool z3)] #[.bool z0, .bool z1, .bool z2, .bool z3] (by kernel_rfl)
    simp [execOp, hρ _ _ h0, hρ _ _ h1, hρ _ _ h2, hρ _ _ h3, h])
theorem bld93_0_1 {F : Fr} {w : World} {T : TypeId} {x0 x1 : Operand} {z0 : Int} {A1 : Option Addr} {n1 c1 : Nat} (h0 : ev F x0 = some (.int .u64 z0)) (h1 : ev F x1 = some (.slice A1 n1 c1)) : Zv Try.prog w F (.build 93 #[(0, x0), (1, x1)]) T (.agg #[.int .u64 z0, .slice A1 n1 c1]) w :=
  fun dst pos af gd ρ hρ => .inl (by
    have h := run_build (P := Try.prog) w 93 #[(0, .int .u64 z0), (1, .slice A1 n1 c1)] #[.int .u64 z0, .slice A1 n1 c1] (by kernel_rfl)
    simp [execOp, hρ _ _ h0, hρ _ _ h1, h])
theorem fa25_0 {F : Fr} {w : World} {T : TypeId} {x : Operand} {b o : Nat} (hx : ev F x = some (pt b o)) : Zv Try.prog w F (.fieldAddr 25 x 0) T (pt b (o + 0)) w := y_fieldAddr (i := 0) (n := 1) hx Try.underlying25 rfl sz22 rfl
theorem fa25_1 {F : Fr} {w : World} {T : TypeId} {x : Operand} {b o : Nat} (hx : ev F x = some (pt b o)) : Zv Try.prog w F (.fieldAddr 25 x 1) T (pt b (o + 1)) w := y_fieldAddr (i := 1) (n := 1) hx Try.underlying25 rfl sz23 rfl
theorem fa93_0 {F : Fr} {w : World} {T : TypeId} {x : Operand} {b o : Nat} (hx : ev F x = some (pt b o)) : Zv Try.prog w F (.fieldAddr 93 x 0) T (pt b (o + 0)) w := y_fieldAddr (i := 0) (n := 1) hx Try.underlying93 rfl sz22 rfl
theorem fa93_1 {F : Fr} {w : World} {T : TypeId} {x : Operand} {b o : Nat} (hx : ev F x = some (pt b o)) : Zv Try.prog w F (.fieldAddr 93 x 1) T (pt b (o + 1)) w := y_fieldAddr (i := 1) (n := 1) hx Try.underlying93 rfl sz69 rfl
theorem mk28 {ops : Array Oper} {Q : Exit → Act → World → Prop} {n : Nat} {D : List Deferred} {F : Fr} {rest : List Oper} {w : World} {T : TypeId} {pos : String} {af : Array Edge} {d : Nat} {x y : Operand} {k1 k2 : IntKind} {l c : Nat} (hx : ev F x = some (.int k1 (l : Int))) (hy : ev F y = some (.int k2 (c : Int))) (hlc : l ≤ c) (hc : c ≤ 4398046511104) (hd : Nat.blt d n = true)
    (k : ∀ b w1, w.heap.size = b → Blk w1 b 4 ((List.replicate c (false)).map vB) → Keep w w1 [] → w1.heap.size = b + 1 → wpL Try.prog ops Q n D ((d, vS b l c) :: F) rest w1) : wpL Try.prog ops Q n D F (⟨some d, .makeSlice 28 x y, T, pos, af, none⟩ :: rest) w := by
  obtain ⟨i0, hi, h0, h1, h2⟩ := info_parts inf4
  exact st_make hx hy Try.underlying28 hi h0 rfl h1 (by omega) hlc hc hd fun b w1 e1 e2 => k b w1 e1 (by rw [List.map_replicate]; exact e2)
theorem mk69 {ops : Array Oper} {Q : Exit → Act → World → Prop} {n : Nat} {D : List Deferred} {F : Fr} {rest : List Oper} {w : World} {T : TypeId} {pos : String} {af : Array Edge} {d : Nat} {x y : Operand} {k1 k2 : IntKind} {l c : Nat} (hx : ev F x = some (.int k1 (l : Int))) (hy : ev F y = some (.int k2 (c : Int))) (hlc : l ≤ c) (hc : c ≤ 4398046511104) (hd : Nat.blt d n = true)
    (k : ∀ b w1, w.heap.size = b → Blk w1 b 34 ((List.replicate c (0)).map vU) → Keep w w1 [] → w1.heap.size = b + 1 → wpL Try.prog ops Q n D ((d, vS b l c) :: F) rest w1) : wpL Try.prog ops Q n D F (⟨some d, .makeSlice 69 x y, T, pos, af, none⟩ :: rest) w := by
  obtain ⟨i0, hi, h0, h1, h2⟩ := info_parts inf34
  exact st_make hx hy Try.underlying69 hi h0 rfl h1 (by omega) hlc hc hd fun b w1 e1 e2 => k b w1 e1 (by rw [List.map_replicate]; exact e2)
end Go.Proofs.Ytlhbbndedbacpaa

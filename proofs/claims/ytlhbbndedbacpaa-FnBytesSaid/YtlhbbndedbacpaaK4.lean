/- Facts on the program's types and functions, each by the kernel; laid by a program of the session's own. -/
import Derived.Test.YtlhbbndedbacpaaK5
import Derived.Test.YtlhbbndedbacpaaProg
import Derived.OwnWalk
set_option linter.unusedVariables false
set_option maxRecDepth 100000
namespace Go.Proofs.Ytlhbbndedbacpaa
open Go Go.RowKit
theorem agg102 : tOne Try.prog 102 = false := by kernel_rfl
theorem agg25 : tOne Try.prog 25 = false := by kernel_rfl
theorem inf34 : (Try.prog.info? 34).map (fun i => (i.zero, i.size, i.bytes)) = some (some (.int .u64 0), 1, 8) := by kernel_rfl
theorem inf4 : (Try.prog.info? 4).map (fun i => (i.zero, i.size, i.bytes)) = some (some (.bool false), 1, 1) := by kernel_rfl
theorem inf5 : (Try.prog.info? 5).map (fun i => (i.zero, i.size, i.bytes)) = some (some (.int .u8 0), 1, 1) := by kernel_rfl
theorem isfn100 : IsFn Try.prog 100 := ⟨Try.f100, Try.func100, by kernel_rfl, by kernel_rfl⟩
theorem isfn101 : IsFn Try.prog 101 := ⟨Try.f101, Try.func101, by kernel_rfl, by kernel_rfl⟩
theorem isfn102 : IsFn Try.prog 102 := ⟨Try.f102, Try.func102, by kernel_rfl, by kernel_rfl⟩
theorem isfn103 : IsFn Try.prog 103 := ⟨Try.f103, Try.func103, by kernel_rfl, by kernel_rfl⟩
theorem isfn104 : IsFn Try.prog 104 := ⟨Try.f104, Try.func104, by kernel_rfl, by kernel_rfl⟩
theorem isfn12 : IsFn Try.prog 12 := ⟨Try.f12, Try.func12, by kernel_rfl, by kernel_rfl⟩
theorem isfn13 : IsFn Try.prog 13 := ⟨Try.f13, Try.func13, by kernel_rfl, by kernel_rfl⟩
theorem isfn25 : IsFn Try.prog 25 := ⟨Try.f25, Try.func25, by kernel_rfl, by kernel_rfl⟩
theorem isfn26 : IsFn Try.prog 26 := ⟨Try.f26, Try.func26, by kernel_rfl, by kernel_rfl⟩
theorem isfn27 : IsFn Try.prog 27 := ⟨Try.f27, Try.func27, by kernel_rfl, by kernel_rfl⟩
theorem isfn28 : IsFn Try.prog 28 := ⟨Try.f28, Try.func28, by kernel_rfl, by kernel_rfl⟩
theorem isfn35 : IsFn Try.prog 35 := ⟨Try.f35, Try.func35, by kernel_rfl, by kernel_rfl⟩
theorem isfn36 : IsFn Try.prog 36 := ⟨Try.f36, Try.func36, by kernel_rfl, by kernel_rfl⟩
theorem isfn44 : IsFn Try.prog 44 := ⟨Try.f44, Try.func44, by kernel_rfl, by kernel_rfl⟩
theorem isfn45 : IsFn Try.prog 45 := ⟨Try.f45, Try.func45, by kernel_rfl, by kernel_rfl⟩
theorem isfn46 : IsFn Try.prog 46 := ⟨Try.f46, Try.func46, by kernel_rfl, by kernel_rfl⟩
theorem isfn47 : IsFn Try.prog 47 := ⟨Try.f47, Try.func47, by kernel_rfl, by kernel_rfl⟩
theorem isfn48 : IsFn Try.prog 48 := ⟨Try.f48, Try.func48, by kernel_rfl, by kernel_rfl⟩
theorem isfn49 : IsFn Try.prog 49 := ⟨Try.f49, Try.func49, by kernel_rfl, by kernel_rfl⟩
theorem isfn50 : IsFn Try.prog 50 := ⟨Try.f50, Try.func50, by kernel_rfl, by kernel_rfl⟩
theorem isfn54 : IsFn Try.prog 54 := ⟨Try.f54, Try.func54, by kernel_rfl, by kernel_rfl⟩
theorem isfn60 : IsFn Try.prog 60 := ⟨Try.f60, Try.func60, by kernel_rfl, by kernel_rfl⟩
theorem isfn61 : IsFn Try.prog 61 := ⟨Try.f61, Try.func61, by kernel_rfl, by kernel_rfl⟩
theorem isfn62 : IsFn Try.prog 62 := ⟨Try.f62, Try.func62, by kernel_rfl, by kernel_rfl⟩
theorem isfn63 : IsFn Try.prog 63 := ⟨Try.f63, Try.func63, by kernel_rfl, by kernel_rfl⟩
theorem isfn65 : IsFn Try.prog 65 := ⟨Try.f65, Try.func65, by kernel_rfl, by kernel_rfl⟩
theorem isfn66 : IsFn Try.prog 66 := ⟨Try.f66, Try.func66, by kernel_rfl, by kernel_rfl⟩
theorem isfn67 : IsFn Try.prog 67 := ⟨Try.f67, Try.func67, by kernel_rfl, by kernel_rfl⟩
theorem isfn68 : IsFn Try.prog 68 := ⟨Try.f68, Try.func68, by kernel_rfl, by kernel_rfl⟩
theorem isfn69 : IsFn Try.prog 69 := ⟨Try.f69, Try.func69, by kernel_rfl, by kernel_rfl⟩
theorem isfn70 : IsFn Try.prog 70 := ⟨Try.f70, Try.func70, by kernel_rfl, by kernel_rfl⟩
theorem isfn71 : IsFn Try.prog 71 := ⟨Try.f71, Try.func71, by kernel_rfl, by kernel_rfl⟩
theorem isfn72 : IsFn Try.prog 72 := ⟨Try.f72, Try.func72, by kernel_rfl, by kernel_rfl⟩
theorem isfn73 : IsFn Try.prog 73 := ⟨Try.f73, Try.func73, by kernel_rfl, by kernel_rfl⟩
theorem isfn74 : IsFn Try.prog 74 := ⟨Try.f74, Try.func74, by kernel_rfl, by kernel_rfl⟩
theorem isfn75 : IsFn Try.prog 75 := ⟨Try.f75, Try.func75, by kernel_rfl, by kernel_rfl⟩
theorem isfn76 : IsFn Try.prog 76 := ⟨Try.f76, Try.func76, by kernel_rfl, by kernel_rfl⟩
theorem isfn77 : IsFn Try.prog 77 := ⟨Try.f77, Try.func77, by kernel_rfl, by kernel_rfl⟩
theorem isfn78 : IsFn Try.prog 78 := ⟨Try.f78, Try.func78, by kernel_rfl, by kernel_rfl⟩
theorem isfn79 : IsFn Try.prog 79 := ⟨Try.f79, Try.func79, by kernel_rfl, by kernel_rfl⟩
theorem mixed : Try.prog.follows .mixedOrders = true := by kernel_rfl
theorem one22 : tOne Try.prog 22 = true := by kernel_rfl
theorem one23 : tOne Try.prog 23 = true := by kernel_rfl
theorem one3 : tOne Try.prog 3 = true := by kernel_rfl
theorem one34 : tOne Try.prog 34 = true := by kernel_rfl
theorem one4 : tOne Try.prog 4 = true := by kernel_rfl
theorem one42 : tOne Try.prog 42 = true := by kernel_rfl
theorem one5 : tOne Try.prog 5 = true := by kernel_rfl
theorem one61 : tOne Try.prog 61 = true := by kernel_rfl
theorem one69 : tOne Try.prog 69 = true := by kernel_rfl
theorem pte61 : Try.prog.underlying 61 = some (.pointer (Try.prog.pointee 61)) := by kernel_rfl
theorem sz102 : tSize Try.prog 102 = some 0 := by kernel_rfl
theorem sz22 : tSize Try.prog 22 = some 1 := by kernel_rfl
theorem sz23 : tSize Try.prog 23 = some 1 := by kernel_rfl
theorem sz25 : tSize Try.prog 25 = some 2 := by kernel_rfl
theorem sz3 : tSize Try.prog 3 = some 1 := by kernel_rfl
theorem sz34 : tSize Try.prog 34 = some 1 := by kernel_rfl
theorem sz4 : tSize Try.prog 4 = some 1 := by kernel_rfl
theorem sz42 : tSize Try.prog 42 = some 1 := by kernel_rfl
theorem sz5 : tSize Try.prog 5 = some 1 := by kernel_rfl
theorem sz61 : tSize Try.prog 61 = some 1 := by kernel_rfl
theorem sz69 : tSize Try.prog 69 = some 1 := by kernel_rfl
theorem sz77 : tSize Try.prog 77 = some 1 := by kernel_rfl
theorem us102 : (Try.prog.underlying 102).isSome = true := by rw [Try.underlying102]; rfl
theorem us22 : (Try.prog.underlying 22).isSome = true := by rw [Try.underlying22]; rfl
theorem us25 : (Try.prog.underlying 25).isSome = true := by rw [Try.underlying25]; rfl
theorem us3 : (Try.prog.underlying 3).isSome = true := by rw [Try.underlying3]; rfl
theorem us34 : (Try.prog.underlying 34).isSome = true := by rw [Try.underlying34]; rfl
theorem zv100 : tZero Try.prog 100 = some (.agg #[.int .u8 0, .int .u8 0, .int .u8 0, .int .u8 0, .int .u8 0, .int .u8 0, .int .u8 0, .int .u8 0]) := by kernel_rfl
theorem zv22 : tZero Try.prog 22 = some (.int .u64 0) := by kernel_rfl
theorem zv25 : tZero Try.prog 25 = some (.agg #[.int .u64 0, .slice none 0 0]) := by kernel_rfl
theorem zv34 : tZero Try.prog 34 = some (.int .u64 0) := by kernel_rfl
theorem zv5 : tZero Try.prog 5 = some (.int .u8 0) := by kernel_rfl
theorem zv61 : tZero Try.prog 61 = some (.pointer none) := by kernel_rfl
theorem zv79 : tZero Try.prog 79 = some (.agg #[.slice none 0 0, .int .i64 0, .int .i8 0]) := by kernel_rfl
theorem bld25_0_1 {F : Fr} {w : World} {T : TypeId} {x0 x1 : Operand} {z0 : Int} {A1 : Option Addr} {n1 c1 : Nat} (h0 : ev F x0 = some (.int .u64 z0)) (h1 : ev F x1 = some (.slice A1 n1 c1)) : Zv Try.prog w F (.build 25 #[(0, x0), (1, x1)]) T (.agg #[.int .u64 z0, .slice A1 n1 c1]) w :=
  fun dst pos af gd ρ hρ => .inl (by
    have h := run_build (P := Try.prog) w 25 #[(0, .int .u64 z0), (1, .slice A1 n1 c1)] #[.int .u64 z0, .slice A1 n1 c1] (by kernel_rfl)
    simp [execOp, hρ _ _ h0, hρ _ _ h1, h])
theorem bld93_0_1 {F : Fr} {w : World} {T : TypeId} {x0 x1 : Operand} {z0 : Int} {A1 : Option Addr} {n1 c1 : Nat} (h0 : ev F x0 = some (.int .u64 z0)) (h1 : ev F x1 = some (.slice A1 n1 c1)) : Zv Try.prog w F (.build 93 #[(0, x0), (1, x1)]) T (.agg #[.int .u64 z0, .slice A1 n1 c1]) w :=
  fun dst pos af gd ρ hρ => .inl (by
    have h := run_build (P := Try.prog) w 93 #[(0, .int .u64 z0), (1, .slice A1 n1 c1)] #[.int .u64 z0, .slice A1 n1 c1] (by kernel_rfl)
    simp [execOp, hρ _ _ h0, hρ _ _ h1, h])
theorem fa25_0 {F : Fr} {w : World} {T : TypeId} {x : Operand} {b o : Nat} (hx : ev F x = some (pt b o)) : Zv Try.prog w F (.fieldAddr 25 x 0) T (pt b (o + 0)) w := y_fieldAddr (i := 0) (n := 1) hx Try.underlying25 rfl sz22 rfl
theorem fa25_1 {F : Fr} {w : World} {T : TypeId} {x : Operand} {b o : Nat} (hx : ev F x = some (pt b o)) : Zv Try.prog w F (.fieldAddr 25 x 1) T (pt b (o + 1)) w := y_fieldAddr (i := 1) (n := 1) hx Try.underlying25 rfl sz23 rfl
theorem fa79_0 {F : Fr} {w : World} {T : TypeId} {x : Operand} {b o : Nat} (hx : ev F x = some (pt b o)) : Zv Try.prog w F (.fieldAddr 79 x 0) T (pt b (o + 0)) w := y_fieldAddr (i := 0) (n := 1) hx Try.underlying79 rfl sz42 rfl
theorem fa79_1 {F : Fr} {w : World} {T : TypeId} {x : Operand} {b o : Nat} (hx : ev F x = some (pt b o)) : Zv Try.prog w F (.fieldAddr 79 x 1) T (pt b (o + 1)) w := y_fieldAddr (i := 1) (n := 1) hx Try.underlying79 rfl sz3 rfl
theorem fa79_2 {F : Fr} {w : World} {T : TypeId} {x : Operand} {b o : Nat} (hx : ev F x = some (pt b o)) : Zv Try.prog w F (.fieldAddr 79 x 2) T (pt b (o + 2)) w := y_fieldAddr (i := 2) (n := 1) hx Try.underlying79 rfl sz77 rfl
theorem fa93_0 {F : Fr} {w : World} {T : TypeId} {x : Operand} {b o : Nat} (hx : ev F x = some (pt b o)) : Zv Try.prog w F (.fieldAddr 93 x 0) T (pt b (o + 0)) w := y_fieldAddr (i := 0) (n := 1) hx Try.underlying93 rfl sz22 rfl
theorem fa93_1 {F : Fr} {w : World} {T : TypeId} {x : Operand} {b o : Nat} (hx : ev F x = some (pt b o)) : Zv Try.prog w F (.fieldAddr 93 x 1) T (pt b (o + 1)) w := y_fieldAddr (i := 1) (n := 1) hx Try.underlying93 rfl sz69 rfl
theorem mk28 {ops : Array Oper} {Q : Exit → Act → World → Prop} {n : Nat} {D : List Deferred} {F : Fr} {rest : List Oper} {w : World} {T : TypeId} {pos : String} {af : Array Edge} {d : Nat} {x y : Operand} {k1 k2 : IntKind} {l c : Nat} (hx : ev F x = some (.int k1 (l : Int))) (hy : ev F y = some (.int k2 (c : Int))) (hlc : l ≤ c) (hc : c ≤ 4398046511104) (hd : Nat.blt d n = true)
    (k : ∀ b w1, w.heap.size = b → Blk w1 b 4 ((List.replicate c (false)).map vB) → Keep w w1 [] → w1.heap.size = b + 1 → wpL Try.prog ops Q n D ((d, vS b l c) :: F) rest w1) : wpL Try.prog ops Q n D F (⟨some d, .makeSlice 28 x y, T, pos, af, none⟩ :: rest) w := by
  obtain ⟨i0, hi, h0, h1, h2⟩ := info_parts inf4
  exact st_make hx hy Try.underlying28 hi h0 rfl h1 (by omega) hlc hc hd fun b w1 e1 e2 => k b w1 e1 (by rw [List.map_replicate]; exact e2)
theorem mk42 {ops : Array Oper} {Q : Exit → Act → World → Prop} {n : Nat} {D : List Deferred} {F : Fr} {rest : List Oper} {w : World} {T : TypeId} {pos : String} {af : Array Edge} {d : Nat} {x y : Operand} {k1 k2 : IntKind} {l c : Nat} (hx : ev F x = some (.int k1 (l : Int))) (hy : ev F y = some (.int k2 (c : Int))) (hlc : l ≤ c) (hc : c ≤ 4398046511104) (hd : Nat.blt d n = true)
    (k : ∀ b w1, w.heap.size = b → Blk w1 b 5 ((List.replicate c (0)).map v8) → Keep w w1 [] → w1.heap.size = b + 1 → wpL Try.prog ops Q n D ((d, vS b l c) :: F) rest w1) : wpL Try.prog ops Q n D F (⟨some d, .makeSlice 42 x y, T, pos, af, none⟩ :: rest) w := by
  obtain ⟨i0, hi, h0, h1, h2⟩ := info_parts inf5
  exact st_make hx hy Try.underlying42 hi h0 rfl h1 (by omega) hlc hc hd fun b w1 e1 e2 => k b w1 e1 (by rw [List.map_replicate]; exact e2)
theorem mk69 {ops : Array Oper} {Q : Exit → Act → World → Prop} {n : Nat} {D : List Deferred} {F : Fr} {rest : List Oper} {w : World} {T : TypeId} {pos : String} {af : Array Edge} {d : Nat} {x y : Operand} {k1 k2 : IntKind} {l c : Nat} (hx : ev F x = some (.int k1 (l : Int))) (hy : ev F y = some (.int k2 (c : Int))) (hlc : l ≤ c) (hc : c ≤ 4398046511104) (hd : Nat.blt d n = true)
    (k : ∀ b w1, w.heap.size = b → Blk w1 b 34 ((List.replicate c (0)).map vU) → Keep w w1 [] → w1.heap.size = b + 1 → wpL Try.prog ops Q n D ((d, vS b l c) :: F) rest w1) : wpL Try.prog ops Q n D F (⟨some d, .makeSlice 69 x y, T, pos, af, none⟩ :: rest) w := by
  obtain ⟨i0, hi, h0, h1, h2⟩ := info_parts inf34
  exact st_make hx hy Try.underlying69 hi h0 rfl h1 (by omega) hlc hc hd fun b w1 e1 e2 => k b w1 e1 (by rw [List.map_replicate]; exact e2)
end Go.Proofs.Ytlhbbndedbacpaa

/- strconv.FormatInt at base 10: the kit's contract, laid at this seat's program in plain words (the numbers by the kit's own laying word). -/
import Derived.Shelf.Strconv.Itoa3
import Derived.Test.YtoheaoihiecgdaaDoorK17
import Derived.Test.YtoheaoihiecgdaaDoorChecked
set_option linter.unusedVariables false
set_option linter.unusedSimpArgs false
namespace Go.Proofs.YtoheaoihiecgdaaDoor
open Go Go.RowKit

def lays246_ren : Go.Shelf.Ren := ⟨fun | 246 => 36 | 283 => 42 | 284 => 43 | 285 => 44 | 286 => 45 | 129 => 48 | 317 => 47 | 318 => 49 | 319 => 50 | 320 => 51 | 337 => 52 | 338 => 35 | n => n, fun | 2 => 2 | 3 => 3 | 9 => 9 | 4 => 4 | 171 => 77 | 0 => 0 | 53 => 63 | 37 => 34 | 5 => 5 | 173 => 79 | 212 => 82 | 51 => 83 | 20 => 20 | 213 => 84 | 46 => 22 | 232 => 87 | 233 => 75 | n => n, fun | 17 => 2 | 18 => 3 | 19 => 1 | n => n⟩
theorem lays246 : Go.Proofs.LaysM.n246 Tryd.prog lays246_ren := {
  mixed := by kernel_rfl,
  f129 := Tryd.func48.trans (congrArg some (by kernel_rfl)),
  f246 := Tryd.func36.trans (congrArg some (by kernel_rfl)),
  f283 := Tryd.func42.trans (congrArg some (by kernel_rfl)),
  f284 := Tryd.func43.trans (congrArg some (by kernel_rfl)),
  f285 := Tryd.func44.trans (congrArg some (by kernel_rfl)),
  f286 := Tryd.func45.trans (congrArg some (by kernel_rfl)),
  f317 := Tryd.func47.trans (congrArg some (by kernel_rfl)),
  f318 := Tryd.func49.trans (congrArg some (by kernel_rfl)),
  f319 := Tryd.func50.trans (congrArg some (by kernel_rfl)),
  f320 := Tryd.func51.trans (congrArg some (by kernel_rfl)),
  f337 := Tryd.func52.trans (congrArg some (by kernel_rfl)),
  f338 := Tryd.func35.trans (congrArg some (by kernel_rfl)),
  t0 := Tryd.underlying0,
  a0 := Tryd.isAgg0,
  z0 := Tryd.sizeOf0,
  v0 := Tryd.zeroValue0,
  t2 := Tryd.underlying2,
  a2 := Tryd.isAgg2,
  z2 := Tryd.sizeOf2,
  v2 := Tryd.zeroValue2,
  t3 := Tryd.underlying3,
  a3 := Tryd.isAgg3,
  z3 := Tryd.sizeOf3,
  v3 := Tryd.zeroValue3,
  t4 := Tryd.underlying4,
  a4 := Tryd.isAgg4,
  z4 := Tryd.sizeOf4,
  v4 := Tryd.zeroValue4,
  t5 := Tryd.underlying5,
  a5 := Tryd.isAgg5,
  z5 := Tryd.sizeOf5,
  v5 := Tryd.zeroValue5,
  t9 := Tryd.underlying9,
  a9 := Tryd.isAgg9,
  z9 := Tryd.sizeOf9,
  v9 := Tryd.zeroValue9,
  t20 := Tryd.underlying20,
  a20 := Tryd.isAgg20,
  z20 := Tryd.sizeOf20,
  v20 := Tryd.zeroValue20,
  t37 := Tryd.underlying34,
  a37 := Tryd.isAgg34,
  z37 := Tryd.sizeOf34,
  v37 := Tryd.zeroValue34,
  t46 := Tryd.underlying22,
  a46 := Tryd.isAgg22,
  z46 := Tryd.sizeOf22,
  v46 := Tryd.zeroValue22,
  t51 := Tryd.underlying83,
  a51 := Tryd.isAgg83,
  z51 := Tryd.sizeOf83,
  v51 := Tryd.zeroValue83,
  t53 := Tryd.underlying63,
  a53 := Tryd.isAgg63,
  z53 := Tryd.sizeOf63,
  v53 := Tryd.zeroValue63,
  t171 := Tryd.underlying77,
  a171 := Tryd.isAgg77,
  z171 := Tryd.sizeOf77,
  v171 := Tryd.zeroValue77,
  t173 := Tryd.underlying79,
  a173 := Tryd.isAgg79,
  z173 := Tryd.sizeOf79,
  v173 := Tryd.zeroValue79,
  t212 := Tryd.underlying82,
  a212 := Tryd.isAgg82,
  z212 := Tryd.sizeOf82,
  v212 := Tryd.zeroValue82,
  t213 := Tryd.underlying84,
  a213 := Tryd.isAgg84,
  z213 := Tryd.sizeOf84,
  t232 := Tryd.underlying87,
  a232 := Tryd.isAgg87,
  z232 := Tryd.sizeOf87,
  v232 := Tryd.zeroValue87,
  t233 := Tryd.underlying75,
  a233 := Tryd.isAgg75,
  z233 := Tryd.sizeOf75,
  v233 := Tryd.zeroValue75,
  g17 := by kernel_rfl,
  g18 := by kernel_rfl,
  g19 := by kernel_rfl,
  i0 := by kernel_rfl,
  i2 := by kernel_rfl,
  i3 := by kernel_rfl,
  i4 := by kernel_rfl,
  i5 := by kernel_rfl,
  i9 := by kernel_rfl,
  i20 := by kernel_rfl,
  i37 := by kernel_rfl,
  i46 := by kernel_rfl,
  i51 := by kernel_rfl,
  i53 := by kernel_rfl,
  i171 := by kernel_rfl,
  i173 := by kernel_rfl,
  i212 := by kernel_rfl,
  i232 := by kernel_rfl,
  i233 := by kernel_rfl,
  m17 := by kernel_rfl,
  m18 := by kernel_rfl,
  m19 := by kernel_rfl }

/-- decimal figures -/
def dec (u : Nat) : List Nat := (Lib.decDigits u).map UInt8.toNat
theorem dec_lt (u : Nat) : ∀ x ∈ dec u, x < 256 := fun x hx => by obtain ⟨b, _, rfl⟩ := List.mem_map.1 hx; exact b.toNat_lt
theorem dec_small {u : Nat} (h : u < 10) : dec u = [48 + u] := by
  unfold dec
  rw [Lib.decDigits, dif_pos h]
  simp only [List.map_cons, List.map_nil, UInt8.toNat_ofNat']
  congr 1
  omega
theorem dec_big {u : Nat} (h : ¬ u < 10) : dec u = dec (u / 10) ++ [48 + u % 10] := by
  unfold dec
  rw [Lib.decDigits, dif_neg h, List.map_append]
  simp only [List.map_cons, List.map_nil, UInt8.toNat_ofNat']
  congr 2
  omega
theorem dec_len (u : Nat) (h : u < 100000) : 0 < (dec u).length ∧ (dec u).length ≤ 5 := by
  have key : ∀ k u, u < 10 ^ (k + 1) → 0 < (dec u).length ∧ (dec u).length ≤ k + 1 := by
    intro k
    induction k with
    | zero => intro u hu; rw [dec_small (by simpa using hu)]; simp
    | succ k ih =>
      intro u hu
      by_cases h10 : u < 10
      · rw [dec_small h10]; simp
      · rw [dec_big h10, List.length_append]
        have := ih (u / 10) (by rw [Nat.pow_succ] at hu; omega)
        simp only [List.length_singleton]
        omega
  exact key 4 u (by simpa using h)
theorem dec_str (u : Nat) : str (dec u) = ⟨(Lib.decDigits u).toArray⟩ := by
  unfold str dec
  rw [List.map_map]
  congr 2
  refine (List.map_congr_left (g := id) fun b _ => ?_).trans (List.map_id _)
  simp
/-- the table of the powers of ten -/
def Tp (w : World) : Prop := Lib.TabIs Tryd.prog w "internal/strconv.uint64pow10" .u64 Lib.pow10Tab ∧ 2 < w.heap.size
theorem Tp.keep {w w' : World} {L : List Nat} (h : Tp w) (k : Keep w w' L) (hn : 2 ∉ L) : Tp w' := by
  refine ⟨?_, Nat.lt_of_lt_of_le h.2 k.size⟩
  have hs := k.same 2 h.2 hn
  have h1 := h.1
  have hg : Tryd.prog.globalNamed "internal/strconv.uint64pow10" = some 2 := by kernel_rfl
  unfold Lib.TabIs World.var? at h1 ⊢
  rw [hg] at h1 ⊢
  simp only [Option.bind_some] at h1 ⊢
  rw [hs]
  exact h1
theorem keep_grow (w : World) (k : Nat) (os : Array Obj) : Keep w (Sort.grow (w.drewN k) os) [] := by
  refine ⟨rfl, rfl, rfl, ?_, fun i hi _ => ?_⟩
  · simp [Sort.grow, World.drewN]
  · show (w.heap ++ os)[i]? = w.heap[i]?
    rw [Array.getElem?_append_left hi]
theorem c_FormatInt10 (u : Nat) (hu : u ≤ 9223372036854775807) (w : World) (hT : Tp w) : Cal Tryd.prog 36 [vI (u : Nat), vI ((10 : Nat) : Int)] w fun v w' => v = .string (str (dec u)) ∧ Keep w w' [] := by
  have h := Any.internal_strconv_FormatInt_10 lays246 (u : Int) (by omega) (by omega) w hT.1
  refine Calls.mono h ?_
  rintro e w' ⟨rfl, k, os, rfl⟩
  refine ⟨_, rfl, ?_, keep_grow w k os⟩
  rw [dec_str, Lib.itoa_nonneg]

end Go.Proofs.YtoheaoihiecgdaaDoor

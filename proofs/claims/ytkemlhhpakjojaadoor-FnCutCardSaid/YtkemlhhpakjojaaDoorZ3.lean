/- Texts that were built one by one and are laid together here (a claim has at most 60 files): frames, steps, plain laws, and functions by their contracts; no statement of the program is proved here. -/
import Derived.OrdersHeld
import Derived.StillTail
import Derived.Test.YtkemlhhpakjojaaDoorZ2
/- The length in the first bytes (small); the reader of bytes reads; each by its contract. -/
set_option linter.unusedVariables false
set_option linter.unusedSimpArgs false
set_option maxRecDepth 100000
set_option maxHeartbeats 1000000
namespace Go.Proofs.YtkemlhhpakjojaaDoor
open Go Go.RowKit

/-- from o on the bytes ys stand -/
def pw (l : List Nat) (o : Nat) (ys : List Nat) : List Nat := l.take o ++ ys ++ l.drop (o + ys.length)
theorem over_map8 (l : List Nat) (o : Nat) (ys : List Nat) : over (l.map v8) o (ys.map v8) = (pw l o ys).map v8 := by
  unfold over pw
  simp [List.map_take, List.map_drop]
theorem one_map8 (l : List Nat) : ∀ v ∈ l.map v8, v.oneCell' = true := by
  intro v hv; obtain ⟨x, _, rfl⟩ := List.mem_map.1 hv; rfl
theorem sm_lt (l : List Nat) (h8 : ∀ x ∈ l, x < 256) (k : Nat) : sm l k < 18446744073709551616 := by
  cases k with
  | zero => unfold sm; decide
  | succ k => unfold sm; exact or_lt64 (shl_lt64 _ _) (Nat.lt_trans (getD_lt8 h8 _) (by decide))

theorem c_small (A : Option Addr) (n c : Nat) (xs : List Nat) (w : World) (hR : Rd8 w A n xs) (h8 : ∀ x ∈ xs, x < 256) (hn : n ≤ 1000000) :
    Cal Tryd.prog 13 [.slice A n c] w fun v w' => v = vB (decide (sm xs (min n 8) ≤ 6000)) ∧ w = w' := by
  refine go_in' Tryd.func13 rfl Tryd.ntmps13 (Nat.le_of_ble_eq_true rfl) ?_
  refine c_seq ?_
  refine c_region ?_
  refine st (y_assign rfl) rfl ?_
  refine l_nil ?_
  refine q_then ?_
  refine c_seq ?_
  refine c_region ?_
  refine st (y_assign (v := vU 0) rfl) rfl ?_
  refine l_nil ?_
  refine q_then ?_
  refine c_seq ?_
  refine c_seq ?_
  refine c_region ?_
  refine st (y_assign (v := vI ((0 : Nat) : Int)) rfl) rfl ?_
  refine l_nil ?_
  refine q_then ?_
  refine c_block ?_
  refine c_loop (fun k : Nat => [(0, .slice A n c), (3, vU (sm xs k)), (4, vI (k : Nat))]) (fun k w' => k ≤ min n 8 ∧ w = w') (fun k => 8 - k) 0 ?_ ?_ ?_
  · exact ⟨rfl, rfl, rfl, trivial⟩
  · exact ⟨Nat.zero_le _, rfl⟩
  · rintro k w' ⟨hk, rfl⟩
    refine c_seq ?_
    refine c_seq ?_
    refine c_region ?_
    refine st (y_move rfl) rfl ?_
    refine st (y_move rfl) rfl ?_
    refine st (y_len rfl Tryd.underlying32) rfl ?_
    refine st_if (y_lt_i rfl rfl) rfl (fun hlt => ?_) (fun hlt => ?_)
    · refine st (y_move rfl) rfl ?_
      refine stg rfl rfl (y_move rfl) rfl ?_
      refine stg_if rfl rfl (y_lt_i (b := 8) rfl rfl) rfl (fun hl8 => ?_) (fun hl8 => ?_)
      · obtain ⟨ad, rfl, hadl, hcell⟩ := hR.2.2 (by omega)
        have hc := hcell k (by omega)
        have hx := Nat.lt_trans (getD_lt8 h8 k) (show 256 < 18446744073709551616 by decide)
        refine st (y_pickT rfl rfl) rfl ?_
        refine l_nil ?_
        refine q_then ?_
        refine c_true rfl rfl ?_
        refine c_skip ?_
        refine q_then ?_
        refine c_seq ?_
        refine c_block ?_
        refine c_region ?_
        refine st (y_move rfl) rfl ?_
        refine st (y_shl (k := 8) rfl rfl) rfl ?_
        refine st (y_move rfl) rfl ?_
        refine st (y_move rfl) rfl ?_
        first | refine st (y_index0 rfl rfl Tryd.underlying32 sz5 (by omega)) rfl ?_ | refine st (y_index rfl rfl Tryd.underlying32 sz5 (by omega)) rfl ?_ | refine st (y_indexA rfl rfl Tryd.underlying32 sz5 (by omega)) rfl ?_
        refine st (y_load rfl one5 (by assumption)) rfl ?_
        refine st (y_conv_8u rfl us5 Tryd.underlying43 (by first | omega | exact getD_lt8 (by assumption) _)) rfl ?_
        refine st (y_or rfl rfl (shl_lt64 _ _) hx) rfl ?_
        refine st (y_assign rfl) rfl ?_
        refine l_nil ?_
        refine q_block ?_
        refine q_then ?_
        refine c_region ?_
        refine st (y_move rfl) rfl ?_
        first | refine st (y_add_in (b := 1) rfl rfl (by omega)) rfl ?_ | refine st (y_add_i (b := 1) rfl rfl (by omega) (by omega)) rfl ?_
        refine st (y_assign rfl) rfl ?_
        refine l_nil ?_
        exact q_round (k + 1) ⟨rfl, rfl, rfl, trivial⟩ ⟨by omega, rfl⟩ (by omega)
      ·
        have hkm : min n 8 = k := by omega
        refine st (y_pickT rfl rfl) rfl ?_
        refine l_nil ?_
        refine q_then ?_
        refine c_false rfl rfl ?_
        refine c_exit ?_
        refine q_then_exit ?_
        refine q_then_exit ?_
        refine q_block_hit ?_
        refine q_then ?_
        refine c_seq ?_
        refine c_region ?_
        refine st (y_move rfl) rfl ?_
        refine st (y_le_u (b := 6000) rfl rfl) rfl ?_
        rw [← hkm]
        refine st (y_assign rfl) rfl ?_
        refine l_nil ?_
        refine q_then ?_
        refine c_ret ?_
        refine q_end1 (.inl rfl) rfl rfl ?_
        exact ⟨_, rfl, rfl, rfl⟩
    ·
      have hkm : min n 8 = k := by omega
      refine st (y_move rfl) rfl ?_
      refine sno rfl rfl rfl rfl ?_
      refine sno rfl rfl rfl rfl ?_
      refine st (y_pickF rfl rfl) rfl ?_
      refine l_nil ?_
      refine q_then ?_
      refine c_false rfl rfl ?_
      refine c_exit ?_
      refine q_then_exit ?_
      refine q_then_exit ?_
      refine q_block_hit ?_
      refine q_then ?_
      refine c_seq ?_
      refine c_region ?_
      refine st (y_move rfl) rfl ?_
      refine st (y_le_u (b := 6000) rfl rfl) rfl ?_
      rw [← hkm]
      refine st (y_assign rfl) rfl ?_
      refine l_nil ?_
      refine q_then ?_
      refine c_ret ?_
      refine q_end1 (.inl rfl) rfl rfl ?_
      exact ⟨_, rfl, rfl, rfl⟩

theorem c_RdSome (rb db o N c b bo m cc : Nat) (xs l : List Nat) (T1 T2 : TypeId) (w : World) (hr : Blk w rb 74 [vS db N c, vI (o : Nat), vI (-1)]) (hD : Blk w db T1 (xs.map v8)) (hN : N ≤ xs.length) (ho : o < N) (hNm : N ≤ 1000000) (hc : N ≤ c)
    (hB : Blk w b T2 (l.map v8)) (hm : bo + min (N - o) m ≤ l.length) (h1 : rb ≠ db) (h2 : rb ≠ b) (h3 : db ≠ b) :
    Cal Tryd.prog 55 [vP rb, .slice (some ⟨b, bo, none⟩) m cc] w fun v w' => v = vT [vI (min (N - o) m : Nat), .nilIface] ∧ Blk w' rb 74 [vS db N c, vI (o + min (N - o) m : Nat), vI (-1)] ∧ Blk w' b T2 ((pw l bo ((xs.drop o).take (min (N - o) m))).map v8) ∧ Keep w w' [rb, b] := by
  obtain ⟨M, hM⟩ : ∃ M, min (N - o) m = M := ⟨_, rfl⟩
  rw [hM] at hm ⊢
  have hr0 := hr.drew
  refine go_in' Tryd.func55 rfl Tryd.ntmps55 (Nat.le_of_ble_eq_true rfl) ?_
  refine c_seq ?_
  refine c_region ?_
  refine st (y_assign (v := vI ((0 : Nat) : Int)) rfl) rfl ?_
  refine st (y_assign rfl) rfl ?_
  refine l_nil ?_
  refine q_then ?_
  refine c_seq ?_
  refine c_seq ?_
  refine c_still mixed (by kernel_rfl) ?_
  refine ss (y_move rfl) rfl ?_
  refine ss (y_nil rfl) rfl ?_
  refine ss (fa74_1 rfl) rfl ?_
  refine ss (y_loadb rfl one2 (by assumption) (by rfl)) rfl ?_
  refine ss (y_move rfl) rfl ?_
  refine ss (y_nil rfl) rfl ?_
  refine ss (fa74_0 rfl) rfl ?_
  refine ss (y_loadb rfl one32 (by assumption) (by rfl)) rfl ?_
  refine ss (y_len rfl Tryd.underlying32) rfl ?_
  refine ss_f (y_ge_i rfl rfl) (by omega) rfl ?_
  refine s_nil ?_
  refine q_then ?_
  refine c_false rfl rfl ?_
  refine c_skip ?_
  refine q_then ?_
  refine c_seq ?_
  refine c_region ?_
  refine st (y_move rfl) rfl ?_
  refine st (y_nil rfl) rfl ?_
  refine st (fa74_2 rfl) rfl ?_
  refine st_store rfl rfl rfl sz3 (by assumption) (by first | simp | (simp; omega)) rfl ?_
  intro w1 hB1 hK1 hS1
  clear hr hr0
  have hb1 := (hB.drew.keep hK1 (by simp only [List.mem_singleton]; omega)).drew
  have hd1 := (hD.drew.keep hK1 (by simp only [List.mem_singleton]; omega)).drew
  have hr1 := hB1.drew
  clear hB1
  refine l_nil ?_
  refine q_then ?_
  refine c_seq ?_
  refine c_tail 10 mixed (by kernel_rfl) ?_
  refine ss (y_move rfl) rfl ?_
  refine ss (y_move rfl) rfl ?_
  refine ss (y_nil rfl) rfl ?_
  refine ss (fa74_0 rfl) rfl ?_
  refine ss (y_loadb rfl one32 (by assumption) (by rfl)) rfl ?_
  refine ss (y_move rfl) rfl ?_
  refine ss (y_nil rfl) rfl ?_
  refine ss (fa74_1 rfl) rfl ?_
  refine ss (y_loadb rfl one2 (by assumption) (by rfl)) rfl ?_
  refine ss (y_slice_ln rfl rfl Tryd.underlying32 sz5 (by omega) (by omega)) rfl ?_
  refine s_nil ?_
  show wpL _ _ _ _ _ _ _ _
  refine st_copy rfl rfl Tryd.underlying32 sz5 hb1 hd1 (by rw [List.length_map]; omega) (by rw [List.length_map]; omega) (one_map8 _) rfl ?_
  rw [Nat.zero_add, hM, ← List.map_drop, ← List.map_take, over_map8]
  intro w2 hB2 hK2 hS2
  have hr2 := hr1.keep hK2 (by simp only [List.mem_singleton]; omega)
  refine st (y_assign rfl) rfl ?_
  refine l_nil ?_
  refine q_then ?_
  refine c_seq ?_
  refine c_region ?_
  refine st (y_move rfl) rfl ?_
  refine st (y_nil rfl) rfl ?_
  refine st (fa74_1 rfl) rfl ?_
  refine st (y_loadb rfl one2 (by assumption) (by rfl)) rfl ?_
  refine st (y_move rfl) rfl ?_
  first | refine st (y_add_in rfl rfl (by omega)) rfl ?_ | refine st (y_add_i rfl rfl (by omega) (by omega)) rfl ?_
  refine st (y_nil rfl) rfl ?_
  refine st (fa74_1 rfl) rfl ?_
  refine st_store rfl rfl rfl sz2 (by assumption) (by first | simp | (simp; omega)) rfl ?_
  intro w3 hB3 hK3 hS3
  have hb3 := hB2.keep hK3 (by simp only [List.mem_singleton]; omega)
  refine l_nil ?_
  refine q_then ?_
  refine c_ret ?_
  refine q_end2 (.inl rfl) rfl rfl rfl ?_
  refine ⟨_, rfl, rfl, ?_, hb3, ?_⟩
  · exact hB3
  · exact ((((Keep.drew w [rb, b]).trans hK1 (by simp)).trans (Keep.drew w1 [rb, b]) (by simp)).trans hK2 (by simp)).trans hK3 (by simp)

theorem c_RdEnd (rb o N c B : Nat) (A A2 : Option Addr) (m cc : Nat) (e : Addr) (w : World) (hr : Blk w rb 74 [.slice A N c, vI (o : Nat), vI (-1)]) (ho : N ≤ o) (hom : o ≤ 1000000) (hE : Sen B w 1 80 e) :
    Cal Tryd.prog 55 [vP rb, .slice A2 m cc] w fun v w' => v = vT [vI ((0 : Nat) : Int), .iface 80 (.pointer (some e))] ∧ Keep w w' [] := by
  have hr0 := hr.drew
  have hE1 : w.drew.drew.cell? ⟨1, 0, none⟩ = some (.iface 80 (.pointer (some e))) := hE.cell
  refine go_in' Tryd.func55 rfl Tryd.ntmps55 (Nat.le_of_ble_eq_true rfl) ?_
  refine c_seq ?_
  refine c_region ?_
  refine st (y_assign (v := vI ((0 : Nat) : Int)) rfl) rfl ?_
  refine st (y_assign rfl) rfl ?_
  refine l_nil ?_
  refine q_then ?_
  refine c_seq ?_
  refine c_seq ?_
  refine c_still mixed (by kernel_rfl) ?_
  refine ss (y_move rfl) rfl ?_
  refine ss (y_nil rfl) rfl ?_
  refine ss (fa74_1 rfl) rfl ?_
  refine ss (y_loadb rfl one2 (by assumption) (by rfl)) rfl ?_
  refine ss (y_move rfl) rfl ?_
  refine ss (y_nil rfl) rfl ?_
  refine ss (fa74_0 rfl) rfl ?_
  refine ss (y_loadb rfl one32 (by assumption) (by rfl)) rfl ?_
  refine ss (y_len rfl Tryd.underlying32) rfl ?_
  refine ss_t (y_ge_i rfl rfl) (by omega) rfl ?_
  refine s_nil ?_
  refine q_then ?_
  refine c_true rfl rfl ?_
  refine c_seq ?_
  refine c_still mixed (by kernel_rfl) ?_
  refine ss (y_load rfl one50 hE1) rfl ?_
  refine ss (y_assign (v := vI ((0 : Nat) : Int)) rfl) rfl ?_
  refine ss (y_assign rfl) rfl ?_
  refine s_nil ?_
  refine q_then ?_
  refine c_ret ?_
  refine q_then_ret ?_
  refine q_end2 (.inl rfl) rfl rfl rfl ?_
  exact ⟨_, rfl, rfl, (Keep.drew w []).trans (Keep.drew w.drew []) (by simp)⟩

end Go.Proofs.YtkemlhhpakjojaaDoor

/- A region that draws its order and has one operation in it that changes the world (a call that draws itself, say); no statement of the program is proved here. -/
set_option linter.unusedVariables false
set_option linter.unusedSimpArgs false
namespace Go.Proofs.YtkemlhhpakjojaaDoor
open Go

def wpStillH (P : Program) (ops : Array Oper) (S : World → Prop) (K : Act → Prop) : List Oper → Act → Prop
  | [], a => K a
  | o :: rest, a => ∃ v, YieldsIf P ops S o v a ∧ wpStillH P ops S K rest (a.put o.dst v)

def heldB (ops : Array Oper) (m : Nat) : Bool := Region.noSelect ops && decide (m < ops.size) && Region.lexHead .any ops (ops.size - m) m 0 (Array.replicate ops.size false)

def wpH (P : Program) (ops : Array Oper) (S : World → Prop) (K : Act → Prop) (n : Nat) (D : List Deferred) (F : Fr) (l : List Oper) : Prop :=
  ∀ a, Sat a n D F → wpStillH P ops S K l a

section
variable {P : Program} {ops : Array Oper} {Q : Exit → Act → World → Prop} {n : Nat} {D : List Deferred} {F : Fr} {rest : List Oper} {w w' : World} {op : Op} {T : TypeId} {v : Value} {pos : String} {af : Array Edge} {S : World → Prop} {K : Act → Prop}

/-- a value that stands for itself -/
def okV : Value → Bool
  | .tuple a => Nat.blt 0 a.size
  | _ => true
theorem okV_ne {v : Value} (h : okV v = true) : v ≠ undef := by
  intro e; rw [e] at h; simp [okV, undef] at h

theorem sh {d : Nat} (h : ∀ w, S w → Zv P w F op T v w) (hv : okV v = true) (hd : Nat.blt d n = true) (k : wpH P ops S K n D ((d, v) :: F) rest) : wpH P ops S K n D F (⟨some d, op, T, pos, af, none⟩ :: rest) := by
  intro a ha
  refine ⟨v, .inl ⟨by simp [Region.wanted], fun w hw => ?_⟩, k _ (ha.put hd v)⟩
  rcases h w hw (some d) pos af none a.eval ha.agree with h | ⟨_, hu⟩
  · exact h
  · exact absurd hu (okV_ne hv)
theorem h_nil (h : ∀ a, Sat a n D F → K a) : wpH P ops S K n D F [] := fun a ha => h a ha

def QQ (K : Act → World → Prop) : Exit → Act → World → Prop := fun e a w => e = .normal ∧ K a w

theorem upon_QQ {o : Oper} {a : Act} {K : Act → World → Prop} {K1 K2 : Act → World → Prop} {r : Result Next} (h : o.upon P a K (QQ K1) r) : o.upon P a K (QQ K2) r := by
  cases r with
  | ok nx w' =>
    cases nx with
    | enter f args =>
      simp only [Oper.upon] at h ⊢
      refine Calls.mono h ?_
      intro e w'' he
      cases e with
      | returned v => exact he
      | panicked c => exact absurd he.1 (by simp)
      | outgrown => obtain ⟨_, _, he, _⟩ := he; cases he
    | _ => exact h
  | halt x w' =>
    cases x with
    | panic v => simp only [Oper.upon] at h; exact absurd h.1 (by simp)
    | _ => exact h

theorem wpOp_of_list {o : Oper} {m : Nat} {a : Act} {K1 K2 : Act → World → Prop} (hm : ops[m]? = some o) (h : wpList P ops (QQ K1) [o] a w) : wpOp P ops (QQ K2) m K1 a w := by
  unfold wpOp
  simp only [hm]
  simp only [wpList] at h
  split at h
  · rename_i hw
    rw [if_pos hw]
    rcases h with h | ⟨_, ⟨_, _, h, _⟩⟩
    · left
      have hK : ∀ a w, (QQ K1) .normal a w → K1 a w := fun _ _ h => h.2
      have := upon_QQ (K2 := K2) h
      exact Oper.wp_mono hK this
    · cases h
  · rename_i hw
    rw [if_neg hw]
    exact h.2

theorem wpAnyH_head {Kq : Act → World → Prop} {Lq : Act → Prop} {g : Nat} (hsel : Region.noSelect ops = true) (hS : S w) :
    ∀ (l : List Oper) (k : Nat) (listed : Array Bool) (a : Act), (∀ j, j < l.length → l[j]? = ops[k + j]?) →
    Region.lexHead .any ops g l.length k listed = true → wpStillH P ops S Lq l a →
    (∀ listed' a', Region.seqB .any ops g (k + l.length) listed' = true → Lq a' → wpAnyH P .any ops (QQ Kq) S g listed' a' w) →
    wpAnyH P .any ops (QQ Kq) S (l.length + g) listed a w
  | [], k, listed, a, _, hB, h, hend => by
    rw [List.length_nil, Nat.zero_add]
    exact hend listed a (by simpa [Region.lexHead] using hB) h
  | o :: l, k, listed, a, hl, hB, h, hend => by
    have h0 : ops[k]? = some o := by simpa using (hl 0 (by simp)).symm
    simp only [List.length_cons, Region.lexHead, Bool.and_eq_true] at hB
    obtain ⟨⟨hr, hf⟩, hB'⟩ := hB
    obtain ⟨v, hy, hrest⟩ := h
    rw [List.length_cons, show l.length + 1 + g = (l.length + g) + 1 by omega]
    refine wpAnyH_take h0 hsel hf hr (fun c a w h => absurd h.1 (by simp)) hy hS ?_
    exact wpAnyH_head hsel hS l (k + 1) _ _ (fun j hj => by have := hl (j + 1) (by simp; omega); simpa [Nat.add_assoc, Nat.add_comm 1 j] using this) hB' hrest
      (fun listed' a' h1 h2 => hend listed' a' (by rw [List.length_cons, show k + (l.length + 1) = k + 1 + l.length by omega]; exact h1) h2)

theorem wpAnyH_still {Kq : Act → World → Prop} (hS : S w) :
    ∀ (l : List Oper) (k : Nat) (listed : Array Bool) (a : Act), (∀ j, j < l.length → l[j]? = ops[k + j]?) → Region.seqB .any ops l.length k listed = true →
    wpStill P ops w (fun a' => Kq a' w) l a → wpAnyH P .any ops (QQ Kq) S l.length listed a w
  | [], k, listed, a, _, hB, h => ⟨by simpa [Region.seqB] using hB, rfl, h⟩
  | o :: l, k, listed, a, hl, hB, h => by
    have h0 : ops[k]? = some o := by simpa using (hl 0 (by simp)).symm
    simp only [List.length_cons, Region.seqB, Bool.and_eq_true, decide_eq_true_eq] at hB
    refine ⟨fun h1 => (by rw [hB.1] at h1; cases h1), fun i hi => ?_⟩
    rw [hB.1] at hi
    have hik : i = k := by simpa using hi
    subst hik
    have hst : stOp P ops w i (wpStill P ops w (fun a' => Kq a' w) l) a := by unfold stOp; simp only [h0]; exact h
    exact wpOp_of_stOp (fun a' h' => ⟨hS, wpAnyH_still hS l (i + 1) _ a' (fun j hj => by have := hl (j + 1) (by simp; omega); simpa [Nat.add_assoc, Nat.add_comm 1 j] using this) hB.2 h'⟩) hst

/-- a region that draws its order: m operations that answer alike wherever S holds, one that changes the world, then some in one order that leave it alone -/
theorem c_held {id : Nat} {l : List Oper} (S : World → Prop) (m : Nat) (hm : P.follows .mixedOrders = true) (hB : heldB l.toArray m = true) (hS : S w.drew)
    (h : wpH P l.toArray S (fun a1 => wpList P l.toArray (QQ fun a2 w2 => S w2 ∧ wpStill P l.toArray w2 (fun a3 => Q .normal a3 w2) (l.drop (m + 1)) a2) ((l.drop m).take 1) a1 w.drew) n D F (l.take m)) :
    cwp P (.region id l.toArray true) Q n D F w := by
  intro a ha
  simp only [heldB, Bool.and_eq_true, decide_eq_true_eq] at hB
  obtain ⟨⟨hsel, hn⟩, hlex⟩ := hB
  have hn' : m < l.length := by simpa using hn
  have htl : (l.take m).length = m := by simp; omega
  refine Code.wp_mono (Q := QQ fun a w => Q .normal a w) (fun e a w h => h.1 ▸ h.2) ?_
  refine wp_region_held (S := S) hm ?_
  obtain ⟨o, ho⟩ : ∃ o, l[m]? = some o := ⟨l[m], by simp [hn']⟩
  have hgs : l.toArray.size - m = (l.drop (m + 1)).length + 1 := by simp; omega
  have hone : (l.drop m).take 1 = [o] := by
    have := List.getElem?_eq_some_iff.1 ho
    obtain ⟨h1, h2⟩ := this
    rw [List.drop_eq_getElem_cons h1, h2]; rfl
  have H := wpAnyH_head (g := l.toArray.size - m) (Kq := fun a w => Q .normal a w) hsel hS (l.take m) 0 (Array.replicate l.toArray.size false) a (fun j hj => by
    have hj' : j < m := by rw [htl] at hj; exact hj
    simp [hj']) (by rw [htl]; exact hlex) (h a ha) (fun listed' a' hs hL => ?_)
  · rw [htl, show m + (l.toArray.size - m) = l.toArray.size by omega] at H
    exact H
  · rw [htl, Nat.zero_add, hgs] at hs
    rw [hgs]
    simp only [Region.seqB, Bool.and_eq_true, decide_eq_true_eq] at hs
    refine ⟨fun h1 => (by rw [hs.1] at h1; cases h1), fun i hi => ?_⟩
    rw [hs.1] at hi
    have him : i = m := by simpa using hi
    subst him
    rw [hone] at hL
    refine wpOp_mono (fun a2 w2 h2 => ?_) (wpOp_of_list (K2 := fun a w => Q .normal a w) (by simpa using ho) hL)
    exact ⟨h2.1, wpAnyH_still h2.1 (l.drop (i + 1)) (i + 1) _ _ (fun j hj => by simp [List.getElem?_drop]) hs.2 h2.2⟩

theorem q_held {ops2 : Array Oper} {l2 : List Oper} {Qn : Act → World → Prop} (hS : S w) (h : wpS P ops2 w (fun a3 => Qn a3 w) n D F l2) : qf (QQ fun a2 w2 => S w2 ∧ wpStill P ops2 w2 (fun a3 => Qn a3 w2) l2 a2) .normal n D F w :=
  fun a ha => ⟨rfl, hS, h a ha⟩

/-! the like with more than one operation that changes the world, each the only one that may come up when it comes -/
def wpTail (P : Program) (ops : Array Oper) (S : World → Prop) (Q : Exit → Act → World → Prop) : List Oper → Act → World → Prop
  | [], a, w => Q .normal a w
  | o :: rest, a, w => wpList P ops (QQ fun a' w' => S w' ∧ wpTail P ops S Q rest a' w') [o] a w
theorem wpAnyH_tail : ∀ (l : List Oper) (k : Nat) (listed : Array Bool) (a : Act) (w : World), (∀ j, j < l.length → l[j]? = ops[k + j]?) → Region.seqB .any ops l.length k listed = true →
    wpTail P ops S Q l a w → wpAnyH P .any ops (QQ fun a w => Q .normal a w) S l.length listed a w
  | [], k, listed, a, w, _, hB, h => ⟨by simpa [Region.seqB] using hB, rfl, h⟩
  | o :: l, k, listed, a, w, hl, hB, h => by
    have h0 : ops[k]? = some o := by simpa using (hl 0 (by simp)).symm
    simp only [List.length_cons, Region.seqB, Bool.and_eq_true, decide_eq_true_eq] at hB
    refine ⟨fun h1 => (by rw [hB.1] at h1; cases h1), fun i hi => ?_⟩
    rw [hB.1] at hi
    have hik : i = k := by simpa using hi
    subst hik
    refine wpOp_mono (fun a2 w2 h2 => ?_) (wpOp_of_list (K2 := fun a w => Q .normal a w) h0 h)
    exact ⟨h2.1, wpAnyH_tail l (i + 1) _ a2 w2 (fun j hj => by have := hl (j + 1) (by simp; omega); simpa [Nat.add_assoc, Nat.add_comm 1 j] using this) hB.2 h2.2⟩
theorem c_heldN {id : Nat} {l : List Oper} (S : World → Prop) (m : Nat) (hm : P.follows .mixedOrders = true) (hB : heldB l.toArray m = true) (hS : S w.drew)
    (h : wpH P l.toArray S (fun a1 => wpTail P l.toArray S Q (l.drop m) a1 w.drew) n D F (l.take m)) :
    cwp P (.region id l.toArray true) Q n D F w := by
  intro a ha
  simp only [heldB, Bool.and_eq_true, decide_eq_true_eq] at hB
  obtain ⟨⟨hsel, hn⟩, hlex⟩ := hB
  have hn' : m < l.length := by simpa using hn
  have htl : (l.take m).length = m := by simp; omega
  refine Code.wp_mono (Q := QQ fun a w => Q .normal a w) (fun e a w h => h.1 ▸ h.2) ?_
  refine wp_region_held (S := S) hm ?_
  have hgs : l.toArray.size - m = (l.drop m).length := by simp
  have H := wpAnyH_head (g := l.toArray.size - m) (Kq := fun a w => Q .normal a w) hsel hS (l.take m) 0 (Array.replicate l.toArray.size false) a (fun j hj => by
    have hj' : j < m := by rw [htl] at hj; exact hj
    simp [hj']) (by rw [htl]; exact hlex) (h a ha) (fun listed' a' hs hL => ?_)
  · rw [htl, show m + (l.toArray.size - m) = l.toArray.size by omega] at H
    exact H
  · rw [htl, Nat.zero_add, hgs] at hs
    rw [hgs]
    exact wpAnyH_tail (l.drop m) m _ _ _ (fun j hj => by simp [List.getElem?_drop]) hs hL
theorem q_tail {ops2 : Array Oper} {l2 : List Oper} {Q2 : Exit → Act → World → Prop} (hS : S w) (h : ∀ a, Sat a n D F → wpTail P ops2 S Q2 l2 a w) : qf (QQ fun a2 w2 => S w2 ∧ wpTail P ops2 S Q2 l2 a2 w2) .normal n D F w :=
  fun a ha => ⟨rfl, hS, h a ha⟩
end
end Go.Proofs.YtkemlhhpakjojaaDoor

/- A region that draws its order, by a list of moves: an operation that answers alike wherever S holds may be taken first; any other must be the only one that may come up; no statement of the program is proved here. -/
set_option linter.unusedVariables false
set_option linter.unusedSimpArgs false
namespace Go.Proofs.YtkemlhhpakjojaaDoor
open Go

inductive Mvs where
  | nil : Mvs
  | take : Nat → Mvs → Mvs
  | one : Nat → Mvs → Mvs
  | two : Nat → Nat → Mvs → Mvs → Mvs
  | last : Nat → Mvs
def Mvs.len : Mvs → Nat
  | .nil => 0
  | .take _ r => r.len + 1
  | .one _ r => r.len + 1
  | .two _ _ r _ => r.len + 1
  | .last _ => 1

/-! ### Whatever order is picked: S holds behind every operation that is carried out, but for one (number X) that waits for all that are taken first -/
section
variable {P : Program} {ops : Array Oper} {Q : Exit → Act → World → Prop} {md : Region.Mode} {S : World → Prop} {X : Nat}
/-- number X waits for number i, or for one that waits for it and has not come up yet -/
def Waits (md : Region.Mode) (ops : Array Oper) (X i : Nat) (listed : Array Bool) : Prop := ∀ o, ops[X]? = some o → ∃ e ∈ o.after, Region.binds md e = true ∧ (e.on = i ∨ (listed.getD e.on true = false ∧ ∃ ok, ops[e.on]? = some ok ∧ ∃ e2 ∈ ok.after, Region.binds md e2 = true ∧ e2.on = i))
def wpAnyX (P : Program) (md : Region.Mode) (ops : Array Oper) (Q : Exit → Act → World → Prop) (S : World → Prop) (X : Nat) : Nat → Array Bool → Act → World → Prop
  | 0, listed, a, w => Region.ready md ops listed = [] ∧ Q .normal a w
  | fuel + 1, listed, a, w =>
    (Region.ready md ops listed = [] → Q .normal a w) ∧
    ∀ i ∈ Region.ready md ops listed, wpOp P ops Q i (fun a' w' => (i = X ∨ S w') ∧ wpAnyX P md ops Q S X fuel (listed.setIfInBounds i true) a' w') a w
theorem wpAny_of_X : ∀ (fuel : Nat) (listed : Array Bool) (a : Act) (w : World), wpAnyX P md ops Q S X fuel listed a w → wpAny P md ops Q fuel listed a w
  | 0, _, _, _, h => h
  | fuel + 1, _, _, _, h => ⟨h.1, fun i hi => wpOp_mono (fun a' w' h' => wpAny_of_X fuel _ a' w' h'.2) (h.2 i hi)⟩
theorem wpAnyX_first {i : Nat} {oi : Oper} {v : Value} (hi : ops[i]? = some oi) (hsel : ∀ (j : Nat) (o : Oper) cs b, ops[j]? = some o → o.op ≠ .select cs b)
    (hQ : ∀ c a w, Q (.panic c) (a.put oi.dst v) w → Q (.panic c) a w) :
    ∀ (fuel : Nat) (listed : Array Bool) (a : Act) (w : World), Waits md ops X i listed →
      (∀ j oj, ops[j]? = some oj → j ≠ i → listed.getD j true = false → (∀ e ∈ oj.after, Region.binds md e = true → e.on ≠ i) → oi.apart ops oj = true) →
      i ∈ Region.ready md ops listed → YieldsIf P ops S oi v a → S w →
      wpAnyX P md ops Q S X fuel (listed.setIfInBounds i true) (a.put oi.dst v) w → wpAnyX P md ops Q S X (fuel + 1) listed a w := by
  intro fuel
  induction fuel with
  | zero =>
    intro listed a w _ _ hr hy hS H
    refine ⟨fun h => (by rw [h] at hr; cases hr), fun j hj => ?_⟩
    by_cases hji : j = i
    · subst hji; exact hy.wpOp hi hS ⟨.inr hS, H⟩
    · have := ready_mono hj hji
      rw [H.1] at this
      cases this
  | succ fuel ih =>
    intro listed a w hX hfree hr hy hS H
    refine ⟨fun h => (by rw [h] at hr; cases hr), fun j hj => ?_⟩
    by_cases hji : j = i
    · subst hji; exact hy.wpOp hi hS ⟨.inr hS, H⟩
    · have h1 := H.2 j (ready_mono hj hji)
      obtain ⟨hjun, oj, hoj, hall⟩ := mem_ready.1 hj
      have hnot : ∀ e ∈ oj.after, Region.binds md e = true → e.on ≠ i := fun e he hb heq => by
        have h1 := hall e he hb
        have h0 := (mem_ready.1 hr).1
        rw [heq] at h1
        rcases Nat.lt_or_ge i listed.size with h' | h'
        · simp [h'] at h0 h1; rw [h0] at h1; cases h1
        · simp [Array.getElem?_eq_none h'] at h1
      have hjX : j ≠ X := fun e => by
        subst e
        obtain ⟨e, he, hb, hei | ⟨hun, _⟩⟩ := hX oj hoj
        · exact hnot e he hb hei
        · have h4 := hall e he hb
          rcases Nat.lt_or_ge e.on listed.size with h' | h'
          · simp [h'] at hun h4; rw [hun] at h4; cases h4
          · simp [Array.getElem?_eq_none h'] at h4
      have hX' : Waits md ops X i (listed.setIfInBounds j true) := by
        intro o ho
        obtain ⟨e, he, hb, hei | ⟨hun, ok, hok, e2, he2, hb2, hi2⟩⟩ := hX o ho
        · exact ⟨e, he, hb, .inl hei⟩
        · refine ⟨e, he, hb, .inr ⟨?_, ok, hok, e2, he2, hb2, hi2⟩⟩
          have hjk : j ≠ e.on := fun h => by
            subst h
            rw [hoj] at hok
            cases hok
            exact hnot e2 he2 hb2 hi2
          rw [getD_set_ne true hjk]; exact hun
      have h2 := wpOp_putIf hoj (hfree j oj hoj hji hjun hnot) (fun cs b => hsel i oi cs b hi) (fun cs b => hsel j oj cs b hoj) hQ hy h1
      have hfree' : ∀ k ok, ops[k]? = some ok → k ≠ i → (listed.setIfInBounds j true).getD k true = false →
          (∀ e ∈ ok.after, Region.binds md e = true → e.on ≠ i) → oi.apart ops ok = true := fun k ok hk hki hun hno => by
        refine hfree k ok hk hki ?_ hno
        by_cases hjk : j = k
        · subst hjk; exact hjun
        · rw [getD_set_ne true hjk] at hun; exact hun
      refine wpOp_mono (fun a' w' h3 => ?_) h2
      have hS' : S w' := h3.2.1.resolve_left hjX
      refine ⟨.inr hS', ih (listed.setIfInBounds j true) a' w' hX' hfree' (ready_mono hr (Ne.symm hji)) h3.1 hS' ?_⟩
      rw [Array.setIfInBounds_comm _ _ hji]
      exact h3.2.2
end
def waitsB (ops : Array Oper) (X i : Nat) (listed : Array Bool) : Bool := match ops[X]? with
  | none => true
  | some o => o.after.any fun e => Region.binds .any e && (Nat.beq e.on i || (!(listed.getD e.on true) && match ops[e.on]? with
    | none => false
    | some ok => ok.after.any fun e2 => Region.binds .any e2 && Nat.beq e2.on i))
theorem waits_spec {ops : Array Oper} {X i : Nat} {listed : Array Bool} (h : waitsB ops X i listed = true) : Waits .any ops X i listed := by
  intro o ho
  unfold waitsB at h
  rw [ho] at h
  simp only [Array.any_eq_true, Bool.and_eq_true, Bool.or_eq_true, Bool.not_eq_true'] at h
  obtain ⟨k, hk, h1, h2⟩ := h
  refine ⟨_, Array.getElem_mem hk, h1, ?_⟩
  rcases h2 with h2 | ⟨h2, h3⟩
  · exact .inl (Nat.eq_of_beq_eq_true h2)
  · refine .inr ⟨h2, ?_⟩
    cases hok : ops[(o.after[k]).on]? with
    | none => rw [hok] at h3; cases h3
    | some ok =>
      rw [hok] at h3
      simp only [Array.any_eq_true, Bool.and_eq_true] at h3
      obtain ⟨k2, hk2, h4, h5⟩ := h3
      exact ⟨ok, rfl, _, Array.getElem_mem hk2, h4, Nat.eq_of_beq_eq_true h5⟩

def movesB (ops : Array Oper) (X : Nat) : Mvs → Array Bool → Bool
  | .nil, listed => (Region.ready .any ops listed).isEmpty
  | .take i r, listed => (Region.ready .any ops listed).contains i && Region.free .any ops listed i && waitsB ops X i listed && movesB ops X r (listed.setIfInBounds i true)
  | .one i r, listed => decide (Region.ready .any ops listed = [i]) && movesB ops X r (listed.setIfInBounds i true)
  | .two i j r s, listed => decide (Region.ready .any ops listed = [i, j]) && Nat.beq s.len r.len && movesB ops X r (listed.setIfInBounds i true) && movesB ops X s (listed.setIfInBounds j true)
  | .last i, listed => decide (Region.ready .any ops listed = [i]) && Nat.beq i X && (Region.ready .any ops (listed.setIfInBounds i true)).isEmpty

def wpMoves (P : Program) (ops : Array Oper) (S : World → Prop) (Q : Exit → Act → World → Prop) : Mvs → Act → World → Prop
  | .nil, a, w => Q .normal a w
  | .take i r, a, w => ∃ o v, ops[i]? = some o ∧ YieldsIf P ops S o v a ∧ wpMoves P ops S Q r (a.put o.dst v) w
  | .one i r, a, w => ∃ o, ops[i]? = some o ∧ wpList P ops (QQ fun a' w' => S w' ∧ wpMoves P ops S Q r a' w') [o] a w
  | .two i j r s, a, w => (∃ o, ops[i]? = some o ∧ wpList P ops (QQ fun a' w' => S w' ∧ wpMoves P ops S Q r a' w') [o] a w) ∧ (∃ o, ops[j]? = some o ∧ wpList P ops (QQ fun a' w' => S w' ∧ wpMoves P ops S Q s a' w') [o] a w)
  | .last i, a, w => ∃ o, ops[i]? = some o ∧ wpList P ops (QQ fun a' w' => Q .normal a' w') [o] a w

section
variable {P : Program} {ops : Array Oper} {Q : Exit → Act → World → Prop} {n : Nat} {D : List Deferred} {F : Fr} {w : World} {S : World → Prop} {X : Nat}

theorem wpAnyX_moves (hsel : Region.noSelect ops = true) : ∀ (ms : Mvs) (listed : Array Bool) (a : Act) (w : World), movesB ops X ms listed = true → S w →
    wpMoves P ops S Q ms a w → wpAnyX P .any ops (QQ fun a w => Q .normal a w) S X ms.len listed a w
  | .nil, listed, a, w, hB, _, h => ⟨by simpa [movesB] using hB, rfl, h⟩
  | .take i r, listed, a, w, hB, hS, h => by
    simp only [movesB, Bool.and_eq_true] at hB
    obtain ⟨⟨⟨hr, hf⟩, hx⟩, hB'⟩ := hB
    obtain ⟨o, v, h0, hy, hrest⟩ := h
    exact wpAnyX_first h0 (Region.noSelect_spec hsel) (fun c a w h => absurd h.1 (by simp)) _ _ _ _ (waits_spec hx) (Region.free_spec h0 hf) (by simpa using hr) hy hS (wpAnyX_moves hsel r _ _ _ hB' hS hrest)
  | .one i r, listed, a, w, hB, hS, h => by
    simp only [movesB, Bool.and_eq_true, decide_eq_true_eq] at hB
    obtain ⟨o, h0, hl⟩ := h
    refine ⟨fun h1 => (by rw [hB.1] at h1; cases h1), fun j hj => ?_⟩
    rw [hB.1] at hj
    have hji : j = i := by simpa using hj
    subst hji
    refine wpOp_mono (fun a2 w2 h2 => ?_) (wpOp_of_list (K2 := fun a w => Q .normal a w) h0 hl)
    exact ⟨.inr h2.1, wpAnyX_moves hsel r _ a2 w2 hB.2 h2.1 h2.2⟩
  | .two i k r s, listed, a, w, hB, hS, h => by
    simp only [movesB, Bool.and_eq_true, decide_eq_true_eq] at hB
    obtain ⟨⟨⟨hrd, hln⟩, hB1⟩, hB2⟩ := hB
    have hln := Nat.eq_of_beq_eq_true hln
    obtain ⟨⟨o, h0, hl⟩, ⟨o2, h02, hl2⟩⟩ := h
    refine ⟨fun h1 => (by rw [hrd] at h1; cases h1), fun j hj => ?_⟩
    rw [hrd] at hj
    rcases (by simpa using hj : j = i ∨ j = k) with hji | hji
    · subst hji
      refine wpOp_mono (fun a2 w2 h2 => ?_) (wpOp_of_list (K2 := fun a w => Q .normal a w) h0 hl)
      exact ⟨.inr h2.1, wpAnyX_moves hsel r _ a2 w2 hB1 h2.1 h2.2⟩
    · subst hji
      refine wpOp_mono (fun a2 w2 h2 => ?_) (wpOp_of_list (K2 := fun a w => Q .normal a w) h02 hl2)
      have := wpAnyX_moves hsel s (listed.setIfInBounds j true) a2 w2 hB2 h2.1 h2.2
      rw [hln] at this
      exact ⟨.inr h2.1, this⟩
  | .last i, listed, a, w, hB, hS, h => by
    simp only [movesB, Bool.and_eq_true, decide_eq_true_eq] at hB
    obtain ⟨⟨hrd, hx⟩, he⟩ := hB
    have hiX := Nat.eq_of_beq_eq_true hx
    obtain ⟨o, h0, hl⟩ := h
    refine ⟨fun h1 => (by rw [hrd] at h1; cases h1), fun j hj => ?_⟩
    rw [hrd] at hj
    have hji : j = i := by simpa using hj
    subst hji
    refine wpOp_mono (fun a2 w2 h2 => ?_) (wpOp_of_list (K2 := fun a w => Q .normal a w) h0 hl)
    exact ⟨.inl hiX, by simpa using he, rfl, h2⟩

theorem c_moves {id : Nat} {l : List Oper} (X : Nat) (S : World → Prop) (ms : Mvs) (hm : P.follows .mixedOrders = true) (hsel : Region.noSelect l.toArray = true) (hl : ms.len = l.length) (hB : movesB l.toArray X ms (Array.replicate l.toArray.size false) = true) (hS : S w.drew)
    (h : ∀ a, Sat a n D F → wpMoves P l.toArray S Q ms a w.drew) : cwp P (.region id l.toArray true) Q n D F w := by
  intro a ha
  refine Code.wp_mono (Q := QQ fun a w => Q .normal a w) (fun e a w h => h.1 ▸ h.2) ?_
  refine wp_region_any hm (wpAny_of_X (S := S) (X := X) _ _ _ _ ?_)
  have := wpAnyX_moves hsel ms (Array.replicate l.toArray.size false) a w.drew hB hS (h a ha)
  rwa [hl, show l.length = l.toArray.size by simp] at this

/-- what is left of the moves, in a frame -/
def wpM (P : Program) (ops : Array Oper) (S : World → Prop) (Q : Exit → Act → World → Prop) (n : Nat) (D : List Deferred) (F : Fr) (ms : Mvs) (w : World) : Prop := ∀ a, Sat a n D F → wpMoves P ops S Q ms a w

variable {ms ms2 : Mvs} {i d : Nat} {op : Op} {T : TypeId} {pos : String} {af : Array Edge} {v : Value}
theorem mt (h0 : ops[i]? = some ⟨some d, op, T, pos, af, none⟩) (h : ∀ w, S w → Zv P w F op T v w) (hv : okV v = true) (hd : Nat.blt d n = true) (k : wpM P ops S Q n D ((d, v) :: F) ms w) : wpM P ops S Q n D F (.take i ms) w := by
  intro a ha
  refine ⟨_, v, h0, .inl ⟨by simp [Region.wanted], fun w hw => ?_⟩, k _ (ha.put hd v)⟩
  rcases h w hw (some d) pos af none a.eval ha.agree with h | ⟨_, hu⟩
  · exact h
  · exact absurd hu (okV_ne hv)
theorem wanted_of' {a : Act} {o : Oper} {j t : Nat} {b c : Bool} (ha : Sat a n D F) (hg : o.guard = some (j, b)) (hj : ((ops[j]?).bind (·.dst)) = some t) (ht : fget F t = some (.bool c)) : Region.wanted o (yielded ops a.tmps) = (c == b) := by
  have hget := ha.get t _ ht
  simp only [Region.wanted, hg, yielded, hj, Option.bind_some]
  rw [Array.getD_eq_getD_getElem?] at hget
  cases hh : a.tmps[t]? with
  | none => rw [hh] at hget; simp [undef] at hget
  | some u =>
    rw [hh] at hget
    simp only [Option.getD_some] at hget
    subst hget
    rfl
theorem mtg {j t : Nat} {b : Bool} (h0 : ops[i]? = some ⟨some d, op, T, pos, af, some (j, b)⟩) (hj : ((ops[j]?).bind (·.dst)) = some t) (ht : fget F t = some (.bool b)) (h : ∀ w, S w → Zv P w F op T v w) (hv : okV v = true) (hd : Nat.blt d n = true) (k : wpM P ops S Q n D ((d, v) :: F) ms w) : wpM P ops S Q n D F (.take i ms) w := by
  intro a ha
  refine ⟨_, v, h0, .inl ⟨?_, fun w hw => ?_⟩, k _ (ha.put hd v)⟩
  · rw [wanted_of' ha rfl hj ht]; cases b <;> rfl
  · rcases h w hw (some d) pos af (some (j, b)) a.eval ha.agree with h | ⟨_, hu⟩
    · exact h
    · exact absurd hu (okV_ne hv)
theorem mno {j t : Nat} {b c : Bool} (h0 : ops[i]? = some ⟨some d, op, T, pos, af, some (j, b)⟩) (hj : ((ops[j]?).bind (·.dst)) = some t) (ht : fget F t = some (.bool c)) (hbc : (c == b) = false) (hd : Nat.blt d n = true) (k : wpM P ops S Q n D ((d, undef) :: F) ms w) : wpM P ops S Q n D F (.take i ms) w := by
  intro a ha
  exact ⟨_, undef, h0, .inr ⟨by rw [wanted_of' ha rfl hj ht]; exact hbc, rfl⟩, k _ (ha.put hd undef)⟩
theorem mnou {j t : Nat} {b : Bool} (h0 : ops[i]? = some ⟨some d, op, T, pos, af, some (j, b)⟩) (hj : ((ops[j]?).bind (·.dst)) = some t) (ht : fget F t = some undef) (hd : Nat.blt d n = true) (k : wpM P ops S Q n D ((d, undef) :: F) ms w) : wpM P ops S Q n D F (.take i ms) w := by
  intro a ha
  exact ⟨_, undef, h0, .inr ⟨unwanted_of ha rfl hj ht, rfl⟩, k _ (ha.put hd undef)⟩
/-- one that changes the world: walked by itself -/
theorem mh {o : Oper} (h0 : ops[i]? = some o) (h : wpL P ops (QQ fun a' w' => S w' ∧ wpMoves P ops S Q ms a' w') n D F [o] w) : wpM P ops S Q n D F (.one i ms) w :=
  fun a ha => ⟨o, h0, h a ha⟩
/-- two that change the world may come up: both are walked -/
theorem m_two {k : Nat} (h1 : wpM P ops S Q n D F (.one i ms) w) (h2 : wpM P ops S Q n D F (.one k ms2) w) : wpM P ops S Q n D F (.two i k ms ms2) w :=
  fun a ha => ⟨h1 a ha, h2 a ha⟩
theorem mh_end (hS : S w) (h : wpM P ops S Q n D F ms w) : qf (QQ fun a' w' => S w' ∧ wpMoves P ops S Q ms a' w') .normal n D F w := fun a ha => ⟨rfl, hS, h a ha⟩
theorem mlast {o : Oper} (h0 : ops[i]? = some o) (h : wpL P ops (QQ fun a' w' => Q .normal a' w') n D F [o] w) : wpM P ops S Q n D F (.last i) w :=
  fun a ha => ⟨o, h0, h a ha⟩
theorem mlast_end (h : qf Q .normal n D F w) : qf (QQ fun a' w' => Q .normal a' w') .normal n D F w := fun a ha => ⟨rfl, h a ha⟩
theorem m_nil (h : qf Q .normal n D F w) : wpM P ops S Q n D F .nil w := h
section
variable {p : Prop} [Decidable p]
theorem mt_t (h0 : ops[i]? = some ⟨some d, op, T, pos, af, none⟩) (h : ∀ w, S w → Zv P w F op T (.bool (decide p)) w) (hp : p) (hd : Nat.blt d n = true) (k : wpM P ops S Q n D ((d, .bool true) :: F) ms w) : wpM P ops S Q n D F (.take i ms) w :=
  mt h0 (v := .bool true) (fun w hw => by have := h w hw; rwa [decide_eq_true hp] at this) rfl hd k
theorem mt_f (h0 : ops[i]? = some ⟨some d, op, T, pos, af, none⟩) (h : ∀ w, S w → Zv P w F op T (.bool (decide p)) w) (hp : ¬ p) (hd : Nat.blt d n = true) (k : wpM P ops S Q n D ((d, .bool false) :: F) ms w) : wpM P ops S Q n D F (.take i ms) w :=
  mt h0 (v := .bool false) (fun w hw => by have := h w hw; rwa [decide_eq_false hp] at this) rfl hd k
theorem mt_if (h0 : ops[i]? = some ⟨some d, op, T, pos, af, none⟩) (h : ∀ w, S w → Zv P w F op T (.bool (decide p)) w) (hd : Nat.blt d n = true) (k1 : p → wpM P ops S Q n D ((d, .bool true) :: F) ms w) (k2 : ¬ p → wpM P ops S Q n D ((d, .bool false) :: F) ms w) : wpM P ops S Q n D F (.take i ms) w := by
  by_cases hp : p
  · exact mt_t h0 h hp hd (k1 hp)
  · exact mt_f h0 h hp hd (k2 hp)
variable {j t : Nat} {b : Bool}
theorem mtg_t (h0 : ops[i]? = some ⟨some d, op, T, pos, af, some (j, b)⟩) (hj : ((ops[j]?).bind (·.dst)) = some t) (ht : fget F t = some (.bool b)) (h : ∀ w, S w → Zv P w F op T (.bool (decide p)) w) (hp : p) (hd : Nat.blt d n = true) (k : wpM P ops S Q n D ((d, .bool true) :: F) ms w) : wpM P ops S Q n D F (.take i ms) w :=
  mtg h0 hj ht (v := .bool true) (fun w hw => by have := h w hw; rwa [decide_eq_true hp] at this) rfl hd k
theorem mtg_f (h0 : ops[i]? = some ⟨some d, op, T, pos, af, some (j, b)⟩) (hj : ((ops[j]?).bind (·.dst)) = some t) (ht : fget F t = some (.bool b)) (h : ∀ w, S w → Zv P w F op T (.bool (decide p)) w) (hp : ¬ p) (hd : Nat.blt d n = true) (k : wpM P ops S Q n D ((d, .bool false) :: F) ms w) : wpM P ops S Q n D F (.take i ms) w :=
  mtg h0 hj ht (v := .bool false) (fun w hw => by have := h w hw; rwa [decide_eq_false hp] at this) rfl hd k
theorem mtg_if (h0 : ops[i]? = some ⟨some d, op, T, pos, af, some (j, b)⟩) (hj : ((ops[j]?).bind (·.dst)) = some t) (ht : fget F t = some (.bool b)) (h : ∀ w, S w → Zv P w F op T (.bool (decide p)) w) (hd : Nat.blt d n = true) (k1 : p → wpM P ops S Q n D ((d, .bool true) :: F) ms w) (k2 : ¬ p → wpM P ops S Q n D ((d, .bool false) :: F) ms w) : wpM P ops S Q n D F (.take i ms) w := by
  by_cases hp : p
  · exact mtg_t h0 hj ht h hp hd (k1 hp)
  · exact mtg_f h0 hj ht h hp hd (k2 hp)
end
end
section
variable {P : Program} {ops : Array Oper} {n : Nat} {D : List Deferred} {F : Fr} {rest : List Oper} {w : World} {op : Op} {T : TypeId} {pos : String} {af : Array Edge} {p : Prop} [Decidable p] {d j t : Nat} {b : Bool} {K : Act → Prop}
/-- a guarded test in a region that draws and leaves the world alone -/
theorem ssg_if (hj : ((ops[j]?).bind (·.dst)) = some t) (hg : fget F t = some (.bool b)) (h : Zv P w F op T (.bool (decide p)) w) (hd : Nat.blt d n = true) (ht : p → wpS P ops w K n D ((d, .bool true) :: F) rest) (hf : ¬ p → wpS P ops w K n D ((d, .bool false) :: F) rest) : wpS P ops w K n D F (⟨some d, op, T, pos, af, some (j, b)⟩ :: rest) := by
  by_cases hp : p
  · exact ssg (v := .bool true) hj hg (by simpa [hp] using h) hd (ht hp)
  · exact ssg (v := .bool false) hj hg (by simpa [hp] using h) hd (hf hp)
theorem ssg_t (hj : ((ops[j]?).bind (·.dst)) = some t) (hg : fget F t = some (.bool b)) (h : Zv P w F op T (.bool (decide p)) w) (hp : p) (hd : Nat.blt d n = true) (ht : wpS P ops w K n D ((d, .bool true) :: F) rest) : wpS P ops w K n D F (⟨some d, op, T, pos, af, some (j, b)⟩ :: rest) :=
  ssg (v := .bool true) hj hg (by simpa [hp] using h) hd ht
theorem ssg_f (hj : ((ops[j]?).bind (·.dst)) = some t) (hg : fget F t = some (.bool b)) (h : Zv P w F op T (.bool (decide p)) w) (hp : ¬ p) (hd : Nat.blt d n = true) (ht : wpS P ops w K n D ((d, .bool false) :: F) rest) : wpS P ops w K n D F (⟨some d, op, T, pos, af, some (j, b)⟩ :: rest) :=
  ssg (v := .bool false) hj hg (by simpa [hp] using h) hd ht
end
end Go.Proofs.YtkemlhhpakjojaaDoor

/- io.ReadAtLeast and io.ReadFull over a reader of bytes: where there are as many bytes as are wanted, and where there are less; each by its contract. -/
set_option linter.unusedVariables false
set_option linter.unusedSimpArgs false
set_option maxRecDepth 100000
set_option maxHeartbeats 1000000
namespace Go.Proofs.YtkemlhhpakjojaaDoor
open Go Go.RowKit

theorem inv_Read (u z : Value) (w : World) : (invoke (.fn (.method "Read") #[]) #[.iface 56 u, z]).run Tryd.prog w = .ok (.enter 55 #[u, z]) w := by kernel_rfl
theorem nil_Read (a : Addr) (w : World) : (nilAhead (Tryd.prog.types.size + Made.depth) 56 (.pointer (some a)) "Read").run Tryd.prog w = .ok (some false) w := by kernel_rfl
theorem ifErr : Tryd.prog.isIface 50 = true := by kernel_rfl
theorem eqErr : EqT Tryd.prog 50 80 := eqT_of (te := 82) ifErr Tryd.underlying80 (by kernel_rfl) (by kernel_rfl)
theorem pw_lt {l ys : List Nat} {o : Nat} (hl : ∀ x ∈ l, x < 256) (hy : ∀ x ∈ ys, x < 256) : ∀ x ∈ pw l o ys, x < 256 := by
  intro x hx
  unfold pw at hx
  rcases List.mem_append.1 hx with h | h
  · rcases List.mem_append.1 h with h | h
    · exact hl x (List.mem_of_mem_take h)
    · exact hy x h
  · exact hl x (List.mem_of_mem_drop h)
theorem pw_len {l ys : List Nat} {o : Nat} (h : o + ys.length ≤ l.length) : (pw l o ys).length = l.length := by unfold pw; simp; omega

theorem c_RALok (rb db o N c b m cc : Nat) (xs l : List Nat) (T1 T2 : TypeId) (w : World) (hr : Blk w rb 74 [vS db N c, vI (o : Nat), vI (-1)]) (hD : Blk w db T1 (xs.map v8)) (hN : N ≤ xs.length) (hNm : N ≤ 1000000) (hc : N ≤ c)
    (hB : Blk w b T2 (l.map v8)) (hm : m ≤ l.length) (hmc : m ≤ cc) (h0 : 0 < m) (hle : o + m ≤ N) (h1 : rb ≠ db) (h2 : rb ≠ b) (h3 : db ≠ b) :
    Cal Tryd.prog 33 [.iface 56 (vP rb), vS b m cc, vI (m : Nat)] w fun v w' => v = vT [vI (m : Nat), .nilIface] ∧ Blk w' rb 74 [vS db N c, vI (o + m : Nat), vI (-1)] ∧ Blk w' b T2 ((pw l 0 ((xs.drop o).take m)).map v8) ∧ Keep w w' [rb, b] := by
  refine go_in' Tryd.func33 rfl Tryd.ntmps33 (Nat.le_of_ble_eq_true rfl) ?_
  refine c_seq ?_
  refine c_region ?_
  refine st (y_assign (v := vI ((0 : Nat) : Int)) rfl) rfl ?_
  refine st (y_assign rfl) rfl ?_
  refine l_nil ?_
  refine q_then ?_
  refine c_seq ?_
  refine c_seq ?_
  refine c_region ?_
  refine st (y_move rfl) rfl ?_
  refine st (y_len rfl Tryd.underlying32) rfl ?_
  refine st (y_move rfl) rfl ?_
  refine st_f (y_lt_i rfl rfl) (by omega) rfl ?_
  refine l_nil ?_
  refine q_then ?_
  refine c_false rfl rfl ?_
  refine c_skip ?_
  refine q_then ?_
  refine c_seq ?_
  refine c_block ?_
  refine c_loop (fun k : Nat => [(0, .iface 56 (vP rb)), (1, vS b m cc), (2, vI (m : Nat)), (6, vI (k : Nat)), (7, .nilIface)]) (fun k w' => (k = 0 ∧ w' = w) ∨ (k = m ∧ Blk w' rb 74 [vS db N c, vI (o + m : Nat), vI (-1)] ∧ Blk w' b T2 ((pw l 0 ((xs.drop o).take m)).map v8) ∧ Keep w w' [rb, b])) (fun k => m - k) 0 ?_ ?_ ?_
  · exact ⟨rfl, rfl, rfl, rfl, rfl, trivial⟩
  · exact .inl ⟨rfl, rfl⟩
  · rintro k w2 h4
    rcases h4 with ⟨rfl, rfl⟩ | ⟨hk, hend⟩
    · refine c_seq ?_
      refine c_seq ?_
      refine c_region ?_
      refine st (y_move rfl) rfl ?_
      refine st (y_move rfl) rfl ?_
      refine st_t (y_lt_i rfl rfl) (by omega) rfl ?_
      refine st (y_move rfl) rfl ?_
      refine stg rfl rfl (y_move rfl) rfl ?_
      refine stg rfl rfl (y_eqlI rfl ifErr) rfl ?_
      refine st (y_pickT rfl rfl) rfl ?_
      refine l_nil ?_
      refine q_then ?_
      refine c_true rfl rfl ?_
      refine c_skip ?_
      refine q_then ?_
      refine c_block ?_
      refine c_seq ?_
      refine c_region ?_
      refine st (y_assign (v := vI ((0 : Nat) : Int)) rfl) rfl ?_
      refine l_nil ?_
      refine q_then ?_
      refine c_seq ?_
      refine c_moves 14 ((fun _ => True)) (.take 0 (.take 1 (.take 2 (.take 3 (.take 4 (.take 5 (.take 6 (.one 7 (.take 8 (.take 9 (.take 10 (.take 11 (.take 12 .nil))))))))))))) mixed (by kernel_rfl) rfl (by kernel_rfl) (trivial) ?_
      show wpM _ _ _ _ _ _ _ _ _
      refine mt rfl (fun w' hS => y_move rfl) rfl rfl ?_
      refine mt rfl (fun w' hS => y_move rfl) rfl rfl ?_
      refine mt rfl (fun w' hS => y_move rfl) rfl rfl ?_
      refine mt rfl (fun w' hS => y_slice_ln rfl rfl Tryd.underlying32 sz5 (by omega) (by omega)) rfl rfl ?_
      refine mt rfl (fun w' hS => y_makeFunc rfl rfl) rfl rfl ?_
      refine mt rfl (fun w' hS => y_nilM rfl (nil_Read _ _)) rfl rfl ?_
      refine mt rfl (fun w' hS => y_move rfl) rfl rfl ?_
      refine mh rfl ?_
      have hmm : min (N - o) (m - 0) = m := by omega
      have hrd := hr.drew
      have hDd := hD.drew
      have hBd := hB.drew
      refine scM rfl rfl (inv_Read _ _ _) (c_RdSome rb db o N c b (0 + 0) (m - 0) (cc - 0) xs l T1 T2 _ hrd hDd hN (by omega) hNm hc hBd (by omega) h1 h2 h3) rfl ?_
      rw [hmm]
      rintro _ w4 ⟨rfl, hr4, hB4, hK4⟩
      refine l_nil ?_
      refine mh_end (trivial) ?_
      refine mt rfl (fun w' hS => y_move rfl) rfl rfl ?_
      refine mt rfl (fun w' hS => y_extract rfl rfl) rfl rfl ?_
      refine mt rfl (fun w' hS => y_extract rfl rfl) rfl rfl ?_
      refine mt rfl (fun w' hS => y_assign rfl) rfl rfl ?_
      refine mt rfl (fun w' hS => y_assign rfl) rfl rfl ?_
      refine m_nil ?_
      refine q_then ?_
      refine c_region ?_
      refine st (y_move rfl) rfl ?_
      refine st (y_move rfl) rfl ?_
      first | refine st (y_add_in rfl rfl (by omega)) rfl ?_ | refine st (y_add_i rfl rfl (by omega) (by omega)) rfl ?_
      refine st (y_assign rfl) rfl ?_
      refine l_nil ?_
      refine q_block ?_
      exact q_round m ⟨rfl, rfl, rfl, by rw [Nat.zero_add]; rfl, rfl, trivial⟩ (.inr ⟨rfl, hr4, hB4, (Keep.drew w2 [rb, b]).trans hK4 (by simp)⟩) (by omega)
    ·
      have hk' := hk.symm
      subst hk'
      refine c_seq ?_
      refine c_seq ?_
      refine c_region ?_
      refine st (y_move rfl) rfl ?_
      refine st (y_move rfl) rfl ?_
      refine st_f (y_lt_i rfl rfl) (by omega) rfl ?_
      refine st (y_move rfl) rfl ?_
      refine sno rfl rfl rfl rfl ?_
      refine sno rfl rfl rfl rfl ?_
      refine st (y_pickF rfl rfl) rfl ?_
      refine l_nil ?_
      refine q_then ?_
      refine c_false rfl rfl ?_
      refine c_exit ?_
      refine q_then_exit ?_
      refine q_then_exit ?_
      refine q_block_hit ?_
      refine q_then ?_
      refine c_seq ?_
      refine c_seq ?_
      refine c_region ?_
      refine st (y_move rfl) rfl ?_
      refine st (y_move rfl) rfl ?_
      refine st_t (y_ge_i rfl rfl) (by omega) rfl ?_
      refine l_nil ?_
      refine q_then ?_
      refine c_true rfl rfl ?_
      refine c_region ?_
      refine st (y_assign rfl) rfl ?_
      refine l_nil ?_
      refine q_then ?_
      refine c_ret ?_
      refine q_end2 (.inl rfl) rfl rfl rfl ?_
      exact ⟨_, rfl, rfl, hend⟩

theorem c_RALerr (rb o N c b m cc B : Nat) (A : Option Addr) (db : Nat) (xs l : List Nat) (T1 T2 : TypeId) (e1 e2 : Addr) (w : World) (hr : Blk w rb 74 [.slice A N c, vI (o : Nat), vI (-1)]) (hoN : o ≤ N) (hD : o < N → A = some ⟨db, 0, none⟩ ∧ Blk w db T1 (xs.map v8) ∧ N ≤ xs.length ∧ N ≤ c ∧ rb ≠ db ∧ db ≠ b) (hx8 : ∀ x ∈ xs, x < 256) (hNm : N ≤ 100000)
    (hB : Blk w b T2 (l.map v8)) (hl8 : ∀ x ∈ l, x < 256) (hm : m ≤ l.length) (hmc : m ≤ cc) (hlt : N < o + m) (hmm : m ≤ 100000) (h2 : rb ≠ b) (hE1 : Sen B w 1 80 e1) (hE2 : Sen B w 2 80 e2) (hrB : B ≤ rb) (hbB : B ≤ b) :
    Cal Tryd.prog 33 [.iface 56 (vP rb), vS b m cc, vI (m : Nat)] w fun v w' => ∃ e, (e = e1 ∨ e = e2) ∧ v = vT [vI (N - o : Nat), .iface 80 (.pointer (some e))] ∧ (∃ l' : List Nat, l'.length = l.length ∧ (∀ x ∈ l', x < 256) ∧ Blk w' b T2 (l'.map v8)) ∧ Keep w w' [rb, b] := by
  obtain ⟨R, hR⟩ : ∃ R, N - o = R := ⟨_, rfl⟩
  rw [hR]
  have hkB : ∀ i, i ∈ [rb, b] → B ≤ i := by
    intro i hi
    simp only [List.mem_cons, List.not_mem_nil, or_false] at hi
    omega
  refine go_in' Tryd.func33 rfl Tryd.ntmps33 (Nat.le_of_ble_eq_true rfl) ?_
  refine c_seq ?_
  refine c_region ?_
  refine st (y_assign (v := vI ((0 : Nat) : Int)) rfl) rfl ?_
  refine st (y_assign rfl) rfl ?_
  refine l_nil ?_
  refine q_then ?_
  refine c_seq ?_
  refine c_seq ?_
  refine c_region ?_
  refine st (y_move rfl) rfl ?_
  refine st (y_len rfl Tryd.underlying32) rfl ?_
  refine st (y_move rfl) rfl ?_
  refine st_f (y_lt_i rfl rfl) (by omega) rfl ?_
  refine l_nil ?_
  refine q_then ?_
  refine c_false rfl rfl ?_
  refine c_skip ?_
  refine q_then ?_
  refine c_seq ?_
  refine c_block ?_
  refine c_loop (fun x : Nat × Nat × Value => [(0, .iface 56 (vP rb)), (1, vS b m cc), (2, vI (m : Nat)), (6, vI (x.2.1 : Nat)), (7, x.2.2)]) (fun x w' => Keep w w' [rb, b] ∧ (∃ l' : List Nat, l'.length = l.length ∧ (∀ x ∈ l', x < 256) ∧ Blk w' b T2 (l'.map v8)) ∧ ((x.1 = 0 ∧ x.2.1 = 0 ∧ x.2.2 = .nilIface ∧ w' = w) ∨ (x.1 = 1 ∧ x.2.1 = R ∧ x.2.2 = .nilIface ∧ Blk w' rb 74 [.slice A N c, vI (N : Nat), vI (-1)]) ∨ (x.1 = 2 ∧ x.2.1 = R ∧ x.2.2 = .iface 80 (.pointer (some e1))))) (fun x => 2 - x.1) (0, 0, .nilIface) ?_ ?_ ?_
  · exact ⟨rfl, rfl, rfl, rfl, rfl, trivial⟩
  · exact ⟨Keep.refl _ _, ⟨l, rfl, hl8, hB⟩, .inl ⟨rfl, rfl, rfl, rfl⟩⟩
  · rintro ⟨st', k, er⟩ w2 ⟨hK2, ⟨l2, hl2, hl28, hB2⟩, h4⟩
    simp only at h4 ⊢
    have hE1' := hE1.keep hK2 hkB
    have hE2' := hE2.keep hK2 hkB
    rcases h4 with ⟨hs, hk, he, hw⟩ | ⟨hs, hk, he, hr2⟩ | ⟨hs, hk, he⟩
    · subst hs; subst hk; subst he; subst hw
      refine c_seq ?_
      refine c_seq ?_
      refine c_region ?_
      refine st (y_move rfl) rfl ?_
      refine st (y_move rfl) rfl ?_
      refine st_t (y_lt_i rfl rfl) (by omega) rfl ?_
      refine st (y_move rfl) rfl ?_
      refine stg rfl rfl (y_move rfl) rfl ?_
      refine stg rfl rfl (y_eqlI rfl ifErr) rfl ?_
      refine st (y_pickT rfl rfl) rfl ?_
      refine l_nil ?_
      refine q_then ?_
      refine c_true rfl rfl ?_
      refine c_skip ?_
      refine q_then ?_
      refine c_block ?_
      refine c_seq ?_
      refine c_region ?_
      refine st (y_assign (v := vI ((0 : Nat) : Int)) rfl) rfl ?_
      refine l_nil ?_
      refine q_then ?_
      refine c_seq ?_
      refine c_moves 14 ((fun _ => True)) (.take 0 (.take 1 (.take 2 (.take 3 (.take 4 (.take 5 (.take 6 (.one 7 (.take 8 (.take 9 (.take 10 (.take 11 (.take 12 .nil))))))))))))) mixed (by kernel_rfl) rfl (by kernel_rfl) (trivial) ?_
      show wpM _ _ _ _ _ _ _ _ _
      refine mt rfl (fun w' hS => y_move rfl) rfl rfl ?_
      refine mt rfl (fun w' hS => y_move rfl) rfl rfl ?_
      refine mt rfl (fun w' hS => y_move rfl) rfl rfl ?_
      refine mt rfl (fun w' hS => y_slice_ln rfl rfl Tryd.underlying32 sz5 (by omega) (by omega)) rfl rfl ?_
      refine mt rfl (fun w' hS => y_makeFunc rfl rfl) rfl rfl ?_
      refine mt rfl (fun w' hS => y_nilM rfl (nil_Read _ _)) rfl rfl ?_
      refine mt rfl (fun w' hS => y_move rfl) rfl rfl ?_
      refine mh rfl ?_
      have hrd := hr.drew
      have hBd := hB.drew
      rcases Nat.lt_or_ge o N with hoN2 | hoN2
      · obtain ⟨rfl, hDD, hN, hc, h1, h3⟩ := hD hoN2
        have hDd := hDD.drew
        have hmR : min (N - o) (m - 0) = R := by omega
        refine scM rfl rfl (inv_Read _ _ _) (c_RdSome rb db o N c b (0 + 0) (m - 0) (cc - 0) xs l T1 T2 _ hrd hDd hN (by omega) (by omega) hc hBd (by omega) h1 h2 h3) rfl ?_
        rw [hmR, show o + R = N by omega]
        rintro _ w4 ⟨rfl, hr4, hB4, hK4⟩
        refine l_nil ?_
        refine mh_end (trivial) ?_
        refine mt rfl (fun w' hS => y_move rfl) rfl rfl ?_
        refine mt rfl (fun w' hS => y_extract rfl rfl) rfl rfl ?_
        refine mt rfl (fun w' hS => y_extract rfl rfl) rfl rfl ?_
        refine mt rfl (fun w' hS => y_assign rfl) rfl rfl ?_
        refine mt rfl (fun w' hS => y_assign rfl) rfl rfl ?_
        refine m_nil ?_
        refine q_then ?_
        refine c_region ?_
        refine st (y_move rfl) rfl ?_
        refine st (y_move rfl) rfl ?_
        first | refine st (y_add_in rfl rfl (by omega)) rfl ?_ | refine st (y_add_i rfl rfl (by omega) (by omega)) rfl ?_
        refine st (y_assign rfl) rfl ?_
        refine l_nil ?_
        refine q_block ?_
        have hyl : ((xs.drop o).take R).length = R := by rw [List.length_take, List.length_drop]; omega
        exact q_round (1, R, .nilIface) ⟨rfl, rfl, rfl, by simp only [Nat.zero_add]; rfl, rfl, trivial⟩ ⟨(Keep.drew w2 [rb, b]).trans hK4 (by simp), ⟨_, pw_len (by omega), pw_lt hl8 (fun x hx => hx8 x (List.mem_of_mem_drop (List.mem_of_mem_take hx))), hB4⟩, .inr (.inl ⟨rfl, rfl, rfl, hr4⟩)⟩ (by simp only; omega)
      ·
        have hR0 : R = 0 := by omega
        refine scM rfl rfl (inv_Read _ _ _) (c_RdEnd rb o N c B A (some ⟨b, 0 + 0, none⟩) (m - 0) (cc - 0) e1 _ hrd hoN2 (by omega) (hE1.keep (Keep.drew w2 []) (by simp))) rfl ?_
        rintro _ w4 ⟨rfl, hK4⟩
        refine l_nil ?_
        refine mh_end (trivial) ?_
        refine mt rfl (fun w' hS => y_move rfl) rfl rfl ?_
        refine mt rfl (fun w' hS => y_extract rfl rfl) rfl rfl ?_
        refine mt rfl (fun w' hS => y_extract rfl rfl) rfl rfl ?_
        refine mt rfl (fun w' hS => y_assign rfl) rfl rfl ?_
        refine mt rfl (fun w' hS => y_assign rfl) rfl rfl ?_
        refine m_nil ?_
        refine q_then ?_
        refine c_region ?_
        refine st (y_move rfl) rfl ?_
        refine st (y_move rfl) rfl ?_
        first | refine st (y_add_in rfl rfl (by omega)) rfl ?_ | refine st (y_add_i rfl rfl (by omega) (by omega)) rfl ?_
        refine st (y_assign rfl) rfl ?_
        refine l_nil ?_
        refine q_block ?_
        have hK24 := (Keep.drew w2 []).trans hK4 (by simp)
        exact q_round (2, R, _) ⟨rfl, rfl, rfl, by rw [hR0]; rfl, rfl, trivial⟩ ⟨hK24.mono (fun i hi => by cases hi), ⟨l, rfl, hl8, hB.keep hK24 (by simp)⟩, .inr (.inr ⟨rfl, rfl, rfl⟩)⟩ (by simp only; omega)
    ·
      subst hs; subst hk; subst he
      refine c_seq ?_
      refine c_seq ?_
      refine c_region ?_
      refine st (y_move rfl) rfl ?_
      refine st (y_move rfl) rfl ?_
      refine st_t (y_lt_i rfl rfl) (by omega) rfl ?_
      refine st (y_move rfl) rfl ?_
      refine stg rfl rfl (y_move rfl) rfl ?_
      refine stg rfl rfl (y_eqlI rfl ifErr) rfl ?_
      refine st (y_pickT rfl rfl) rfl ?_
      refine l_nil ?_
      refine q_then ?_
      refine c_true rfl rfl ?_
      refine c_skip ?_
      refine q_then ?_
      refine c_block ?_
      refine c_seq ?_
      refine c_region ?_
      refine st (y_assign (v := vI ((0 : Nat) : Int)) rfl) rfl ?_
      refine l_nil ?_
      refine q_then ?_
      refine c_seq ?_
      refine c_moves 14 ((fun _ => True)) (.take 0 (.take 1 (.take 2 (.take 3 (.take 4 (.take 5 (.take 6 (.one 7 (.take 8 (.take 9 (.take 10 (.take 11 (.take 12 .nil))))))))))))) mixed (by kernel_rfl) rfl (by kernel_rfl) (trivial) ?_
      show wpM _ _ _ _ _ _ _ _ _
      refine mt rfl (fun w' hS => y_move rfl) rfl rfl ?_
      refine mt rfl (fun w' hS => y_move rfl) rfl rfl ?_
      refine mt rfl (fun w' hS => y_move rfl) rfl rfl ?_
      refine mt rfl (fun w' hS => y_slice_ln rfl rfl Tryd.underlying32 sz5 (by omega) (by omega)) rfl rfl ?_
      refine mt rfl (fun w' hS => y_makeFunc rfl rfl) rfl rfl ?_
      refine mt rfl (fun w' hS => y_nilM rfl (nil_Read _ _)) rfl rfl ?_
      refine mt rfl (fun w' hS => y_move rfl) rfl rfl ?_
      refine mh rfl ?_
      have hrd := hr2.drew
      refine scM rfl rfl (inv_Read _ _ _) (c_RdEnd rb N N c B A _ _ _ e1 _ hrd (Nat.le_refl _) (by omega) (hE1'.keep (Keep.drew w2 []) (by simp))) rfl ?_
      rintro _ w4 ⟨rfl, hK4⟩
      refine l_nil ?_
      refine mh_end (trivial) ?_
      refine mt rfl (fun w' hS => y_move rfl) rfl rfl ?_
      refine mt rfl (fun w' hS => y_extract rfl rfl) rfl rfl ?_
      refine mt rfl (fun w' hS => y_extract rfl rfl) rfl rfl ?_
      refine mt rfl (fun w' hS => y_assign rfl) rfl rfl ?_
      refine mt rfl (fun w' hS => y_assign rfl) rfl rfl ?_
      refine m_nil ?_
      refine q_then ?_
      refine c_region ?_
      refine st (y_move rfl) rfl ?_
      refine st (y_move rfl) rfl ?_
      first | refine st (y_add_in rfl rfl (by omega)) rfl ?_ | refine st (y_add_i rfl rfl (by omega) (by omega)) rfl ?_
      refine st (y_assign rfl) rfl ?_
      refine l_nil ?_
      refine q_block ?_
      have hK24 := (Keep.drew w2 []).trans hK4 (by simp)
      exact q_round (2, k, _) ⟨rfl, rfl, rfl, rfl, rfl, trivial⟩ ⟨hK2.trans hK24 (by simp), ⟨l2, hl2, hl28, hB2.keep hK24 (by simp)⟩, .inr (.inr ⟨rfl, rfl, rfl⟩)⟩ (by simp only; omega)
    ·
      subst hs; subst hk; subst he
      have hkm : k < m := by omega
      have hc1 := hE1'.cell
      have hc2 := hE2'.cell
      refine c_seq ?_
      refine c_seq ?_
      refine c_region ?_
      refine st (y_move rfl) rfl ?_
      refine st (y_move rfl) rfl ?_
      refine st_t (y_lt_i rfl rfl) (by omega) rfl ?_
      refine st (y_move rfl) rfl ?_
      refine stg rfl rfl (y_move rfl) rfl ?_
      refine stg rfl rfl (y_eqlV rfl ifErr) rfl ?_
      refine st (y_pickT rfl rfl) rfl ?_
      refine l_nil ?_
      refine q_then ?_
      refine c_false rfl rfl ?_
      refine c_exit ?_
      refine q_then_exit ?_
      refine q_then_exit ?_
      refine q_block_hit ?_
      refine q_then ?_
      refine c_seq ?_
      refine c_seq ?_
      refine c_region ?_
      refine st (y_move rfl) rfl ?_
      refine st (y_move rfl) rfl ?_
      refine st_f (y_ge_i rfl rfl) (by omega) rfl ?_
      refine l_nil ?_
      refine q_then ?_
      refine c_false rfl rfl ?_
      refine c_seq ?_
      refine c_region ?_
      refine st (y_move rfl) rfl ?_
      refine st_if (y_gt_i (b := 0) rfl rfl) rfl (fun h0 => ?_) (fun h0 => ?_)
      · refine st (y_move rfl) rfl ?_
        refine stg rfl rfl (y_move rfl) rfl ?_
        refine stg rfl rfl (y_load rfl one50 hc1) rfl ?_
        refine stg rfl rfl (y_eqPS rfl rfl eqErr) rfl ?_
        refine st (y_pickT rfl rfl) rfl ?_
        refine l_nil ?_
        refine q_then ?_
        refine c_true rfl rfl ?_
        refine c_region ?_
        refine st (y_load rfl one50 hc2) rfl ?_
        refine st (y_assign rfl) rfl ?_
        refine l_nil ?_
        refine q_then ?_
        refine c_ret ?_
        refine q_end2 (.inl rfl) rfl rfl rfl ?_
        exact ⟨_, rfl, e2, .inr rfl, rfl, ⟨l2, hl2, hl28, hB2⟩, hK2⟩
      ·
        refine st (y_move rfl) rfl ?_
        refine sno rfl rfl rfl rfl ?_
        refine sno rfl rfl rfl rfl ?_
        refine sno rfl rfl rfl rfl ?_
        refine st (y_pickF rfl rfl) rfl ?_
        refine l_nil ?_
        refine q_then ?_
        refine c_false rfl rfl ?_
        refine c_skip ?_
        refine q_then ?_
        refine c_ret ?_
        refine q_end2 (.inl rfl) rfl rfl rfl ?_
        exact ⟨_, rfl, e1, .inl rfl, rfl, ⟨l2, hl2, hl28, hB2⟩, hK2⟩

theorem c_RFok (rb db o N c b m cc : Nat) (xs l : List Nat) (T1 T2 : TypeId) (w : World) (hr : Blk w rb 74 [vS db N c, vI (o : Nat), vI (-1)]) (hD : Blk w db T1 (xs.map v8)) (hN : N ≤ xs.length) (hNm : N ≤ 1000000) (hc : N ≤ c)
    (hB : Blk w b T2 (l.map v8)) (hm : m ≤ l.length) (hmc : m ≤ cc) (h0 : 0 < m) (hle : o + m ≤ N) (h1 : rb ≠ db) (h2 : rb ≠ b) (h3 : db ≠ b) :
    Cal Tryd.prog 22 [.iface 56 (vP rb), vS b m cc] w fun v w' => v = vT [vI (m : Nat), .nilIface] ∧ Blk w' rb 74 [vS db N c, vI (o + m : Nat), vI (-1)] ∧ Blk w' b T2 ((pw l 0 ((xs.drop o).take m)).map v8) ∧ Keep w w' [rb, b] := by
  refine go_in' Tryd.func22 rfl Tryd.ntmps22 (Nat.le_of_ble_eq_true rfl) ?_
  refine c_seq ?_
  refine c_region ?_
  refine st (y_assign (v := vI ((0 : Nat) : Int)) rfl) rfl ?_
  refine st (y_assign rfl) rfl ?_
  refine l_nil ?_
  refine q_then ?_
  refine c_seq ?_
  refine c_region ?_
  refine st (y_move rfl) rfl ?_
  refine st (y_move rfl) rfl ?_
  refine st (y_move rfl) rfl ?_
  refine st (y_len rfl Tryd.underlying32) rfl ?_
  refine sc rfl rfl isfn33 (c_RALok rb db o N c b m cc xs l T1 T2 w hr hD hN hNm hc hB hm hmc h0 hle h1 h2 h3) rfl ?_
  rintro _ w2 ⟨rfl, hr2, hB2, hK2⟩
  refine st (y_extract rfl rfl) rfl ?_
  refine st (y_extract rfl rfl) rfl ?_
  refine st (y_assign rfl) rfl ?_
  refine st (y_assign rfl) rfl ?_
  refine l_nil ?_
  refine q_then ?_
  refine c_ret ?_
  refine q_end2 (.inl rfl) rfl rfl rfl ?_
  exact ⟨_, rfl, rfl, hr2, hB2, hK2⟩

theorem c_RFerr (rb o N c b m cc B : Nat) (A : Option Addr) (db : Nat) (xs l : List Nat) (T1 T2 : TypeId) (e1 e2 : Addr) (w : World) (hr : Blk w rb 74 [.slice A N c, vI (o : Nat), vI (-1)]) (hoN : o ≤ N) (hD : o < N → A = some ⟨db, 0, none⟩ ∧ Blk w db T1 (xs.map v8) ∧ N ≤ xs.length ∧ N ≤ c ∧ rb ≠ db ∧ db ≠ b) (hx8 : ∀ x ∈ xs, x < 256) (hNm : N ≤ 100000)
    (hB : Blk w b T2 (l.map v8)) (hl8 : ∀ x ∈ l, x < 256) (hm : m ≤ l.length) (hmc : m ≤ cc) (hlt : N < o + m) (hmm : m ≤ 100000) (h2 : rb ≠ b) (hE1 : Sen B w 1 80 e1) (hE2 : Sen B w 2 80 e2) (hrB : B ≤ rb) (hbB : B ≤ b) :
    Cal Tryd.prog 22 [.iface 56 (vP rb), vS b m cc] w fun v w' => ∃ e, (e = e1 ∨ e = e2) ∧ v = vT [vI (N - o : Nat), .iface 80 (.pointer (some e))] ∧ (∃ l' : List Nat, l'.length = l.length ∧ (∀ x ∈ l', x < 256) ∧ Blk w' b T2 (l'.map v8)) ∧ Keep w w' [rb, b] := by
  refine go_in' Tryd.func22 rfl Tryd.ntmps22 (Nat.le_of_ble_eq_true rfl) ?_
  refine c_seq ?_
  refine c_region ?_
  refine st (y_assign (v := vI ((0 : Nat) : Int)) rfl) rfl ?_
  refine st (y_assign rfl) rfl ?_
  refine l_nil ?_
  refine q_then ?_
  refine c_seq ?_
  refine c_region ?_
  refine st (y_move rfl) rfl ?_
  refine st (y_move rfl) rfl ?_
  refine st (y_move rfl) rfl ?_
  refine st (y_len rfl Tryd.underlying32) rfl ?_
  refine sc rfl rfl isfn33 (c_RALerr rb o N c b m cc B A db xs l T1 T2 e1 e2 w hr hoN hD hx8 hNm hB hl8 hm hmc hlt hmm h2 hE1 hE2 hrB hbB) rfl ?_
  rintro _ w2 ⟨e, he, rfl, hl', hK2⟩
  refine st (y_extract rfl rfl) rfl ?_
  refine st (y_extract rfl rfl) rfl ?_
  refine st (y_assign rfl) rfl ?_
  refine st (y_assign rfl) rfl ?_
  refine l_nil ?_
  refine q_then ?_
  refine c_ret ?_
  refine q_end2 (.inl rfl) rfl rfl rfl ?_
  exact ⟨_, rfl, e, he, rfl, hl', hK2⟩

end Go.Proofs.YtkemlhhpakjojaaDoor

/- readUint64Array over a reader of bytes: where there are as many bytes as are wanted, where there are less, and for no words; each by its contract. -/
set_option linter.unusedVariables false
set_option linter.unusedSimpArgs false
set_option maxRecDepth 100000
set_option maxHeartbeats 1000000
namespace Go.Proofs.YtkemlhhpakjojaaDoor
open Go Go.RowKit

theorem pw_zero {m : Nat} {ys : List Nat} : pw (List.replicate m 0) 0 ys = ys ++ List.replicate (m - ys.length) 0 := by
  unfold pw
  rw [List.take_zero, List.nil_append, Nat.zero_add, List.drop_replicate]
theorem set_word {ws : List Nat} {n k : Nat} (hn : ws.length = n) (hk : k < n) : (ws.take k ++ List.replicate (n - k) 0).set k (ws.getD k 0) = ws.take (k + 1) ++ List.replicate (n - (k + 1)) 0 := by
  obtain ⟨m, hm⟩ : ∃ m, n - k = m + 1 := ⟨n - k - 1, by omega⟩
  have hl : (ws.take k).length = k := by rw [List.length_take]; omega
  rw [List.set_append_right _ _ (by omega), hl, Nat.sub_self, hm, List.replicate_succ, List.set_cons_zero, show n - (k + 1) = m by omega, List.take_add_one, List.getElem?_eq_getElem (by omega), List.append_assoc, List.getD_eq_getElem?_getD, List.getElem?_eq_getElem (by omega)]
  rfl

theorem c_rU64zero (rb c : Nat) (A : Option Addr) (w : World) :
    Cal Tryd.prog 26 [.iface 56 (vP rb), .slice A 0 c] w fun v w' => v = .nilIface ∧ Keep w w' [] := by
  refine go_in' Tryd.func26 rfl Tryd.ntmps26 (Nat.le_of_ble_eq_true rfl) ?_
  refine c_seq ?_
  refine c_region ?_
  refine st (y_assign rfl) rfl ?_
  refine l_nil ?_
  refine q_then ?_
  refine c_seq ?_
  refine c_region ?_
  refine st (y_move rfl) rfl ?_
  refine st (y_len rfl Tryd.underlying42) rfl ?_
  refine st (y_assign rfl) rfl ?_
  refine l_nil ?_
  refine q_then ?_
  refine c_seq ?_
  refine c_region ?_
  refine st (y_assign (v := vI ((128 : Nat) : Int)) rfl) rfl ?_
  refine l_nil ?_
  refine q_then ?_
  refine c_seq ?_
  refine c_region ?_
  refine st (y_move rfl) rfl ?_
  first | refine st (y_mul_in (b := 8) rfl rfl (by omega)) rfl ?_ | refine st (y_mul_i (b := 8) rfl rfl (by omega) (by omega)) rfl ?_
  refine mk32 rfl rfl (by omega) (by omega) rfl ?_
  intro b6 w1 hb6 hB6 hK1 hS1
  refine st (y_assign rfl) rfl ?_
  refine l_nil ?_
  refine q_then ?_
  refine c_seq ?_
  refine c_seq ?_
  refine c_region ?_
  refine st (y_assign (v := vI ((0 : Nat) : Int)) rfl) rfl ?_
  refine l_nil ?_
  refine q_then ?_
  refine c_block ?_
  refine c_loop (fun _ : Unit => [(5, vI ((0 : Nat) : Int)), (8, vI ((0 : Nat) : Int))]) (fun _ w' => w' = w1) (fun _ => 0) () ?_ ?_ ?_
  · exact ⟨rfl, rfl, trivial⟩
  · rfl
  · rintro _ w2 rfl
    refine c_seq ?_
    refine c_seq ?_
    refine c_region ?_
    refine st (y_move rfl) rfl ?_
    refine st (y_move rfl) rfl ?_
    refine st_f (y_lt_i rfl rfl) (by omega) rfl ?_
    refine l_nil ?_
    refine q_then ?_
    refine c_false rfl rfl ?_
    refine c_exit ?_
    refine q_then_exit ?_
    refine q_then_exit ?_
    refine q_block_hit ?_
    refine q_then ?_
    refine c_seq ?_
    refine c_region ?_
    refine st (y_assign rfl) rfl ?_
    refine l_nil ?_
    refine q_then ?_
    refine c_ret ?_
    refine q_end1 (.inl rfl) rfl rfl ?_
    exact ⟨_, rfl, rfl, hK1⟩

theorem c_rU64ok (rb db o N c q n : Nat) (xs ws : List Nat) (T1 : TypeId) (w : World) (hr : Blk w rb 74 [vS db N c, vI (o : Nat), vI (-1)]) (hD : Blk w db T1 (xs.map v8)) (hN : N ≤ xs.length) (hNm : N ≤ 1000000) (hc : N ≤ c)
    (hq : Blk w q 43 ((List.replicate n 0).map vU)) (hn0 : 0 < n) (hn : n ≤ 101) (hle : o + 8 * n ≤ N) (hwn : ws.length = n) (hw64 : ∀ x ∈ ws, x < 18446744073709551616) (hx : (xs.drop o).take (8 * n) = byt ws) (h1 : rb ≠ db) (h2 : rb ≠ q) (h3 : db ≠ q) :
    Cal Tryd.prog 26 [.iface 56 (vP rb), vS q n n] w fun v w' => v = .nilIface ∧ Blk w' q 43 (ws.map vU) ∧ Keep w w' [rb, q] := by
  have hrl := hr.lt
  have hql := hq.lt
  have hdl := hD.lt
  have hbl := byt_len ws
  refine go_in' Tryd.func26 rfl Tryd.ntmps26 (Nat.le_of_ble_eq_true rfl) ?_
  refine c_seq ?_
  refine c_region ?_
  refine st (y_assign rfl) rfl ?_
  refine l_nil ?_
  refine q_then ?_
  refine c_seq ?_
  refine c_region ?_
  refine st (y_move rfl) rfl ?_
  refine st (y_len rfl Tryd.underlying42) rfl ?_
  refine st (y_assign rfl) rfl ?_
  refine l_nil ?_
  refine q_then ?_
  refine c_seq ?_
  refine c_region ?_
  refine st (y_assign (v := vI ((128 : Nat) : Int)) rfl) rfl ?_
  refine l_nil ?_
  refine q_then ?_
  refine c_seq ?_
  refine c_region ?_
  refine st (y_move rfl) rfl ?_
  first | refine st (y_mul_in (b := 8) rfl rfl (by omega)) rfl ?_ | refine st (y_mul_i (b := 8) rfl rfl (by omega) (by omega)) rfl ?_
  refine mk32 rfl rfl (by omega) (by omega) rfl ?_
  intro b6 w1 hb6 hB6 hK1 hS1
  have hB6' : Blk w1 b6 5 ((List.replicate 1024 0).map v8) := by simpa using hB6
  clear hB6
  refine st (y_assign rfl) rfl ?_
  refine l_nil ?_
  refine q_then ?_
  refine c_seq ?_
  refine c_seq ?_
  refine c_region ?_
  refine st (y_assign (v := vI ((0 : Nat) : Int)) rfl) rfl ?_
  refine l_nil ?_
  refine q_then ?_
  refine c_block ?_
  refine c_loop (fun x : Nat × Nat => [(0, .iface 56 (vP rb)), (1, vS q n n), (5, vI (n : Nat)), (6, vI ((128 : Nat) : Int)), (7, vS b6 x.2 1024), (8, vI (x.1 : Nat))]) (fun x w' => (x.1 = 0 ∧ x.2 = 1024 ∧ w' = w1) ∨ (x.1 = 128 ∧ Blk w' q 43 (ws.map vU) ∧ Keep w w' [rb, q])) (fun x => 128 - x.1) (0, 1024) ?_ ?_ ?_
  · exact ⟨rfl, rfl, rfl, rfl, rfl, rfl, trivial⟩
  · exact .inl ⟨rfl, rfl, rfl⟩
  · rintro ⟨i, bl⟩ w2 h4
    simp only at h4 ⊢
    rcases h4 with ⟨rfl, rfl, rfl⟩ | ⟨rfl, hend⟩
    · have hr2 := hr.keep hK1 (by simp)
      have hD2 := hD.keep hK1 (by simp)
      have hq2 := hq.keep hK1 (by simp)
      refine c_seq ?_
      refine c_seq ?_
      refine c_region ?_
      refine st (y_move rfl) rfl ?_
      refine st (y_move rfl) rfl ?_
      refine st_t (y_lt_i rfl rfl) (by omega) rfl ?_
      refine l_nil ?_
      refine q_then ?_
      refine c_true rfl rfl ?_
      refine c_skip ?_
      refine q_then ?_
      refine c_seq ?_
      refine c_block ?_
      refine c_seq ?_
      refine c_region ?_
      refine st (y_move rfl) rfl ?_
      refine st (y_move rfl) rfl ?_
      first | refine st (y_add_in rfl rfl (by omega)) rfl ?_ | refine st (y_add_i rfl rfl (by omega) (by omega)) rfl ?_
      refine st (y_assign rfl) rfl ?_
      refine l_nil ?_
      refine q_then ?_
      refine c_seq ?_
      refine c_seq ?_
      refine c_region ?_
      refine st (y_move rfl) rfl ?_
      refine st (y_move rfl) rfl ?_
      refine st_t (y_gt_i rfl rfl) (by omega) rfl ?_
      refine l_nil ?_
      refine q_then ?_
      refine c_true rfl rfl ?_
      refine c_seq ?_
      refine c_region ?_
      refine st (y_move rfl) rfl ?_
      refine st (y_assign rfl) rfl ?_
      refine l_nil ?_
      refine q_then ?_
      refine c_region ?_
      refine st (y_move rfl) rfl ?_
      refine st (y_move rfl) rfl ?_
      refine st (y_move rfl) rfl ?_
      refine st (y_sub_i (b := ((0 : Nat) : Int)) rfl rfl (by omega) (by omega)) rfl ?_
      rw [show (n : Int) - ((0 : Nat) : Int) = (n : Int) by omega]
      first | refine st (y_mul_in (a := 8) rfl rfl (by omega)) rfl ?_ | refine st (y_mul_i (a := 8) rfl rfl (by omega) (by omega)) rfl ?_
      refine st (y_slice_h rfl rfl Tryd.underlying32 sz5 (by omega)) rfl ?_
      refine st (y_assign rfl) rfl ?_
      refine l_nil ?_
      refine q_then ?_
      refine c_seq ?_
      refine c_region ?_
      refine st (y_move rfl) rfl ?_
      refine st (y_move rfl) rfl ?_
      refine st (y_move rfl) rfl ?_
      refine st (y_slice_0h rfl rfl rfl Tryd.underlying42 sz43 (Nat.le_refl _)) rfl ?_
      refine st (y_assign rfl) rfl ?_
      refine l_nil ?_
      refine q_then ?_
      refine c_seq ?_
      refine c_seq ?_
      refine c_region ?_
      refine st (y_move rfl) rfl ?_
      refine st (y_move rfl) rfl ?_
      refine sc rfl rfl isfn22 (c_RFok rb db o N c b6 (8 * n) 1024 xs (List.replicate 1024 0) T1 _ _ hr2 hD2 hN hNm hc hB6' (by rw [List.length_replicate]; omega) (by omega) (by omega) hle h1 (by omega) (by omega)) rfl ?_
      rintro _ w3 ⟨rfl, hr3, hB3, hK3⟩
      rw [hx, pw_zero, hbl, hwn] at hB3
      obtain ⟨Z, hZ⟩ : ∃ Z, byt ws ++ List.replicate (1024 - 8 * n) 0 = Z := ⟨_, rfl⟩
      have hZl : Z.length = 1024 := by rw [← hZ, List.length_append, hbl, List.length_replicate]; omega
      have hZ8 : ∀ x ∈ Z, x < 256 := by
        intro x hx
        rw [← hZ] at hx
        rcases List.mem_append.1 hx with h | h
        · exact byt_lt ws x h
        · have := List.eq_of_mem_replicate h; omega
      have hZg : ∀ k, k < n → un8 Z (0 + 8 * k) = ws.getD k 0 := fun k hk => by
        refine un8_byt hw64 (by omega) fun t ht => ?_
        rw [Nat.zero_add, ← hZ, List.getD_eq_getElem?_getD, List.getElem?_append_left (by omega), ← List.getD_eq_getElem?_getD]
      rw [hZ] at hB3
      have hq3 := hq2.keep hK3 (by simp only [List.mem_cons, List.not_mem_nil, or_false]; omega)
      have hK13 : Keep w w3 [rb, q] := (hK1.mono (fun i hi => by cases hi)).trans hK3 (fun i hi => by simp only [List.mem_cons, List.not_mem_nil, or_false] at hi ⊢; omega)
      refine st (y_move rfl) rfl ?_
      refine st (y_extract rfl rfl) rfl ?_
      refine st (y_extract rfl rfl) rfl ?_
      refine st (y_assign rfl) rfl ?_
      refine st (y_assign rfl) rfl ?_
      refine l_nil ?_
      refine q_then ?_
      refine c_seq ?_
      refine c_region ?_
      refine st (y_move rfl) rfl ?_
      refine st (y_neqI rfl ifErr) rfl ?_
      refine l_nil ?_
      refine q_then ?_
      refine c_false rfl rfl ?_
      refine c_skip ?_
      refine q_then ?_
      refine c_seq ?_
      refine c_region ?_
      refine st (y_move rfl) rfl ?_
      refine st (y_len rfl Tryd.underlying42) rfl ?_
      refine st (y_move (v := vI ((0 : Nat) : Int)) rfl) rfl ?_
      refine l_nil ?_
      refine q_then ?_
      refine c_block ?_
      refine c_loop (fun k : Nat => [(0, .iface 56 (vP rb)), (1, vS q n n), (5, vI (n : Nat)), (6, vI ((128 : Nat) : Int)), (7, vS b6 (8 * n) 1024), (8, vI ((0 : Nat) : Int)), (10, vS q n n), (52, vI (n : Nat)), (53, vI (k : Nat))]) (fun k w' => k ≤ n ∧ Blk w' b6 5 (Z.map v8) ∧ Blk w' q 43 ((ws.take k ++ List.replicate (n - k) 0).map vU) ∧ Keep w w' [rb, q]) (fun k => n - k) 0 ?_ ?_ ?_
      · exact ⟨rfl, rfl, rfl, rfl, rfl, rfl, rfl, rfl, rfl, trivial⟩
      · exact ⟨Nat.zero_le _, hB3, by simpa using hq3, hK13⟩
      · clear hB3 hq3 hK13 hK3 hr3
        clear w3
        rintro k w3 ⟨hk, hB3, hq3, hK3⟩
        refine c_seq ?_
        refine c_region ?_
        refine st_if (y_lt_i rfl rfl) rfl (fun hlt3 => ?_) (fun hlt3 => ?_)
        · have hkn : k < n := by omega
          have hu := hZg k hkn
          have hset := set_word hwn hkn
          have hql3 : (ws.take k ++ List.replicate (n - k) 0).length = n := by rw [List.length_append, List.length_take, List.length_replicate]; omega
          have hb3 := hB3.drew
          refine l_nil ?_
          refine q_then ?_
          refine c_seq ?_
          refine c_true rfl rfl ?_
          refine c_skip ?_
          refine q_then ?_
          refine c_seq ?_
          refine c_block ?_
          refine c_seq ?_
          refine c_region ?_
          refine st (y_move rfl) rfl ?_
          refine st (y_assign rfl) rfl ?_
          refine l_nil ?_
          refine q_then ?_
          refine c_moves 11 ((fun _ => True)) (.take 0 (.take 1 (.take 2 (.take 3 (.take 4 (.take 5 (.take 6 (.one 7 (.take 8 (.one 9 .nil)))))))))) mixed (by kernel_rfl) rfl (by kernel_rfl) (trivial) ?_
          show wpM _ _ _ _ _ _ _ _ _
          refine mt rfl (fun w' hS => y_move rfl) rfl rfl ?_
          refine mt rfl (fun w' hS => y_move rfl) rfl rfl ?_
          refine mt rfl (fun w' hS => y_load0 rfl agg67 us67 sz67) rfl rfl ?_
          refine mt rfl (fun w' hS => y_move rfl) rfl rfl ?_
          refine mt rfl (fun w' hS => y_move rfl) rfl rfl ?_
          first | refine mt rfl (fun w' hS => y_mul_in (a := 8) rfl rfl (by omega)) rfl rfl ?_ | refine mt rfl (fun w' hS => y_mul_i (a := 8) rfl rfl (by omega) (by omega)) rfl rfl ?_
          refine mt rfl (fun w' hS => y_slice_ln rfl rfl Tryd.underlying32 sz5 (by omega) (by omega)) rfl rfl ?_
          refine mh rfl ?_
          refine sc rfl rfl isfn23 (c_Uint64 b6 (0 + 8 * k) (8 * n - 8 * k) (1024 - 8 * k) _ Z _ hb3 hZ8 (by omega) (by omega)) rfl ?_
          rintro _ w4 ⟨rfl, hK4⟩
          have hb4 := hb3.keep hK4 (by simp)
          have hq4 := (hq3.drew).keep hK4 (by simp)
          rw [hu]
          refine l_nil ?_
          refine mh_end (trivial) ?_
          first | refine mt rfl (fun w' hS => y_index0 rfl rfl Tryd.underlying42 sz43 (by omega)) rfl rfl ?_ | refine mt rfl (fun w' hS => y_index rfl rfl Tryd.underlying42 sz43 (by omega)) rfl rfl ?_ | refine mt rfl (fun w' hS => y_indexA rfl rfl Tryd.underlying42 sz43 (by omega)) rfl rfl ?_
          refine mh rfl ?_
          refine st_storeM vU rfl rfl rfl sz43 (by assumption) (by first | omega | (simp only [List.length_append, List.length_map, List.length_replicate, List.length_set, List.length_take, List.length_drop]; omega)) rfl ?_
          intro w5 hB5 hK5 hS5
          rw [hset] at hB5
          have hb5 := hb4.keep hK5 (by simp only [List.mem_singleton]; omega)
          refine l_nil ?_
          refine mh_end (trivial) ?_
          refine m_nil ?_
          refine q_block ?_
          refine q_then ?_
          refine c_region ?_
          first | refine st (y_add_in (b := 1) rfl rfl (by omega)) rfl ?_ | refine st (y_add_i (b := 1) rfl rfl (by omega) (by omega)) rfl ?_
          refine st (y_move rfl) rfl ?_
          refine l_nil ?_
          exact q_round (k + 1) ⟨rfl, rfl, rfl, rfl, rfl, rfl, rfl, rfl, rfl, trivial⟩ ⟨by omega, hb5, hB5, ((hK3.trans (Keep.drew w3 []) (by simp)).trans hK4 (by simp)).trans hK5 (fun i hi => by simp only [List.mem_singleton] at hi; left; simp [hi])⟩ (by omega)
        ·
          have hkn : k = n := by omega
          subst hkn
          have hfull : ws.take k ++ List.replicate (k - k) 0 = ws := by rw [Nat.sub_self, List.take_of_length_le (by omega)]; simp
          rw [hfull] at hq3
          refine l_nil ?_
          refine q_then ?_
          refine c_seq ?_
          refine c_false rfl rfl ?_
          refine c_exit ?_
          refine q_then_exit ?_
          refine q_then_exit ?_
          refine q_block_hit ?_
          refine q_block ?_
          refine q_then ?_
          refine c_region ?_
          refine st (y_move rfl) rfl ?_
          refine st (y_move rfl) rfl ?_
          first | refine st (y_add_in rfl rfl (by omega)) rfl ?_ | refine st (y_add_i rfl rfl (by omega) (by omega)) rfl ?_
          refine st (y_assign rfl) rfl ?_
          refine l_nil ?_
          exact q_round (128, 8 * k) ⟨rfl, rfl, rfl, rfl, rfl, rfl, trivial⟩ (.inr ⟨rfl, hq3, hK3⟩) (by simp only; omega)
    ·
      refine c_seq ?_
      refine c_seq ?_
      refine c_region ?_
      refine st (y_move rfl) rfl ?_
      refine st (y_move rfl) rfl ?_
      refine st_f (y_lt_i rfl rfl) (by omega) rfl ?_
      refine l_nil ?_
      refine q_then ?_
      refine c_false rfl rfl ?_
      refine c_exit ?_
      refine q_then_exit ?_
      refine q_then_exit ?_
      refine q_block_hit ?_
      refine q_then ?_
      refine c_seq ?_
      refine c_region ?_
      refine st (y_assign rfl) rfl ?_
      refine l_nil ?_
      refine q_then ?_
      refine c_ret ?_
      refine q_end1 (.inl rfl) rfl rfl ?_
      exact ⟨_, rfl, rfl, hend⟩

theorem c_rU64err (rb o N c q n cq B : Nat) (A : Option Addr) (db : Nat) (xs : List Nat) (T1 : TypeId) (e1 e2 : Addr) (w : World) (hr : Blk w rb 74 [.slice A N c, vI (o : Nat), vI (-1)]) (hoN : o ≤ N) (hD : o < N → A = some ⟨db, 0, none⟩ ∧ Blk w db T1 (xs.map v8) ∧ N ≤ xs.length ∧ N ≤ c ∧ rb ≠ db) (hx8 : ∀ x ∈ xs, x < 256) (hNm : N ≤ 100000)
    (hn : n ≤ 101) (hnc : n ≤ cq) (hlt : N < o + 8 * n) (hE1 : Sen B w 1 80 e1) (hE2 : Sen B w 2 80 e2) (hrB : B ≤ rb) :
    Cal Tryd.prog 26 [.iface 56 (vP rb), vS q n cq] w fun v w' => ∃ e, (e = e1 ∨ e = e2) ∧ v = .iface 80 (.pointer (some e)) ∧ Keep w w' [rb] := by
  have hrl := hr.lt
  have hBs := hE1.size
  refine go_in' Tryd.func26 rfl Tryd.ntmps26 (Nat.le_of_ble_eq_true rfl) ?_
  refine c_seq ?_
  refine c_region ?_
  refine st (y_assign rfl) rfl ?_
  refine l_nil ?_
  refine q_then ?_
  refine c_seq ?_
  refine c_region ?_
  refine st (y_move rfl) rfl ?_
  refine st (y_len rfl Tryd.underlying42) rfl ?_
  refine st (y_assign rfl) rfl ?_
  refine l_nil ?_
  refine q_then ?_
  refine c_seq ?_
  refine c_region ?_
  refine st (y_assign (v := vI ((128 : Nat) : Int)) rfl) rfl ?_
  refine l_nil ?_
  refine q_then ?_
  refine c_seq ?_
  refine c_region ?_
  refine st (y_move rfl) rfl ?_
  first | refine st (y_mul_in (b := 8) rfl rfl (by omega)) rfl ?_ | refine st (y_mul_i (b := 8) rfl rfl (by omega) (by omega)) rfl ?_
  refine mk32 rfl rfl (by omega) (by omega) rfl ?_
  intro b6 w1 hb6 hB6 hK1 hS1
  have hB6' : Blk w1 b6 5 ((List.replicate 1024 0).map v8) := by simpa using hB6
  clear hB6
  refine st (y_assign rfl) rfl ?_
  refine l_nil ?_
  refine q_then ?_
  refine c_seq ?_
  refine c_seq ?_
  refine c_region ?_
  refine st (y_assign (v := vI ((0 : Nat) : Int)) rfl) rfl ?_
  refine l_nil ?_
  refine q_then ?_
  refine c_block ?_
  refine c_loop (fun _ : Unit => [(0, .iface 56 (vP rb)), (1, vS q n cq), (5, vI (n : Nat)), (6, vI ((128 : Nat) : Int)), (7, vS b6 1024 1024), (8, vI ((0 : Nat) : Int))]) (fun _ w' => w' = w1) (fun _ => 0) () ?_ ?_ ?_
  · exact ⟨rfl, rfl, rfl, rfl, rfl, rfl, trivial⟩
  · rfl
  · rintro _ w2 hw2
    subst hw2
    have hr2 := hr.keep hK1 (by simp)
    have hE12 := hE1.keep hK1 (by simp)
    have hE22 := hE2.keep hK1 (by simp)
    refine c_seq ?_
    refine c_seq ?_
    refine c_region ?_
    refine st (y_move rfl) rfl ?_
    refine st (y_move rfl) rfl ?_
    refine st_t (y_lt_i rfl rfl) (by omega) rfl ?_
    refine l_nil ?_
    refine q_then ?_
    refine c_true rfl rfl ?_
    refine c_skip ?_
    refine q_then ?_
    refine c_seq ?_
    refine c_block ?_
    refine c_seq ?_
    refine c_region ?_
    refine st (y_move rfl) rfl ?_
    refine st (y_move rfl) rfl ?_
    first | refine st (y_add_in rfl rfl (by omega)) rfl ?_ | refine st (y_add_i rfl rfl (by omega) (by omega)) rfl ?_
    refine st (y_assign rfl) rfl ?_
    refine l_nil ?_
    refine q_then ?_
    refine c_seq ?_
    refine c_seq ?_
    refine c_region ?_
    refine st (y_move rfl) rfl ?_
    refine st (y_move rfl) rfl ?_
    refine st_t (y_gt_i rfl rfl) (by omega) rfl ?_
    refine l_nil ?_
    refine q_then ?_
    refine c_true rfl rfl ?_
    refine c_seq ?_
    refine c_region ?_
    refine st (y_move rfl) rfl ?_
    refine st (y_assign rfl) rfl ?_
    refine l_nil ?_
    refine q_then ?_
    refine c_region ?_
    refine st (y_move rfl) rfl ?_
    refine st (y_move rfl) rfl ?_
    refine st (y_move rfl) rfl ?_
    refine st (y_sub_i (b := ((0 : Nat) : Int)) rfl rfl (by omega) (by omega)) rfl ?_
    rw [show (n : Int) - ((0 : Nat) : Int) = (n : Int) by omega]
    first | refine st (y_mul_in (a := 8) rfl rfl (by omega)) rfl ?_ | refine st (y_mul_i (a := 8) rfl rfl (by omega) (by omega)) rfl ?_
    refine st (y_slice_h rfl rfl Tryd.underlying32 sz5 (by omega)) rfl ?_
    refine st (y_assign rfl) rfl ?_
    refine l_nil ?_
    refine q_then ?_
    refine c_seq ?_
    refine c_region ?_
    refine st (y_move rfl) rfl ?_
    refine st (y_move rfl) rfl ?_
    refine st (y_move rfl) rfl ?_
    refine st (y_slice_0h rfl rfl rfl Tryd.underlying42 sz43 hnc) rfl ?_
    refine st (y_assign rfl) rfl ?_
    refine l_nil ?_
    refine q_then ?_
    refine c_seq ?_
    refine c_seq ?_
    refine c_region ?_
    refine st (y_move rfl) rfl ?_
    refine st (y_move rfl) rfl ?_
    refine sc rfl rfl isfn22 (c_RFerr rb o N c b6 (8 * n) 1024 B A db xs (List.replicate 1024 0) T1 _ e1 e2 _ hr2 hoN (fun h => by obtain ⟨h1, h2, h3, h4, h5⟩ := hD h; have := h2.lt; exact ⟨h1, h2.keep hK1 (by simp), h3, h4, h5, by omega⟩) hx8 hNm hB6' (fun x hx => by have := List.eq_of_mem_replicate hx; omega) (by rw [List.length_replicate]; omega) (by omega) hlt (by omega) (by omega) hE12 hE22 hrB (by omega)) rfl ?_
    rintro _ w3 ⟨e, he, rfl, _, hK3⟩
    refine st (y_move rfl) rfl ?_
    refine st (y_extract rfl rfl) rfl ?_
    refine st (y_extract rfl rfl) rfl ?_
    refine st (y_assign rfl) rfl ?_
    refine st (y_assign rfl) rfl ?_
    refine l_nil ?_
    refine q_then ?_
    refine c_seq ?_
    refine c_region ?_
    refine st (y_move rfl) rfl ?_
    refine st (y_neqV rfl ifErr) rfl ?_
    refine l_nil ?_
    refine q_then ?_
    refine c_true rfl rfl ?_
    refine c_seq ?_
    refine c_region ?_
    refine st (y_move rfl) rfl ?_
    refine st (y_assign rfl) rfl ?_
    refine l_nil ?_
    refine q_then ?_
    refine c_ret ?_
    refine q_then_ret ?_
    refine q_block_ret ?_
    refine q_then_ret ?_
    refine q_then_ret ?_
    refine q_block_ret ?_
    refine q_then_ret ?_
    refine q_end1 (.inl rfl) rfl rfl ?_
    exact ⟨_, rfl, e, he, rfl, (hK1.mono (fun i hi => by cases hi)).trans hK3 (fun i hi => by simp only [List.mem_cons, List.not_mem_nil, or_false] at hi ⊢; omega)⟩

end Go.Proofs.YtkemlhhpakjojaaDoor

/- Set, Test and the thin package's made, each by its contract, over sets as lists of truths. -/
set_option linter.unusedVariables false
set_option linter.unusedSimpArgs false
set_option maxRecDepth 100000
namespace Go.Proofs.YtkemlhhpakjojaaDoor
open Go Go.RowKit

/-- the set at p is s; its words lie at q -/
def BSet (w : World) (p q : Nat) (s : List Bool) : Prop := ∃ tl, BW w p q s.length (pack s) tl
theorem BSet.keep {w w' : World} {p q : Nat} {s : List Bool} {l : List Nat} (h : BSet w p q s) (k : Keep w w' l) (hp : p ∉ l) (hq : q ∉ l) : BSet w' p q s := by
  obtain ⟨tl, h⟩ := h; exact ⟨tl, h.keep k hp hq⟩
theorem BSet.lts {w : World} {p q : Nat} {s : List Bool} (h : BSet w p q s) : p < w.heap.size ∧ q < w.heap.size ∧ p ≠ q := by
  obtain ⟨tl, h⟩ := h; exact ⟨h.st.lt, h.wd.lt, h.ne⟩












































































































































end Go.Proofs.YtkemlhhpakjojaaDoor

/- The statements' own helpers and the reference's Has and Made, each by its contract; impl.Test. -/
set_option linter.unusedVariables false
set_option linter.unusedSimpArgs false
set_option maxRecDepth 100000
namespace Go.Proofs.YtkemlhhpakjojaaDoor
open Go Go.RowKit

/-- a set as an argument: its length and a slice of numbers that is read -/
abbrev aB (L : Nat) (A : Option Addr) (n c : Nat) : Value := .agg #[vU L, .slice A n c]

theorem c_zzFits1 (L : Nat) (A : Option Addr) (n c : Nat) (w : World) : Cal Tryd.prog 5 [aB L A n c] w fun v w' => v = vB (decide (n ≤ 2147483647)) ∧ Keep w w' [] := by
  refine go_in' Tryd.func5 rfl Tryd.ntmps5 (Nat.le_of_ble_eq_true rfl) ?_
  refine c_seq ?_
  refine c_region ?_
  refine st_box _ rfl rfl rfl ?_
  intro b1 w1 hb1 hB1 hK1 hS1
  refine st (y_assign rfl) rfl ?_
  refine l_nil ?_
  refine q_then ?_
  refine c_seq ?_
  refine c_seq ?_
  refine c_region ?_
  refine st (fa25_1 rfl) rfl ?_
  refine st (y_loadb rfl one23 (by assumption) (by rfl)) rfl ?_
  refine st (y_len rfl Tryd.underlying23) rfl ?_
  refine st_if (y_gt_i (b := 2147483647) rfl rfl) rfl (fun h => ?_) (fun h => ?_)
  · refine l_nil ?_
    refine q_then ?_
    refine c_true rfl rfl ?_
    refine c_seq ?_
    refine c_region ?_
    refine st (y_assign rfl) rfl ?_
    refine l_nil ?_
    refine q_then ?_
    refine c_ret ?_
    refine q_then_ret ?_
    refine q_end1 (.inl rfl) rfl rfl ?_
    exact ⟨_, rfl, by rw [decide_eq_false (by omega)], hK1⟩
  ·
    refine l_nil ?_
    refine q_then ?_
    refine c_false rfl rfl ?_
    refine c_skip ?_
    refine q_then ?_
    refine c_seq ?_
    refine c_region ?_
    refine st (y_assign rfl) rfl ?_
    refine l_nil ?_
    refine q_then ?_
    refine c_ret ?_
    refine q_end1 (.inl rfl) rfl rfl ?_
    exact ⟨_, rfl, by rw [decide_eq_true (by omega)], hK1⟩



































theorem c_Made (L : Nat) (A : Option Addr) (n c : Nat) (xs : List Nat) (w : World) (hR : Rd w A n xs) (hL : L ≤ 6000) (hx : ∀ x ∈ xs, x ≤ 6000) :
    Cal Tryd.prog 11 [vU L, .slice A n c] w fun v w' => ∃ b, v = vS b (mkS L xs).length (mkS L xs).length ∧ Blk w' b 4 ((mkS L xs).map vB) ∧ w.heap.size ≤ b ∧ Keep w w' [] := by
  have hn := hR.1
  have hn63 := hR.2.1
  refine go_in' Tryd.func11 rfl Tryd.ntmps11 (Nat.le_of_ble_eq_true rfl) ?_
  refine c_seq ?_
  refine c_region ?_
  refine st (y_assign rfl) rfl ?_
  refine l_nil ?_
  refine q_then ?_
  refine c_seq ?_
  refine c_region ?_
  refine st (y_move rfl) rfl ?_
  refine st (y_assign rfl) rfl ?_
  refine l_nil ?_
  refine q_then ?_
  refine c_seq ?_
  refine c_seq ?_
  refine c_region ?_
  refine st (y_move rfl) rfl ?_
  refine st (y_len rfl Tryd.underlying23) rfl ?_
  refine st (y_move (v := vI ((0 : Nat) : Int)) rfl) rfl ?_
  refine l_nil ?_
  refine q_then ?_
  refine c_block ?_
  refine c_loop (fun k : Nat => [(0, vU L), (1, .slice A n c), (5, vU (mkN L (xs.take k))), (12, .slice A n c), (13, vI (n : Nat)), (14, vI (k : Nat))]) (fun k w' => k ≤ n ∧ w = w') (fun k => n - k) 0 ?_ ?_ ?_
  · exact ⟨rfl, rfl, rfl, rfl, rfl, rfl, trivial⟩
  · exact ⟨Nat.zero_le _, rfl⟩
  · rintro k w' ⟨hk, rfl⟩
    have hN := mkN_le L 6001 (xs.take k) (by omega) (fun x h => by have := hx x (List.mem_of_mem_take h); omega)
    refine c_seq ?_
    refine c_region ?_
    refine st_if (y_lt_i rfl rfl) rfl (fun hlt => ?_) (fun hlt => ?_)
    · obtain ⟨ad, rfl, had, hcell⟩ := hR.2.2 (by omega)
      have hkn : k < n := by omega
      have hc := hcell k hkn
      have hxk : xs.getD k 0 ≤ 6000 := by
        rw [List.getD_eq_getElem?_getD, List.getElem?_eq_getElem (by omega)]
        exact hx _ (List.getElem_mem _)
      refine l_nil ?_
      refine q_then ?_
      refine c_seq ?_
      refine c_true rfl rfl ?_
      refine c_skip ?_
      refine q_then ?_
      refine c_seq ?_
      refine c_block ?_
      refine c_seq ?_
      refine c_region ?_
      first | refine st (y_index0 rfl rfl Tryd.underlying23 sz22 (by omega)) rfl ?_ | refine st (y_index rfl rfl Tryd.underlying23 sz22 (by omega)) rfl ?_ | refine st (y_indexA rfl rfl Tryd.underlying23 sz22 (by omega)) rfl ?_
      first | refine st (y_loadM (0) rfl one22 (by assumption) (by first | omega | (simp only [List.length_append, List.length_map, List.length_replicate, List.length_set, List.length_take, List.length_drop]; omega) | (simp; done))) rfl ?_ | refine st (y_load rfl one22 (by assumption)) rfl ?_
      refine st (y_assign rfl) rfl ?_
      refine l_nil ?_
      refine q_then ?_
      refine c_region ?_
      refine st (y_move rfl) rfl ?_
      refine st (y_move rfl) rfl ?_
      refine st (y_add_u (b := 1) rfl rfl (by omega)) rfl ?_
      refine st (y_max_u rfl rfl Tryd.underlying22) rfl ?_
      refine st (y_assign rfl) rfl ?_
      refine l_nil ?_
      refine q_block ?_
      refine q_then ?_
      refine c_region ?_
      first | refine st (y_add_in (b := 1) rfl rfl (by omega)) rfl ?_ | refine st (y_add_i (b := 1) rfl rfl (by omega) (by omega)) rfl ?_
      refine st (y_move rfl) rfl ?_
      refine l_nil ?_
      refine q_round (k + 1) ⟨rfl, rfl, ?_, rfl, rfl, rfl, trivial⟩ ⟨by omega, rfl⟩ (by omega)
      rw [take_succ_getD xs k (by omega), mkN_snoc]
      rfl
    ·
      have hkn : k = n := by omega
      subst hkn
      refine l_nil ?_
      refine q_then ?_
      refine c_seq ?_
      refine c_false rfl rfl ?_
      refine c_exit ?_
      refine q_then_exit ?_
      refine q_then_exit ?_
      refine q_block_hit ?_
      refine q_then ?_
      refine c_seq ?_
      refine c_region ?_
      refine st (y_move rfl) rfl ?_
      obtain ⟨N, hN1⟩ : ∃ N, mkN L (xs.take k) = N := ⟨_, rfl⟩
      rw [hN1] at hN ⊢
      refine mk29 rfl rfl (by omega) (by omega) rfl ?_
      intro b1 w1 hb1 hB1 hK1 hS1
      have hR1 := hR.keep hK1 (by simp)
      have hNx := (mkN_ge L xs).2
      have hN2 : mkN L xs = N := by rw [← hN1, ← hn, List.take_length]
      refine st (y_assign rfl) rfl ?_
      refine l_nil ?_
      refine q_then ?_
      refine c_seq ?_
      refine c_seq ?_
      refine c_region ?_
      refine st (y_move rfl) rfl ?_
      refine st (y_len rfl Tryd.underlying23) rfl ?_
      refine st (y_move (v := vI ((0 : Nat) : Int)) rfl) rfl ?_
      refine l_nil ?_
      refine q_then ?_
      refine c_block ?_
      refine c_loop (fun j : Nat => [(8, vS b1 N N), (25, .slice A k c), (26, vI (k : Nat)), (27, vI (j : Nat))]) (fun j w' => j ≤ k ∧ Blk w' b1 4 ((setAll (List.replicate N false) (xs.take j)).map vB) ∧ Keep w1 w' [b1]) (fun j => k - j) 0 ?_ ?_ ?_
      · exact ⟨rfl, rfl, rfl, rfl, trivial⟩
      · exact ⟨Nat.zero_le _, by simpa [setAll] using hB1, Keep.refl _ _⟩
      · intro j w2 ⟨hj, hBj, hKj⟩
        have hK2 : Keep w w2 [] := hK1.trans hKj (by intro x; simp only [List.mem_cons, List.not_mem_nil, or_false, false_or]; omega)
        have hR2 := hR.keep hK2 (by simp)
        have hsl := setAll_length (List.replicate N false) (xs.take j)
        rw [List.length_replicate] at hsl
        refine c_seq ?_
        refine c_region ?_
        refine st_if (y_lt_i rfl rfl) rfl (fun hlt => ?_) (fun hlt => ?_)
        · obtain ⟨ad, rfl, had, hcell⟩ := hR2.2.2 (by omega)
          have hc := hcell j (by omega)
          have hxj : xs.getD j 0 < N := by
            rw [← hN2, List.getD_eq_getElem?_getD, List.getElem?_eq_getElem (by omega)]
            exact hNx _ (List.getElem_mem _)
          refine l_nil ?_
          refine q_then ?_
          refine c_seq ?_
          refine c_true rfl rfl ?_
          refine c_skip ?_
          refine q_then ?_
          refine c_seq ?_
          refine c_block ?_
          refine c_seq ?_
          refine c_region ?_
          first | refine st (y_index0 rfl rfl Tryd.underlying23 sz22 (by omega)) rfl ?_ | refine st (y_index rfl rfl Tryd.underlying23 sz22 (by omega)) rfl ?_ | refine st (y_indexA rfl rfl Tryd.underlying23 sz22 (by omega)) rfl ?_
          first | refine st (y_loadM (0) rfl one22 (by assumption) (by first | omega | (simp only [List.length_append, List.length_map, List.length_replicate, List.length_set, List.length_take, List.length_drop]; omega) | (simp; done))) rfl ?_ | refine st (y_load rfl one22 (by assumption)) rfl ?_
          refine st (y_assign rfl) rfl ?_
          refine l_nil ?_
          refine q_then ?_
          refine c_region ?_
          refine st (y_move rfl) rfl ?_
          refine st (y_move rfl) rfl ?_
          first | refine st (y_index0 rfl rfl Tryd.underlying29 sz4 (by omega)) rfl ?_ | refine st (y_index rfl rfl Tryd.underlying29 sz4 (by omega)) rfl ?_ | refine st (y_indexA rfl rfl Tryd.underlying29 sz4 (by omega)) rfl ?_
          refine st_storeM vB rfl rfl rfl sz4 (by assumption) (by first | omega | (simp only [List.length_append, List.length_map, List.length_replicate, List.length_set, List.length_take, List.length_drop]; omega)) rfl ?_
          intro w3 hB3 hK3 hS3
          refine l_nil ?_
          refine q_block ?_
          refine q_then ?_
          refine c_region ?_
          first | refine st (y_add_in (b := 1) rfl rfl (by omega)) rfl ?_ | refine st (y_add_i (b := 1) rfl rfl (by omega) (by omega)) rfl ?_
          refine st (y_move rfl) rfl ?_
          refine l_nil ?_
          refine q_round (j + 1) ⟨rfl, rfl, rfl, rfl, trivial⟩ ⟨by omega, ?_, hKj.trans hK3 (fun i h => .inl h)⟩ (by omega)
          rw [take_succ_getD xs j (by omega), setAll_snoc]
          exact hB3
        ·
          have hjk : j = k := by omega
          refine l_nil ?_
          refine q_then ?_
          refine c_seq ?_
          refine c_false rfl rfl ?_
          refine c_exit ?_
          refine q_then_exit ?_
          refine q_then_exit ?_
          refine q_block_hit ?_
          refine q_then ?_
          refine c_seq ?_
          refine c_region ?_
          refine st (y_move rfl) rfl ?_
          refine st (y_assign rfl) rfl ?_
          refine l_nil ?_
          refine q_then ?_
          refine c_ret ?_
          refine q_end1 (.inl rfl) rfl rfl ?_
          refine ⟨_, rfl, b1, ?_, ?_, by omega, hK2⟩
          · rw [mkS_length, hN2]
          · rw [← setAll_eq, hN2]
            rw [hjk, ← hn, List.take_length] at hBj
            exact hBj

end Go.Proofs.YtkemlhhpakjojaaDoor

/- laws.set: the set of an argument as the reference has it, by its contract. -/
set_option linter.unusedVariables false
set_option linter.unusedSimpArgs false
set_option maxRecDepth 100000
namespace Go.Proofs.YtkemlhhpakjojaaDoor
open Go Go.RowKit

/-- small enough to be spoken of -/
def Ok (L n : Nat) (xs : List Nat) : Prop := L ≤ 3000 ∧ n ≤ 3000 ∧ ∀ x ∈ xs, x ≤ 3000
theorem Ok.len {L n : Nat} {xs : List Nat} (h : Ok L n xs) : (mkS L xs).length ≤ 3001 := mkS_length_le L 3001 xs (by have := h.1; omega) fun x hx => by have := h.2.2 x hx; omega

/-- a list of truths that the call has made -/
def Bl (w : World) (b : Nat) (s : List Bool) : Prop := Blk w b 4 (s.map vB)
theorem Bl.keep {w w' : World} {b : Nat} {s : List Bool} {l : List Nat} (h : Bl w b s) (k : Keep w w' l) (hn : b ∉ l) : Bl w' b s := Blk.keep h k hn

theorem c_set (L : Nat) (A : Option Addr) (n c : Nat) (xs : List Nat) (w : World) (hR : Rd w A n xs) :
    Cal Tryd.prog 6 [aB L A n c] w fun v w' => Keep w w' [] ∧ ((Ok L n xs ∧ ∃ b, v = vT [vS b (mkS L xs).length (mkS L xs).length, vB true] ∧ Bl w' b (mkS L xs) ∧ w.heap.size ≤ b) ∨ v = vT [.slice none 0 0, vB false]) := by
  have hn := hR.1
  have hn63 := hR.2.1
  refine go_in' Tryd.func6 rfl Tryd.ntmps6 (Nat.le_of_ble_eq_true rfl) ?_
  refine c_seq ?_
  refine c_region ?_
  refine st_box _ rfl rfl rfl ?_
  intro b1 w1 hb1 hB1 hK1 hS1
  refine st (y_assign rfl) rfl ?_
  refine st (y_assign rfl) rfl ?_
  refine l_nil ?_
  refine q_then ?_
  refine c_seq ?_
  refine c_seq ?_
  refine c_region ?_
  refine st (fa25_0 rfl) rfl ?_
  refine st (y_loadb rfl one22 (by assumption) (by rfl)) rfl ?_
  refine st_if (y_gt_u (b := 3000) rfl rfl) rfl (fun hL => ?_) (fun hL => ?_)
  · refine st (y_move rfl) rfl ?_
    refine sno rfl rfl rfl rfl ?_
    refine sno rfl rfl rfl rfl ?_
    refine sno rfl rfl rfl rfl ?_
    refine sno rfl rfl rfl rfl ?_
    refine st (y_pickT rfl rfl) rfl ?_
    refine l_nil ?_
    refine q_then ?_
    refine c_true rfl rfl ?_
    refine c_seq ?_
    refine c_region ?_
    refine st (y_assign rfl) rfl ?_
    refine st (y_assign rfl) rfl ?_
    refine l_nil ?_
    refine q_then ?_
    refine c_ret ?_
    refine q_then_ret ?_
    refine q_end2 (.inl rfl) rfl rfl rfl ?_
    exact ⟨_, rfl, hK1, .inr rfl⟩
  ·
    refine st (y_move rfl) rfl ?_
    refine stg rfl rfl (fa25_1 rfl) rfl ?_
    refine stg rfl rfl (y_loadb rfl one23 (by assumption) (by rfl)) rfl ?_
    refine stg rfl rfl (y_len rfl Tryd.underlying23) rfl ?_
    refine stg_if rfl rfl (y_gt_i (b := 3000) rfl rfl) rfl (fun hN => ?_) (fun hN => ?_)
    · refine st (y_pickF rfl rfl) rfl ?_
      refine l_nil ?_
      refine q_then ?_
      refine c_true rfl rfl ?_
      refine c_seq ?_
      refine c_region ?_
      refine st (y_assign rfl) rfl ?_
      refine st (y_assign rfl) rfl ?_
      refine l_nil ?_
      refine q_then ?_
      refine c_ret ?_
      refine q_then_ret ?_
      refine q_end2 (.inl rfl) rfl rfl rfl ?_
      exact ⟨_, rfl, hK1, .inr rfl⟩
    ·
      refine st (y_pickF rfl rfl) rfl ?_
      refine l_nil ?_
      refine q_then ?_
      refine c_false rfl rfl ?_
      refine c_skip ?_
      refine q_then ?_
      refine c_seq ?_
      refine c_seq ?_
      refine c_region ?_
      refine st (fa25_1 rfl) rfl ?_
      refine st (y_loadb rfl one23 (by assumption) (by rfl)) rfl ?_
      refine st (y_len rfl Tryd.underlying23) rfl ?_
      refine st (y_move (v := vI ((0 : Nat) : Int)) rfl) rfl ?_
      refine l_nil ?_
      refine q_then ?_
      refine c_block ?_
      have hR1 := hR.keep hK1 (by simp)
      refine c_loop (fun k : Nat => [(1, vP b1), (16, .slice A n c), (17, vI (n : Nat)), (18, vI (k : Nat))]) (fun k w' => k ≤ n ∧ w1 = w' ∧ ∀ x ∈ xs.take k, x ≤ 3000) (fun k => n - k) 0 ?_ ?_ ?_
      · exact ⟨rfl, rfl, rfl, rfl, trivial⟩
      · exact ⟨Nat.zero_le _, rfl, by simp⟩
      · rintro k w2 ⟨hk, rfl, hx⟩
        refine c_seq ?_
        refine c_region ?_
        refine st_if (y_lt_i rfl rfl) rfl (fun hlt => ?_) (fun hlt => ?_)
        · obtain ⟨ad, rfl, had, hcell⟩ := hR1.2.2 (by omega)
          have hc := hcell k (by omega)
          refine l_nil ?_
          refine q_then ?_
          refine c_seq ?_
          refine c_true rfl rfl ?_
          refine c_skip ?_
          refine q_then ?_
          refine c_seq ?_
          refine c_block ?_
          refine c_seq ?_
          refine c_region ?_
          first | refine st (y_index0 rfl rfl Tryd.underlying23 sz22 (by omega)) rfl ?_ | refine st (y_index rfl rfl Tryd.underlying23 sz22 (by omega)) rfl ?_ | refine st (y_indexA rfl rfl Tryd.underlying23 sz22 (by omega)) rfl ?_
          first | refine st (y_loadM (0) rfl one22 (by assumption) (by first | omega | (simp only [List.length_append, List.length_map, List.length_replicate, List.length_set, List.length_take, List.length_drop]; omega) | (simp; done))) rfl ?_ | refine st (y_load rfl one22 (by assumption)) rfl ?_
          refine st (y_assign rfl) rfl ?_
          refine l_nil ?_
          refine q_then ?_
          refine c_seq ?_
          refine c_region ?_
          refine st (y_move rfl) rfl ?_
          refine st_if (y_gt_u (b := 3000) rfl rfl) rfl (fun hbig => ?_) (fun hbig => ?_)
          · refine l_nil ?_
            refine q_then ?_
            refine c_true rfl rfl ?_
            refine c_seq ?_
            refine c_region ?_
            refine st (y_assign rfl) rfl ?_
            refine st (y_assign rfl) rfl ?_
            refine l_nil ?_
            refine q_then ?_
            refine c_ret ?_
            refine q_block_ret ?_
            refine q_then_ret ?_
            refine q_then_ret ?_
            refine q_block_ret ?_
            refine q_then_ret ?_
            refine q_end2 (.inl rfl) rfl rfl rfl ?_
            exact ⟨_, rfl, hK1, .inr rfl⟩
          ·
            refine l_nil ?_
            refine q_then ?_
            refine c_false rfl rfl ?_
            refine c_skip ?_
            refine q_block ?_
            refine q_then ?_
            refine c_region ?_
            first | refine st (y_add_in (b := 1) rfl rfl (by omega)) rfl ?_ | refine st (y_add_i (b := 1) rfl rfl (by omega) (by omega)) rfl ?_
            refine st (y_move rfl) rfl ?_
            refine l_nil ?_
            refine q_round (k + 1) ⟨rfl, rfl, rfl, rfl, trivial⟩ ⟨by omega, rfl, ?_⟩ (by omega)
            rw [take_succ_getD xs k (by omega)]
            intro x h
            rcases List.mem_append.1 h with h | h
            · exact hx x h
            · simp only [List.mem_singleton] at h; subst h; omega
        ·
          have hkn : k = n := by omega
          rw [hkn, ← hn, List.take_length] at hx
          refine l_nil ?_
          refine q_then ?_
          refine c_seq ?_
          refine c_false rfl rfl ?_
          refine c_exit ?_
          refine q_then_exit ?_
          refine q_then_exit ?_
          refine q_block_hit ?_
          refine q_then ?_
          refine c_seq ?_
          refine c_region ?_
          refine st (fa25_0 rfl) rfl ?_
          refine st (y_loadb rfl one22 (by assumption) (by rfl)) rfl ?_
          refine st (fa25_1 rfl) rfl ?_
          refine st (y_loadb rfl one23 (by assumption) (by rfl)) rfl ?_
          refine sc rfl rfl isfn11 (c_Made L A n c xs _ hR1 (by omega) (fun x h => by have := hx x h; omega)) rfl ?_
          rintro _ w3 ⟨b, rfl, hB, hb, hK⟩
          refine st (y_assign rfl) rfl ?_
          refine st (y_assign rfl) rfl ?_
          refine l_nil ?_
          refine q_then ?_
          refine c_ret ?_
          refine q_end2 (.inl rfl) rfl rfl rfl ?_
          exact ⟨_, rfl, hK1.trans hK (by simp), .inl ⟨⟨by omega, by omega, hx⟩, b, rfl, hB, by have := hK1.size; omega⟩⟩

end Go.Proofs.YtkemlhhpakjojaaDoor

/- The words of a set, or a part of them, as a slice that is only read. -/
set_option linter.unusedVariables false
set_option linter.unusedSimpArgs false
namespace Go.Proofs.YtkemlhhpakjojaaDoor
open Go Go.RowKit

theorem BW.rdt {w : World} {p q L m : Nat} {ws tl : List Nat} (h : BW w p q L ws tl) (hm : m ≤ ws.length) : Rd w (some ⟨q, 0, none⟩) m (ws.take m) := by
  have hc := h.cap
  have := Rd.of_row h.wd (o := 0) (m := m) (by simp only [List.length_append]; omega) (by omega)
  rwa [List.drop_zero, List.take_append_of_le_length hm] at this
theorem BW.rd {w : World} {p q L : Nat} {ws tl : List Nat} (h : BW w p q L ws tl) : Rd w (some ⟨q, 0, none⟩) ws.length ws := by
  have := h.rdt (Nat.le_refl _)
  rwa [List.take_length] at this
theorem BW.rds {w : World} {p q L l : Nat} {ws tl : List Nat} (h : BW w p q L ws tl) (hl : l ≤ ws.length) : Rd w (some (if ws.length + tl.length = l then ⟨q, 0, none⟩ else ⟨q, 0 + l, none⟩)) (ws.length - l) (ws.drop l) := by
  have hc := h.cap
  split
  · exact Rd.of_zero (by omega) (by simp; omega)
  · have := Rd.of_row h.wd (o := l) (m := ws.length - l) (by simp only [List.length_append]; omega) (by omega)
    rw [List.drop_append_of_le_length hl, List.take_left' (by simp)] at this
    rwa [Nat.zero_add]
theorem lt_take {ws : List Nat} (h : ∀ x ∈ ws, x < 18446744073709551616) (m : Nat) : ∀ x ∈ ws.take m, x < 18446744073709551616 := fun x hx => h x (List.mem_of_mem_take hx)
theorem lt_drop {ws : List Nat} (h : ∀ x ∈ ws, x < 18446744073709551616) (m : Nat) : ∀ x ∈ ws.drop m, x < 18446744073709551616 := fun x hx => h x (List.mem_of_mem_drop hx)

end Go.Proofs.YtkemlhhpakjojaaDoor

/- 64 places from one on as a word; plain lemmas, without Go. -/
set_option linter.unusedVariables false
set_option linter.unusedSimpArgs false
namespace Go.Proofs.YtkemlhhpakjojaaDoor

def wordFrom (s : List Bool) (i : Nat) : Nat := natOf (fun k => s.getD (i + k) false) 64
theorem wordFrom_lt (s : List Bool) (i : Nat) : wordFrom s i < 18446744073709551616 := natOf_lt _ 64
theorem wordFrom_testBit (s : List Bool) (i k : Nat) : (wordFrom s i).testBit k = (decide (k < 64) && s.getD (i + k) false) := natOf_testBit _ 64 k
theorem word_two (s : List Bool) (i : Nat) : (wordAt s (i / 64) >>> (i % 64)) ||| ((wordAt s (i / 64 + 1) <<< (64 - i % 64)) % 18446744073709551616) = wordFrom s i := by
  apply Nat.eq_of_testBit_eq
  intro k
  rw [wordFrom_testBit, Nat.testBit_or, testBit_shr, testBit_shl, wordAt_testBit, wordAt_testBit]
  have hm : i % 64 < 64 := Nat.mod_lt _ (by decide)
  by_cases hk : k < 64
  · by_cases h1 : i % 64 + k < 64
    · rw [show 64 * (i / 64) + (i % 64 + k) = i + k by omega]
      simp [hk, h1, show ¬ 64 - i % 64 ≤ k by omega]
    · rw [show 64 * (i / 64 + 1) + (k - (64 - i % 64)) = i + k by omega]
      simp [hk, h1, show 64 - i % 64 ≤ k by omega, show k - (64 - i % 64) < 64 by omega]
  · simp [hk, show ¬ i % 64 + k < 64 by omega]
theorem wordAt_ge (s : List Bool) (j : Nat) (h : nW s.length ≤ j) : wordAt s j = 0 := by
  rw [← pack_getD, getD_ge _ _ (by rw [pack_length]; exact h)]
theorem natOf_succ_or (f : Nat → Bool) (k : Nat) (hk : k < 64) (hf : f k = true) : natOf f k ||| (1 <<< k) % 18446744073709551616 = natOf f (k + 1) := by
  apply Nat.eq_of_testBit_eq
  intro i
  rw [Nat.testBit_or, natOf_testBit, natOf_testBit, testBit_one_shl _ _ hk]
  by_cases h : i = k
  · subst h; simp [hf]
  · by_cases h2 : i < k
    · simp [h, h2, show i < k + 1 by omega]
    · simp [h, h2, show ¬ i < k + 1 by omega]
theorem natOf_lt64 (f : Nat → Bool) (k : Nat) (hk : k ≤ 64) : natOf f k < 18446744073709551616 := Nat.lt_of_lt_of_le (natOf_lt f k) (by simpa using Nat.pow_le_pow_right (n := 2) (by decide) hk)
end Go.Proofs.YtkemlhhpakjojaaDoor

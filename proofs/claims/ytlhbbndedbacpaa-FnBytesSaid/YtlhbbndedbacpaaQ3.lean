/- bytes.Buffer: WriteByte, Write, WriteString, String, Bytes, NewBufferString; each by its contract. -/
import Derived.Test.YtlhbbndedbacpaaQ2
set_option linter.unusedVariables false
set_option linter.unusedSimpArgs false
set_option maxRecDepth 100000
set_option maxHeartbeats 1000000
namespace Go.Proofs.Ytlhbbndedbacpaa
open Go Go.RowKit

theorem subOne {k : Nat} (h : 0 < k) : ((k : Int) - 1) = ((k - 1 : Nat) : Int) := by omega
/-- a buffer at b that holds xs; its row lies at r (at b, where it has none yet) -/
def Buf (w : World) (b r : Nat) (xs : List Nat) : Prop := (r = b ∧ xs = [] ∧ BufN w b) ∨ (∃ l, BufR w b r xs.length l ∧ l.take xs.length = xs)
theorem Buf.keep {w w' : World} {b r : Nat} {xs : List Nat} {L : List Nat} (h : Buf w b r xs) (k : Keep w w' L) (hb : b ∉ L) (hr : r ∉ L) : Buf w' b r xs := by
  rcases h with ⟨h1, h2, lr, h3⟩ | ⟨l, h1, h2⟩
  · exact .inl ⟨h1, h2, lr, h3.keep k hb⟩
  · exact .inr ⟨l, h1.keep k hb hr, h2⟩
theorem Buf.lt8 {w : World} {b r : Nat} {xs : List Nat} (h : Buf w b r xs) : ∀ x ∈ xs, x < 256 := by
  rcases h with ⟨_, rfl, _⟩ | ⟨l, h1, h2⟩
  · simp
  · intro x hx
    rw [← h2] at hx
    exact h1.lt x (List.mem_of_mem_take hx)
theorem Buf.lts {w : World} {b r : Nat} {xs : List Nat} (h : Buf w b r xs) : b < w.heap.size ∧ r < w.heap.size := by
  rcases h with ⟨h1, _, lr, h3⟩ | ⟨l, h1, _⟩
  · have := h3.lt; omega
  · obtain ⟨lr, hst⟩ := h1.st
    exact ⟨hst.lt, h1.row.lt⟩
theorem Keep.two {w w1 w2 : World} {b r r1 : Nat} (h : Keep w w1 [b]) (k : Keep w1 w2 [r1]) (hr : r1 = r ∨ w.heap.size ≤ r1) : Keep w w2 [b, r] := by
  refine (h.mono (fun i hi => ?_)).trans k (fun i hi => ?_)
  · simp only [List.mem_singleton] at hi; subst hi; exact .inl (by simp)
  · simp only [List.mem_singleton] at hi; subst hi
    rcases hr with h | h
    · subst h; exact .inl (by simp)
    · exact .inr h
theorem over_tail {l xs ys : List Nat} {n : Nat} (ht : l.take n = xs) (hn : xs.length = n) (hl : n + ys.length ≤ l.length) : (over (l.map v8) n (ys.map v8)) = (xs ++ ys ++ l.drop (n + ys.length)).map v8 := by
  unfold over
  rw [← List.map_take, ht, List.length_map, ← List.map_drop, List.map_append, List.map_append]
theorem src_keep {w w' : World} {ad : Addr} {vs : List Value} {L : List Nat} (h : ∀ j v, vs[j]? = some v → w.cell? (ad.add j) = some v) (k : Keep w w' L) (hl : ad.block < w.heap.size) (hn : ad.block ∉ L) : ∀ j v, vs[j]? = some v → w'.cell? (ad.add j) = some v := by
  intro j v hv
  rw [← h j v hv]
  have e : (ad.add j).block = ad.block := by unfold Addr.add; split <;> rfl
  exact World.cell?_of_block (k.same _ (by rw [e]; exact hl) (by rw [e]; exact hn))
/-- what stands in the row behind a write -/
theorem Buf.written {w : World} {b r n : Nat} {xs ys l : List Nat} (hB : BufR w b r (n + ys.length) l) (ht : l.take n = xs) (hn : xs.length = n) (hy : ∀ y ∈ ys, y < 256) {w' : World} (hrow : BlkF w' r 5 (over (l.map v8) n (ys.map v8))) (hK : Keep w w' [r]) : Buf w' b r (xs ++ ys) := by
  have hle := hB.le
  rw [over_tail ht hn hle] at hrow
  have hlen : (xs ++ ys ++ l.drop (n + ys.length)).length = l.length := by simp; omega
  have hxy : (xs ++ ys).length = n + ys.length := by simp; omega
  obtain ⟨lr, hst⟩ := hB.st
  refine .inr ⟨xs ++ ys ++ l.drop (n + ys.length), ⟨⟨lr, ?_⟩, hrow, by rw [hlen, hxy]; exact hle, hB.ne, by rw [hlen]; exact hB.cap, ?_⟩, List.take_left' rfl⟩
  · rw [hlen, hxy]; exact hst.keep hK (by simpa using hB.ne.symm)
  · intro x hx
    rcases List.mem_append.1 hx with h | h
    · rcases List.mem_append.1 h with h | h
      · rw [← ht] at h; exact hB.lt x (List.mem_of_mem_take h)
      · exact hy x h
    · exact hB.lt x (List.mem_of_mem_drop h)


























































































theorem c_Write (b r : Nat) (xs : List Nat) (w : World) (hB : Buf w b r xs) (hx : xs.length ≤ 500000) (ad : Addr) (m cp : Nat) (ys : List Nat) (hm : m ≤ 10000) (h0 : 0 < m) (hyl : ys.length = m) (hc : ∀ y ∈ ys, y < 256) (hsrc : ∀ j v, (ys.map v8)[j]? = some v → w.cell? (ad.add j) = some v) (hadl : ad.block < w.heap.size) (hadb : ad.block ≠ b) (hadr : ad.block ≠ r) (h64 : xs = [] → m ≤ 64) :
    Cal Try.prog 99 [vP b, .slice (some ad) m cp] w fun v w' => v = vT [vI (m : Nat), .nilIface] ∧ ∃ r', Buf w' b r' (xs ++ ys) ∧ (r' = r ∨ w.heap.size ≤ r') ∧ Keep w w' [b, r] := by
  have hlts := hB.lts
  refine go_in' Try.func99 rfl Try.ntmps99 (Nat.le_of_ble_eq_true rfl) ?_
  refine c_seq ?_
  refine c_region ?_
  refine st (y_assign (v := vI ((0 : Nat) : Int)) rfl) rfl ?_
  refine st (y_assign rfl) rfl ?_
  refine l_nil ?_
  refine q_then ?_
  refine c_seq ?_
  refine c_region ?_
  refine st (y_move rfl) rfl ?_
  refine st (y_nil rfl) rfl ?_
  refine st (fa79_2 rfl) rfl ?_
  rcases hB with ⟨rfl, rfl, lr, hst⟩ | ⟨l, hBR, ht⟩
  ·
    refine st_store rfl rfl rfl sz77 (by assumption) (by first | simp | (simp; omega)) rfl ?_
    intro w1 hst1 hK1 hS1
    have hN1 : BufN w1 r := ⟨_, hst1⟩
    refine l_nil ?_
    refine q_then ?_
    refine c_seq ?_
    refine c_region ?_
    refine st (y_move rfl) rfl ?_
    refine st (y_move rfl) rfl ?_
    refine st (y_len rfl Try.underlying42) rfl ?_
    refine sc rfl rfl isfn100 (c_tryGN r m _ hN1 (by omega) h0) rfl ?_
    rintro _ _ ⟨rfl, rfl⟩
    refine st (y_move rfl) rfl ?_
    refine st (y_extract rfl rfl) rfl ?_
    refine st (y_extract rfl rfl) rfl ?_
    refine st (y_assign rfl) rfl ?_
    refine st (y_assign rfl) rfl ?_
    refine l_nil ?_
    refine q_then ?_
    refine c_seq ?_
    refine c_seq ?_
    refine c_region ?_
    refine st (y_move rfl) rfl ?_
    refine st (y_not rfl) rfl ?_
    refine l_nil ?_
    refine q_then ?_
    refine c_true rfl rfl ?_
    refine c_region ?_
    refine st (y_move rfl) rfl ?_
    refine st (y_move rfl) rfl ?_
    refine st (y_len rfl Try.underlying42) rfl ?_
    refine sc rfl rfl isfn101 (c_growN r m _ hN1 (h64 rfl) h0) rfl ?_
    rintro _ w3 ⟨rfl, r3, l3, hr3, hB3, hKg⟩
    have hK3 : Keep w w3 [r] := hK1.trans hKg (fun i hi => .inl hi)
    have hr3' : w.heap.size ≤ r3 := Nat.le_trans hK1.size hr3
    have hle3 := hB3.le
    have hcap3 := hB3.cap
    obtain ⟨lr3, hst3⟩ := hB3.st
    clear hst1 hst
    refine st (y_assign rfl) rfl ?_
    refine l_nil ?_
    refine q_then ?_
    refine c_seq ?_
    refine c_region ?_
    refine st (y_move rfl) rfl ?_
    refine st (y_nil rfl) rfl ?_
    refine st (fa79_0 rfl) rfl ?_
    refine st (y_loadb rfl one42 (by assumption) (by rfl)) rfl ?_
    refine st (y_move rfl) rfl ?_
    refine st (y_slice_l rfl rfl Try.underlying42 sz5 (by omega)) rfl ?_
    have hif : (if l3.length = 0 then (⟨r3, 0, none⟩ : Addr) else ⟨r3, 0 + 0, none⟩) = ⟨r3, 0, none⟩ := by
      rw [if_neg (by omega), Nat.zero_add]
    rw [hif]
    refine st (y_move rfl) rfl ?_
    refine st_copyF rfl rfl Try.underlying42 sz5 hB3.row (src_keep hsrc hK3 hadl (by simpa using hadb)) (by rw [List.length_map]; exact hyl) (by omega) (by rw [List.length_map]; omega) (by intro v hv; obtain ⟨x, _, rfl⟩ := List.mem_map.1 hv; rfl) rfl ?_
    intro w9 hrow9 hK9 hS9
    refine st (y_assign rfl) rfl ?_
    refine st (y_assign rfl) rfl ?_
    refine l_nil ?_
    refine q_then ?_
    refine c_ret ?_
    refine q_end2 (.inl rfl) rfl rfl rfl ?_
    subst hyl
    have hBf := Buf.written (n := 0) (xs := []) (ys := ys) (by simpa using hB3) rfl rfl hc hrow9 hK9
    exact ⟨_, rfl, rfl, r3, hBf, .inr hr3', hK3.two hK9 (.inr hr3')⟩
  ·
    obtain ⟨lr, hst⟩ := hBR.st
    have hle := hBR.le
    have hcap := hBR.cap
    have hne := hBR.ne
    obtain ⟨n, hn⟩ : ∃ n, xs.length = n := ⟨_, rfl⟩
    rw [hn] at hst ht hle hx
    refine st_store rfl rfl rfl sz77 (by assumption) (by first | simp | (simp; omega)) rfl ?_
    intro w1 hst1 hK1 hS1
    have hB1 : BufR w1 b r n l := ⟨⟨_, hst1⟩, hBR.row.keep hK1 (by simpa using hne), hle, hne, hcap, hBR.lt⟩
    refine l_nil ?_
    refine q_then ?_
    refine c_seq ?_
    refine c_region ?_
    refine st (y_move rfl) rfl ?_
    refine st (y_move rfl) rfl ?_
    refine st (y_len rfl Try.underlying42) rfl ?_
    rcases Nat.lt_or_ge l.length (n + m) with hfit | hfit
    ·
      refine sc rfl rfl isfn100 (c_tryG0 b r n m l _ hB1 (by omega) hfit) rfl ?_
      rintro _ _ ⟨rfl, rfl⟩
      refine st (y_move rfl) rfl ?_
      refine st (y_extract rfl rfl) rfl ?_
      refine st (y_extract rfl rfl) rfl ?_
      refine st (y_assign rfl) rfl ?_
      refine st (y_assign rfl) rfl ?_
      refine l_nil ?_
      refine q_then ?_
      refine c_seq ?_
      refine c_seq ?_
      refine c_region ?_
      refine st (y_move rfl) rfl ?_
      refine st (y_not rfl) rfl ?_
      refine l_nil ?_
      refine q_then ?_
      refine c_true rfl rfl ?_
      refine c_region ?_
      refine st (y_move rfl) rfl ?_
      refine st (y_move rfl) rfl ?_
      refine st (y_len rfl Try.underlying42) rfl ?_
      refine sc rfl rfl isfn101 (c_growR b r n m l _ hB1 (by omega) (by omega) h0 hfit) rfl ?_
      rintro _ w3 ⟨rfl, r3, l3, hr3, hB3, ht3, hKg⟩
      have hK3 : Keep w w3 [b] := hK1.trans hKg (fun i hi => .inl hi)
      have hr3' : w.heap.size ≤ r3 := Nat.le_trans hK1.size hr3
      have hle3 := hB3.le
      have hcap3 := hB3.cap
      obtain ⟨lr3, hst3⟩ := hB3.st
      clear hst1 hst
      refine st (y_assign rfl) rfl ?_
      refine l_nil ?_
      refine q_then ?_
      refine c_seq ?_
      refine c_region ?_
      refine st (y_move rfl) rfl ?_
      refine st (y_nil rfl) rfl ?_
      refine st (fa79_0 rfl) rfl ?_
      refine st (y_loadb rfl one42 (by assumption) (by rfl)) rfl ?_
      refine st (y_move rfl) rfl ?_
      refine st (y_slice_l rfl rfl Try.underlying42 sz5 (by omega)) rfl ?_
      have hif : (if l3.length = n then (⟨r3, 0, none⟩ : Addr) else ⟨r3, 0 + n, none⟩) = ⟨r3, n, none⟩ := by
        rw [if_neg (by omega), Nat.zero_add]
      rw [hif]
      refine st (y_move rfl) rfl ?_
      refine st_copyF rfl rfl Try.underlying42 sz5 hB3.row (src_keep hsrc hK3 hadl (by simpa using hadb)) (by rw [List.length_map]; exact hyl) (by omega) (by rw [List.length_map]; omega) (by intro v hv; obtain ⟨x, _, rfl⟩ := List.mem_map.1 hv; rfl) rfl ?_
      intro w9 hrow9 hK9 hS9
      refine st (y_assign rfl) rfl ?_
      refine st (y_assign rfl) rfl ?_
      refine l_nil ?_
      refine q_then ?_
      refine c_ret ?_
      refine q_end2 (.inl rfl) rfl rfl rfl ?_
      subst hyl
      have hBf := Buf.written (n := n) (xs := xs) (ys := ys) hB3 (ht3.trans ht) hn hc hrow9 hK9
      exact ⟨_, rfl, rfl, r3, hBf, .inr hr3', hK3.two hK9 (.inr hr3')⟩
    ·
      refine sc rfl rfl isfn100 (c_tryG1 b r n m l _ hB1 (by omega) hfit) rfl ?_
      rintro _ w3 ⟨rfl, hB3, hKg⟩
      have hK3 : Keep w w3 [b] := hK1.trans hKg (fun i hi => .inl hi)
      have hle3 := hB3.le
      have hcap3 := hB3.cap
      obtain ⟨lr3, hst3⟩ := hB3.st
      clear hst1 hst
      refine st (y_move rfl) rfl ?_
      refine st (y_extract rfl rfl) rfl ?_
      refine st (y_extract rfl rfl) rfl ?_
      refine st (y_assign rfl) rfl ?_
      refine st (y_assign rfl) rfl ?_
      refine l_nil ?_
      refine q_then ?_
      refine c_seq ?_
      refine c_seq ?_
      refine c_region ?_
      refine st (y_move rfl) rfl ?_
      refine st (y_not rfl) rfl ?_
      refine l_nil ?_
      refine q_then ?_
      refine c_false rfl rfl ?_
      refine c_skip ?_
      refine q_then ?_
      refine c_seq ?_
      refine c_region ?_
      refine st (y_move rfl) rfl ?_
      refine st (y_nil rfl) rfl ?_
      refine st (fa79_0 rfl) rfl ?_
      refine st (y_loadb rfl one42 (by assumption) (by rfl)) rfl ?_
      refine st (y_move rfl) rfl ?_
      refine st (y_slice_l rfl rfl Try.underlying42 sz5 (by omega)) rfl ?_
      have hif : (if l.length = n then (⟨r, 0, none⟩ : Addr) else ⟨r, 0 + n, none⟩) = ⟨r, n, none⟩ := by
        rw [if_neg (by omega), Nat.zero_add]
      rw [hif]
      refine st (y_move rfl) rfl ?_
      refine st_copyF rfl rfl Try.underlying42 sz5 hB3.row (src_keep hsrc hK3 hadl (by simpa using hadb)) (by rw [List.length_map]; exact hyl) (by omega) (by rw [List.length_map]; omega) (by intro v hv; obtain ⟨x, _, rfl⟩ := List.mem_map.1 hv; rfl) rfl ?_
      intro w9 hrow9 hK9 hS9
      refine st (y_assign rfl) rfl ?_
      refine st (y_assign rfl) rfl ?_
      refine l_nil ?_
      refine q_then ?_
      refine c_ret ?_
      refine q_end2 (.inl rfl) rfl rfl rfl ?_
      subst hyl
      have hBf := Buf.written (n := n) (xs := xs) (ys := ys) hB3 ht hn hc hrow9 hK9
      exact ⟨_, rfl, rfl, r, hBf, .inl rfl, hK3.two hK9 (.inl rfl)⟩










































































































































end Go.Proofs.Ytlhbbndedbacpaa

/- Texts that were built one by one and are laid together here (a claim has at most 60 files): frames, steps, plain laws, and functions by their contracts; no statement of the program is proved here. -/
import Derived.Lib.TrailingZeros
import Derived.Test.YtkemlhhpakjojaaDoorZ3
/- How many bits of a word are set, and the sum by which the library counts them; plain lemmas, without Go. -/
set_option linter.unusedVariables false
set_option linter.unusedSimpArgs false
namespace Go.Proofs.YtkemlhhpakjojaaDoor

def cnt (f : Nat → Bool) : Nat → Nat
  | 0 => 0
  | n + 1 => cnt f n + (if f n then 1 else 0)
def popc (m : Nat) : Nat := cnt m.testBit 64

theorem cnt_le (f : Nat → Bool) (n : Nat) : cnt f n ≤ n := by
  induction n with
  | zero => simp [cnt]
  | succ n ih => simp only [cnt]; split <;> omega
theorem cnt_congr {f g : Nat → Bool} {n : Nat} (h : ∀ i, i < n → f i = g i) : cnt f n = cnt g n := by
  induction n with
  | zero => rfl
  | succ n ih => simp only [cnt]; rw [ih (fun i hi => h i (by omega)), h n (by omega)]
theorem cnt_add (f : Nat → Bool) (a b : Nat) : cnt f (a + b) = cnt f a + cnt (fun i => f (a + i)) b := by
  induction b with
  | zero => simp [cnt]
  | succ b ih => rw [← Nat.add_assoc]; simp only [cnt]; rw [ih]; omega
theorem cnt_false {f : Nat → Bool} {n : Nat} (h : ∀ i, i < n → f i = false) : cnt f n = 0 := by
  induction n with
  | zero => rfl
  | succ n ih => simp only [cnt]; rw [ih (fun i hi => h i (by omega)), h n (by omega)]; rfl

/-! ### a word by its bytes -/
def ofB : List Nat → Nat
  | [] => 0
  | b :: r => b + 256 * ofB r
def rep (c : Nat) : Nat → Nat
  | 0 => 0
  | n + 1 => c + 256 * rep c n
def f1 (b : Nat) : Nat := (b / 2 &&& 85) + (b &&& 85)
def f2 (b : Nat) : Nat := (b / 4 &&& 51) + (b &&& 51)
def f3 (b : Nat) : Nat := (b + b / 16) &&& 15
def pb (b : Nat) : Nat := cnt b.testBit 8

theorem and_256 (a b x y : Nat) (ha : a < 256) (hx : x < 256) : (a + 256 * b) &&& (x + 256 * y) = (a &&& x) + 256 * (b &&& y) := by
  have h1 : ((a + 256 * b) &&& (x + 256 * y)) % 2 ^ 8 = (a &&& x) := by
    rw [Nat.and_mod_two_pow]
    rw [show (a + 256 * b) % 2 ^ 8 = a by omega, show (x + 256 * y) % 2 ^ 8 = x by omega]
  have h2 : ((a + 256 * b) &&& (x + 256 * y)) / 2 ^ 8 = (b &&& y) := by
    rw [Nat.and_div_two_pow]
    rw [show (a + 256 * b) / 2 ^ 8 = b by omega, show (x + 256 * y) / 2 ^ 8 = y by omega]
  omega
theorem and_lt_256 (a x : Nat) (ha : a < 256) : a &&& x < 256 := Nat.lt_of_le_of_lt Nat.and_le_left ha

theorem b1 : ∀ b : Fin 256, ∀ c : Fin 2, ((b.val / 2 + 128 * c.val) &&& 85) = (b.val / 2 &&& 85) := by decide +kernel
theorem b2 : ∀ b : Fin 256, ∀ c : Fin 4, ((b.val / 4 + 64 * c.val) &&& 51) = (b.val / 4 &&& 51) := by decide +kernel
theorem b3 : ∀ b : Fin 256, f1 b.val < 256 ∧ f2 b.val < 256 ∧ (f2 (f1 b.val)) % 16 ≤ 4 ∧ (f2 (f1 b.val)) / 16 ≤ 4 ∧ f3 (f2 (f1 b.val)) = pb b.val := by decide +kernel
theorem b4 : ∀ b : Fin 69, ∀ c : Fin 5, ((b.val + b.val / 16 + 16 * c.val) &&& 15) = f3 b.val := by decide +kernel

theorem step1 (l : List Nat) (h : ∀ b ∈ l, b < 256) : (ofB l / 2 &&& rep 85 l.length) + (ofB l &&& rep 85 l.length) = ofB (l.map f1) := by
  induction l with
  | nil => rfl
  | cons b r ih =>
    have hb := h b (List.mem_cons_self ..)
    have hr := ih (fun x hx => h x (List.mem_cons_of_mem _ hx))
    simp only [ofB, rep, List.map_cons, List.length_cons]
    have e : (b + 256 * ofB r) / 2 = (b / 2 + 128 * (ofB r % 2)) + 256 * (ofB r / 2) := by omega
    rw [e, and_256 _ _ _ _ (by omega) (by omega), and_256 _ _ _ _ hb (by omega)]
    have := b1 ⟨b, hb⟩ ⟨ofB r % 2, Nat.mod_lt _ (by decide)⟩
    simp only at this
    rw [this]
    rw [show f1 b = (b / 2 &&& 85) + (b &&& 85) from rfl]
    omega
theorem step2 (l : List Nat) (h : ∀ b ∈ l, b < 256) : (ofB l / 4 &&& rep 51 l.length) + (ofB l &&& rep 51 l.length) = ofB (l.map f2) := by
  induction l with
  | nil => rfl
  | cons b r ih =>
    have hb := h b (List.mem_cons_self ..)
    have hr := ih (fun x hx => h x (List.mem_cons_of_mem _ hx))
    simp only [ofB, rep, List.map_cons, List.length_cons]
    have e : (b + 256 * ofB r) / 4 = (b / 4 + 64 * (ofB r % 4)) + 256 * (ofB r / 4) := by omega
    rw [e, and_256 _ _ _ _ (by omega) (by omega), and_256 _ _ _ _ hb (by omega)]
    have := b2 ⟨b, hb⟩ ⟨ofB r % 4, Nat.mod_lt _ (by decide)⟩
    simp only at this
    rw [this]
    rw [show f2 b = (b / 4 &&& 51) + (b &&& 51) from rfl]
    omega
theorem ofB_mod16 (l : List Nat) (h : ∀ b ∈ l, b % 16 ≤ 4) : ofB l % 16 ≤ 4 := by
  cases l with
  | nil => simp [ofB]
  | cons b r => have := h b (List.mem_cons_self ..); simp only [ofB]; omega
theorem step3 (l : List Nat) (h : ∀ b ∈ l, b % 16 ≤ 4 ∧ b / 16 ≤ 4) : (ofB l / 16 + ofB l) &&& rep 15 l.length = ofB (l.map f3) := by
  induction l with
  | nil => rfl
  | cons b r ih =>
    have hb := h b (List.mem_cons_self ..)
    have hr := ih (fun x hx => h x (List.mem_cons_of_mem _ hx))
    simp only [ofB, rep, List.map_cons, List.length_cons]
    have hm := ofB_mod16 r (fun x hx => (h x (List.mem_cons_of_mem _ hx)).1)
    have e : (b + 256 * ofB r) / 16 + (b + 256 * ofB r) = (b + b / 16 + 16 * (ofB r % 16)) + 256 * (ofB r / 16 + ofB r) := by omega
    rw [e, and_256 _ _ _ _ (by omega) (by omega)]
    have := b4 ⟨b, by omega⟩ ⟨ofB r % 16, by omega⟩
    simp only at this
    rw [this, hr]
theorem ofB_testBit_low (b m i : Nat) (hb : b < 256) (hi : i < 8) : (b + 256 * m).testBit i = b.testBit i := by
  have h : (b + 256 * m) % 2 ^ 8 = b := by omega
  rw [← h, Nat.testBit_mod_two_pow]
  simp [hi, h]
theorem ofB_testBit_high (b m i : Nat) (hb : b < 256) : (b + 256 * m).testBit (8 + i) = m.testBit i := by
  have h : (b + 256 * m) / 2 ^ 8 = m := by omega
  have h2 := Nat.testBit_div_two_pow (b + 256 * m) i (n := 8)
  rw [h] at h2
  rw [h2, Nat.add_comm 8 i]
theorem cnt_ofB (l : List Nat) (h : ∀ b ∈ l, b < 256) : cnt (ofB l).testBit (8 * l.length) = (l.map pb).sum := by
  induction l with
  | nil => rfl
  | cons b r ih =>
    have hb := h b (List.mem_cons_self ..)
    have hr := ih (fun x hx => h x (List.mem_cons_of_mem _ hx))
    rw [List.length_cons, show 8 * (r.length + 1) = 8 + 8 * r.length by omega, cnt_add]
    simp only [ofB, List.map_cons, List.sum_cons]
    rw [cnt_congr (fun i hi => ofB_testBit_low b (ofB r) i hb hi)]
    rw [cnt_congr (g := (ofB r).testBit) (fun i hi => ofB_testBit_high b (ofB r) i hb), hr]
    rfl
/-- the bytes of a word -/
def bs (m : Nat) : List Nat := [m % 256, m / 256 % 256, m / 65536 % 256, m / 16777216 % 256, m / 4294967296 % 256, m / 1099511627776 % 256, m / 281474976710656 % 256, m / 72057594037927936 % 256]
theorem ofB_bs (m : Nat) (h : m < 18446744073709551616) : ofB (bs m) = m := by
  simp only [bs, ofB]
  omega
theorem bs_lt (m : Nat) : ∀ b ∈ bs m, b < 256 := by
  intro b hb
  simp only [bs, List.mem_cons, List.not_mem_nil, or_false] at hb
  omega
theorem pb_le (b : Nat) : pb b ≤ 8 := cnt_le _ 8

theorem add_up1 (c0 c1 c2 c3 c4 c5 c6 c7 : Nat) (h0 : c0 ≤ 8) (h1 : c1 ≤ 8) (h2 : c2 ≤ 8) (h3 : c3 ≤ 8) (h4 : c4 ≤ 8) (h5 : c5 ≤ 8) (h6 : c6 ≤ 8) (h7 : c7 ≤ 8) (u : Nat) (hu : u = c0 + 256 * (c1 + 256 * (c2 + 256 * (c3 + 256 * (c4 + 256 * (c5 + 256 * (c6 + 256 * (c7 + 256 * 0)))))))) :
    u + u / 256 = (c0 + c1) + 256 * ((c1 + c2) + 256 * ((c2 + c3) + 256 * ((c3 + c4) + 256 * ((c4 + c5) + 256 * ((c5 + c6) + 256 * ((c6 + c7) + 256 * c7)))))) := by
  have : u / 256 = c1 + 256 * (c2 + 256 * (c3 + 256 * (c4 + 256 * (c5 + 256 * (c6 + 256 * c7))))) := by omega
  omega
theorem add_up2 (c0 c1 c2 c3 c4 c5 c6 c7 : Nat) (h0 : c0 ≤ 16) (h1 : c1 ≤ 16) (h2 : c2 ≤ 16) (h3 : c3 ≤ 16) (h4 : c4 ≤ 16) (h5 : c5 ≤ 16) (h6 : c6 ≤ 16) (h7 : c7 ≤ 16) (u : Nat) (hu : u = c0 + 256 * (c1 + 256 * (c2 + 256 * (c3 + 256 * (c4 + 256 * (c5 + 256 * (c6 + 256 * c7))))))) :
    u + u / 65536 = (c0 + c2) + 256 * ((c1 + c3) + 256 * ((c2 + c4) + 256 * ((c3 + c5) + 256 * ((c4 + c6) + 256 * ((c5 + c7) + 256 * (c6 + 256 * c7)))))) := by
  have : u / 65536 = c2 + 256 * (c3 + 256 * (c4 + 256 * (c5 + 256 * (c6 + 256 * c7)))) := by omega
  omega
theorem add_up3 (c0 c1 c2 c3 c4 c5 c6 c7 : Nat) (h0 : c0 ≤ 32) (h1 : c1 ≤ 32) (h2 : c2 ≤ 32) (h3 : c3 ≤ 32) (h4 : c4 ≤ 32) (u : Nat) (hu : u = c0 + 256 * (c1 + 256 * (c2 + 256 * (c3 + 256 * (c4 + 256 * (c5 + 256 * (c6 + 256 * c7))))))) :
    (u + u / 4294967296) % 128 = (c0 + c4) % 128 := by
  have : u / 4294967296 = c4 + 256 * (c5 + 256 * (c6 + 256 * c7)) := by omega
  omega
theorem swar_end (c0 c1 c2 c3 c4 c5 c6 c7 : Nat) (h0 : c0 ≤ 8) (h1 : c1 ≤ 8) (h2 : c2 ≤ 8) (h3 : c3 ≤ 8) (h4 : c4 ≤ 8) (h5 : c5 ≤ 8) (h6 : c6 ≤ 8) (h7 : c7 ≤ 8) :
    (let u := c0 + 256 * (c1 + 256 * (c2 + 256 * (c3 + 256 * (c4 + 256 * (c5 + 256 * (c6 + 256 * (c7 + 256 * 0)))))));
     let a := u + u >>> 8; let b := a + a >>> 16; let c := b + b >>> 32; c % 128) = c0 + (c1 + (c2 + (c3 + (c4 + (c5 + (c6 + (c7 + 0))))))) := by
  have e1 := add_up1 c0 c1 c2 c3 c4 c5 c6 c7 h0 h1 h2 h3 h4 h5 h6 h7 _ rfl
  have e2 := add_up2 (c0 + c1) (c1 + c2) (c2 + c3) (c3 + c4) (c4 + c5) (c5 + c6) (c6 + c7) c7 (by omega) (by omega) (by omega) (by omega) (by omega) (by omega) (by omega) (by omega) _ rfl
  have e3 := add_up3 (c0 + c1 + (c2 + c3)) (c1 + c2 + (c3 + c4)) (c2 + c3 + (c4 + c5)) (c3 + c4 + (c5 + c6)) (c4 + c5 + (c6 + c7)) (c5 + c6 + c7) (c6 + c7) c7 (by omega) (by omega) (by omega) (by omega) (by omega) _ rfl
  simp only [Nat.shiftRight_eq_div_pow]
  rw [show (2 : Nat) ^ 8 = 256 from rfl, show (2 : Nat) ^ 16 = 65536 from rfl, show (2 : Nat) ^ 32 = 4294967296 from rfl, e1, e2, e3]
  omega
theorem sum8_lt (a0 a1 a2 a3 a4 a5 a6 a7 B M : Nat) (h0 : a0 ≤ B) (h1 : a1 ≤ B) (h2 : a2 ≤ B) (h3 : a3 ≤ B) (h4 : a4 ≤ B) (h5 : a5 ≤ B) (h6 : a6 ≤ B) (h7 : a7 ≤ B) (hM : B * 72340172838076673 < M) : ofB [a0, a1, a2, a3, a4, a5, a6, a7] < M := by
  simp only [ofB]
  omega
theorem all8 {p : Nat → Prop} {a0 a1 a2 a3 a4 a5 a6 a7 : Nat} (h : ∀ b ∈ [a0, a1, a2, a3, a4, a5, a6, a7], p b) : p a0 ∧ p a1 ∧ p a2 ∧ p a3 ∧ p a4 ∧ p a5 ∧ p a6 ∧ p a7 :=
  ⟨h _ (by simp), h _ (by simp), h _ (by simp), h _ (by simp), h _ (by simp), h _ (by simp), h _ (by simp), h _ (by simp)⟩
theorem ofB_lt {l : List Nat} (hl : l.length = 8) (B M : Nat) (h : ∀ b ∈ l, b ≤ B) (hM : B * 72340172838076673 < M) : ofB l < M := by
  match l, hl with
  | [a0, a1, a2, a3, a4, a5, a6, a7], _ =>
    obtain ⟨h0, h1, h2, h3, h4, h5, h6, h7⟩ := all8 h
    exact sum8_lt a0 a1 a2 a3 a4 a5 a6 a7 B M h0 h1 h2 h3 h4 h5 h6 h7 hM
theorem ofB_end {l : List Nat} (hl : l.length = 8) (h : ∀ b ∈ l, b ≤ 8) : (let u := ofB l; let a := u + u >>> 8; let b := a + a >>> 16; let c := b + b >>> 32; c % 128) = l.sum := by
  match l, hl with
  | [a0, a1, a2, a3, a4, a5, a6, a7], _ =>
    obtain ⟨h0, h1, h2, h3, h4, h5, h6, h7⟩ := all8 h
    exact swar_end a0 a1 a2 a3 a4 a5 a6 a7 h0 h1 h2 h3 h4 h5 h6 h7
/-- the library's sum -/
theorem swar (m : Nat) (h : m < 18446744073709551616) : ∃ y z u : Nat,
    ((m >>> 1) &&& 6148914691236517205) + (m &&& 6148914691236517205) = y ∧ y < 18446744073709551616 ∧
    ((y >>> 2) &&& 3689348814741910323) + (y &&& 3689348814741910323) = z ∧ z < 4919131752989213765 ∧
    ((z >>> 4) + z) &&& 1085102592571150095 = u ∧ u < 578721382704613385 ∧
    (let a := u + u >>> 8; let b := a + a >>> 16; let c := b + b >>> 32; c % 128 = popc m) := by
  have hm := ofB_bs m h
  have hl := bs_lt m
  have e1 := step1 (bs m) hl
  have hl1 : ∀ b ∈ (bs m).map f1, b < 256 := by
    intro b hb
    obtain ⟨x, hx, rfl⟩ := List.mem_map.1 hb
    exact (b3 ⟨x, hl x hx⟩).1
  have e2 := step2 ((bs m).map f1) hl1
  have hl2 : ∀ b ∈ ((bs m).map f1).map f2, b % 16 ≤ 4 ∧ b / 16 ≤ 4 := by
    intro b hb
    obtain ⟨x, hx, rfl⟩ := List.mem_map.1 hb
    obtain ⟨y, hy, rfl⟩ := List.mem_map.1 hx
    exact ⟨(b3 ⟨y, hl y hy⟩).2.2.1, (b3 ⟨y, hl y hy⟩).2.2.2.1⟩
  have e3 := step3 _ hl2
  have e4 : (((bs m).map f1).map f2).map f3 = (bs m).map pb := by
    rw [List.map_map, List.map_map]
    apply List.map_congr_left
    intro x hx
    exact (b3 ⟨x, hl x hx⟩).2.2.2.2
  rw [e4] at e3
  have e5 := cnt_ofB (bs m) hl
  have hp : ∀ b ∈ (bs m).map pb, b ≤ 8 := by
    intro b hb
    obtain ⟨x, _, rfl⟩ := List.mem_map.1 hb
    exact pb_le x
  rw [hm] at e1 e5
  simp only [List.length_map] at e2 e3
  have r85 : rep 85 (bs m).length = 6148914691236517205 := rfl
  have r51 : rep 51 (bs m).length = 3689348814741910323 := rfl
  have r15 : rep 15 (bs m).length = 1085102592571150095 := rfl
  rw [r85] at e1
  rw [r51] at e2
  rw [r15] at e3
  refine ⟨ofB ((bs m).map f1), ofB (((bs m).map f1).map f2), ofB ((bs m).map pb), ?_, ?_, ?_, ?_, ?_, ?_, ?_⟩
  · rw [Nat.shiftRight_eq_div_pow]; exact e1
  · exact ofB_lt (by simp [bs]) 255 _ (fun b hb => by have := hl1 b hb; omega) (by decide)
  · rw [Nat.shiftRight_eq_div_pow]; exact e2
  · exact ofB_lt (by simp [bs]) 68 _ (fun b hb => by have := hl2 b hb; omega) (by decide)
  · rw [Nat.shiftRight_eq_div_pow]; exact e3
  · exact ofB_lt (by simp [bs]) 8 _ hp (by decide)
  · exact (ofB_end (by simp [bs]) hp).trans e5.symm
theorem popc_le (m : Nat) : popc m ≤ 64 := cnt_le _ 64
theorem popc_zero : popc 0 = 0 := cnt_false (fun i _ => by simp)
end Go.Proofs.YtkemlhhpakjojaaDoor

/- Counts of numbers: of words, of lists of truths, between two places; plain lemmas, without Go. -/
set_option linter.unusedVariables false
set_option linter.unusedSimpArgs false
namespace Go.Proofs.YtkemlhhpakjojaaDoor

def psum (ws : List Nat) : Nat := (ws.map popc).sum
def count (s : List Bool) : Nat := cnt (fun i => s.getD i false) s.length
def btw (s : List Bool) (a b : Nat) : Nat := cnt (fun k => s.getD (a + k) false) (b - a)

theorem psum_snoc (ws : List Nat) (x : Nat) : psum (ws ++ [x]) = psum ws + popc x := by simp [psum]
theorem psum_cons (ws : List Nat) (x : Nat) : psum (x :: ws) = popc x + psum ws := by simp [psum]
theorem psum_append (ws vs : List Nat) : psum (ws ++ vs) = psum ws + psum vs := by simp [psum]
theorem psum_le (ws : List Nat) : psum ws ≤ 64 * ws.length := by
  induction ws with
  | nil => simp [psum]
  | cons x r ih => rw [psum_cons, List.length_cons]; have := popc_le x; omega
theorem psum_zeros (n : Nat) : psum (List.replicate n 0) = 0 := by
  induction n with
  | zero => rfl
  | succ n ih => rw [List.replicate_succ, psum_cons, ih, popc_zero]
theorem take_succ_getD' (xs : List Nat) (k : Nat) (h : k < xs.length) : xs.take (k + 1) = xs.take k ++ [xs.getD k 0] := take_succ_getD xs k h
theorem cnt_wbit (ws : List Nat) (k : Nat) (hk : k ≤ ws.length) : cnt (wbit ws) (64 * k) = psum (ws.take k) := by
  induction k with
  | zero => simp [cnt, psum]
  | succ k ih =>
    rw [take_succ_getD ws k (by omega), psum_snoc, show 64 * (k + 1) = 64 * k + 64 by omega, cnt_add, ih (by omega)]
    congr 1
    apply cnt_congr
    intro i hi
    unfold wbit
    rw [show (64 * k + i) / 64 = k by omega, show (64 * k + i) % 64 = i by omega]
theorem cnt_ge {f : Nat → Bool} {n m : Nat} (h : n ≤ m) (hf : ∀ i, n ≤ i → f i = false) : cnt f m = cnt f n := by
  obtain ⟨j, rfl⟩ : ∃ j, m = n + j := ⟨m - n, by omega⟩
  rw [cnt_add, cnt_false (f := fun i => f (n + i)) (fun i _ => hf (n + i) (by omega)), Nat.add_zero]
theorem psum_pack (s : List Bool) : psum (pack s) = count s := by
  have h := cnt_wbit (pack s) (pack s).length (Nat.le_refl _)
  rw [List.take_length] at h
  rw [← h]
  unfold count
  rw [cnt_congr (fun i _ => wbit_pack s i)]
  exact cnt_ge (by rw [pack_length]; unfold nW; omega) (fun i hi => getD_ge s false hi)
theorem count_le (s : List Bool) : count s ≤ s.length := cnt_le _ _
theorem btw_le (s : List Bool) (a b : Nat) : btw s a b ≤ b - a := cnt_le _ _
theorem btw_zero (s : List Bool) (a b : Nat) (h : b ≤ a) : btw s a b = 0 := by unfold btw; rw [Nat.sub_eq_zero_of_le h]; rfl
theorem btw_succ (s : List Bool) (a b : Nat) (h : a ≤ b) : btw s a (b + 1) = btw s a b + (if s.getD b false then 1 else 0) := by
  unfold btw
  rw [show b + 1 - a = (b - a) + 1 by omega]
  simp only [cnt, show a + (b - a) = b from by omega]
theorem btw_split (s : List Bool) (a b c : Nat) (h1 : a ≤ b) (h2 : b ≤ c) : btw s a c = btw s a b + btw s b c := by
  unfold btw
  rw [show c - a = (b - a) + (c - b) by omega, cnt_add]
  congr 1
  apply cnt_congr
  intro i _
  rw [show a + (b - a + i) = b + i by omega]
theorem btw_past (s : List Bool) (a b : Nat) (h : s.length ≤ a) : btw s a b = 0 := cnt_false (fun i _ => getD_ge s false (by omega))
theorem btw_min (s : List Bool) (a b : Nat) : btw s a (min b s.length) = btw s a b := by
  rcases Nat.le_total b s.length with h | h
  · rw [Nat.min_eq_left h]
  · rw [Nat.min_eq_right h]
    rcases Nat.le_total a s.length with h2 | h2
    · rw [btw_split s a s.length b h2 h, btw_past s s.length b (Nat.le_refl _), Nat.add_zero]
    · rw [btw_zero s a _ h2, btw_past s a b h2]
theorem btw_all (s : List Bool) : btw s 0 s.length = count s := by
  unfold btw count
  apply cnt_congr
  intro i _
  rw [Nat.zero_add]
/-- whole words -/
theorem btw_words (s : List Bool) (k : Nat) (h : k ≤ nW s.length) : btw s 0 (64 * k) = psum ((pack s).take k) := by
  rw [← cnt_wbit _ _ (by rw [pack_length]; exact h)]
  unfold btw
  apply cnt_congr
  intro i _
  rw [Nat.zero_add, wbit_pack]

/-! ### the numbers of a list of truths -/
theorem numsFrom_snoc (s : List Bool) (b : Bool) : ∀ i, numsFrom i (s ++ [b]) = numsFrom i s ++ (if b then [i + s.length] else []) := by
  induction s with
  | nil => intro i; cases b <;> simp [numsFrom]
  | cons x r ih =>
    intro i
    simp only [List.cons_append, numsFrom, ih, List.length_cons]
    rw [show i + 1 + r.length = i + (r.length + 1) by omega]
    cases x <;> simp
theorem nums_snoc (s : List Bool) (b : Bool) : nums (s ++ [b]) = nums s ++ (if b then [s.length] else []) := by
  unfold nums; rw [numsFrom_snoc, Nat.zero_add]
theorem take_succ_getDB (s : List Bool) (k : Nat) (h : k < s.length) : s.take (k + 1) = s.take k ++ [s.getD k false] := by
  rw [List.take_succ_eq_append_getElem h]
  simp [List.getD_eq_getElem?_getD, h]
theorem nums_take_succ (s : List Bool) (k : Nat) (h : k < s.length) : nums (s.take (k + 1)) = nums (s.take k) ++ (if s.getD k false then [k] else []) := by
  rw [take_succ_getDB s k h, nums_snoc]
  simp [Nat.min_eq_left (Nat.le_of_lt h)]
theorem nums_length_take (s : List Bool) (k : Nat) (h : k ≤ s.length) : (nums (s.take k)).length = cnt (fun i => s.getD i false) k := by
  induction k with
  | zero => rfl
  | succ k ih =>
    rw [nums_take_succ s k (by omega), List.length_append, ih (by omega)]
    simp only [cnt]
    by_cases hb : s.getD k false = true
    · rw [if_pos hb, if_pos hb]; rfl
    · rw [if_neg hb, if_neg hb]; rfl
theorem nums_length (s : List Bool) : (nums s).length = count s := by
  have := nums_length_take s s.length (Nat.le_refl _)
  rwa [List.take_length] at this
theorem nums_lt (s : List Bool) : ∀ x ∈ nums s, x < s.length := by
  have key : ∀ k, k ≤ s.length → ∀ x ∈ nums (s.take k), x < k := by
    intro k
    induction k with
    | zero => intro _ x hx; simp [nums, numsFrom] at hx
    | succ k ih =>
      intro hk x hx
      rw [nums_take_succ s k (by omega)] at hx
      rcases List.mem_append.1 hx with h | h
      · have := ih (by omega) x h; omega
      · by_cases hb : s.getD k false = true
        · rw [if_pos hb] at h; simp only [List.mem_singleton] at h; omega
        · rw [if_neg hb] at h; simp at h
  have := key s.length (Nat.le_refl _)
  rwa [List.take_length] at this
end Go.Proofs.YtkemlhhpakjojaaDoor

/- The reference's Numbers, by its contract. -/
set_option linter.unusedVariables false
set_option linter.unusedSimpArgs false
set_option maxRecDepth 100000
namespace Go.Proofs.YtkemlhhpakjojaaDoor
open Go Go.RowKit

/-- a list of truths that is only read -/
def RdB (w : World) (A : Option Addr) (n : Nat) (s : List Bool) : Prop :=
  s.length = n ∧ n ≤ 9223372036854775807 ∧ (0 < n → ∃ ad, A = some ad ∧ ad.block < w.heap.size ∧ ∀ j, j < n → w.cell? (ad.add j) = some (vB (s.getD j false)))
theorem RdB.keep {w w' : World} {A : Option Addr} {n : Nat} {s : List Bool} {L : List Nat} (h : RdB w A n s) (k : Keep w w' L) (hn : ∀ i, i ∈ L → (∀ ad, A = some ad → i ≠ ad.block) ∨ w.heap.size ≤ i) : RdB w' A n s :=
  ⟨h.1, h.2.1, fun h0 => by
    obtain ⟨ad, h1, h2, h3⟩ := h.2.2 h0
    refine ⟨ad, h1, Nat.lt_of_lt_of_le h2 k.size, fun j hj => ?_⟩
    rw [← h3 j hj]
    have e : (ad.add j).block = ad.block := by unfold Addr.add; split <;> rfl
    refine World.cell?_of_block (k.same _ ?_ ?_)
    · rw [e]; exact h2
    · intro hm
      rcases hn _ hm with h4 | h4
      · exact h4 ad h1 e
      · omega⟩
theorem Bl.rdB {w : World} {b : Nat} {s : List Bool} (h : Bl w b s) (hs : s.length ≤ 9223372036854775807) : RdB w (some ⟨b, 0, none⟩) s.length s :=
  ⟨rfl, hs, fun h0 => ⟨_, rfl, Blk.lt h, fun j hj => by
    rw [add_pt, Nat.zero_add]
    refine Blk.cell h ?_
    rw [List.getElem?_map, List.getElem?_eq_getElem hj, List.getD_eq_getElem?_getD, List.getElem?_eq_getElem hj]; rfl⟩⟩
theorem Ow.rdB {w : World} {base : Nat} {e : TypeId} {A : Option Addr} {n c : Nat} {s : List Bool} (h : Ow w base e (.slice A n c) (s.map vB)) : n = s.length ∧ RdB w A n s := by
  rcases h with ⟨h1, h2⟩ | ⟨b, c', tail, h1, _, hB, hc, hm⟩
  · cases h1
    have : s = [] := by simpa using h2
    subst this
    exact ⟨rfl, rfl, by simp, fun h => absurd h (by simp)⟩
  · cases h1
    rw [List.length_map]
    refine ⟨rfl, rfl, ?_, fun h0 => ⟨_, rfl, hB.lt, fun j hj => ?_⟩⟩
    · simp only [List.length_map] at hc; unfold maxLen at hm; omega
    · rw [add_pt, Nat.zero_add]
      refine hB.cell ?_
      rw [List.getElem?_append_left (by simpa using hj), List.getElem?_map, List.getElem?_eq_getElem hj]
      simp [List.getD_eq_getElem?_getD, hj]

theorem c_NumbersR (A : Option Addr) (n c : Nat) (s : List Bool) (w : World) (hB : RdB w A n s) (hs : s.length ≤ 100000) :
    Cal Tryd.prog 30 [.slice A n c] w fun v w' => Ow w' w.heap.size 22 v ((nums s).map vU) ∧ Keep w w' [] := by
  have hn : n = s.length := hB.1.symm
  subst hn
  refine go_in' Tryd.func30 rfl Tryd.ntmps30 (Nat.le_of_ble_eq_true rfl) ?_
  refine c_seq ?_
  refine c_region ?_
  refine st (y_assign rfl) rfl ?_
  refine l_nil ?_
  refine q_then ?_
  refine c_seq ?_
  refine c_region ?_
  refine st_buildSlice0 Tryd.underlying23 sz22 rfl ?_
  intro b1 w1 hb1 hB1 hK1 hS1
  refine st (y_assign rfl) rfl ?_
  refine l_nil ?_
  refine q_then ?_
  refine c_seq ?_
  refine c_seq ?_
  refine c_region ?_
  refine st (y_move rfl) rfl ?_
  refine st (y_len rfl Tryd.underlying29) rfl ?_
  refine st (y_move (v := vI ((0 : Nat) : Int)) rfl) rfl ?_
  refine l_nil ?_
  refine q_then ?_
  refine c_block ?_
  refine c_loop (fun x : Nat × Value => [(0, .slice A s.length c), (3, x.2), (7, .slice A s.length c), (8, vI (s.length : Nat)), (9, vI (x.1 : Nat))]) (fun x w' => x.1 ≤ s.length ∧ Ow w' w.heap.size 22 x.2 ((nums (s.take x.1)).map vU) ∧ Keep w w' []) (fun x => s.length - x.1) (0, vS b1 0 0) ?_ ?_ ?_
  · exact ⟨rfl, rfl, rfl, rfl, rfl, trivial⟩
  · exact ⟨Nat.zero_le _, Ow.empty hB1 (by omega), hK1⟩
  · rintro ⟨k, v⟩ w2 ⟨hk, hO, hKk⟩
    simp only at hk hO hKk ⊢
    have hB2 := hB.keep hKk (by simp)
    refine c_seq ?_
    refine c_region ?_
    refine st_if (y_lt_i rfl rfl) rfl (fun hlt => ?_) (fun hlt => ?_)
    · have hkn : k < s.length := by omega
      have hstep := nums_take_succ s k hkn
      obtain ⟨ad, rfl, had, hcell⟩ := hB2.2.2 (by omega)
      have hcl0 := hcell k (by omega)
      refine l_nil ?_
      refine q_then ?_
      refine c_seq ?_
      refine c_true rfl rfl ?_
      refine c_skip ?_
      refine q_then ?_
      refine c_seq ?_
      refine c_block ?_
      refine c_seq ?_
      refine c_region ?_
      refine st (y_move rfl) rfl ?_
      first | refine st (y_index0 rfl rfl Tryd.underlying29 sz4 (by omega)) rfl ?_ | refine st (y_index rfl rfl Tryd.underlying29 sz4 (by omega)) rfl ?_ | refine st (y_indexA rfl rfl Tryd.underlying29 sz4 (by omega)) rfl ?_
      refine st (y_load rfl one4 (by assumption)) rfl ?_
      refine st (y_assign rfl) rfl ?_
      refine st (y_assign rfl) rfl ?_
      refine l_nil ?_
      refine q_then ?_
      refine c_seq ?_
      refine c_region ?_
      refine st (y_move rfl) rfl ?_
      refine l_nil ?_
      refine q_then ?_
      refine c_ifb rfl (fun hbit => ?_) (fun hbit => ?_)
      · rw [if_pos hbit] at hstep
        have hlen := nums_length_take s k (by omega)
        have hcl := cnt_le (fun i => s.getD i false) k
        refine c_region ?_
        refine st (y_move rfl) rfl ?_
        refine st (y_move rfl) rfl ?_
        refine st (y_conv_iu rfl us3 Tryd.underlying22 rfl (by omega)) rfl ?_
        refine st_buildSlice [vU k] Tryd.underlying23 sz22 zv22 rfl (by decide) (by decide) (by kernel_rfl) rfl ?_
        intro b3 w3 hb3 hB3 hK3 hS3
        have hO3 := hO.keep hK3 (by simp)
        have hsz := hKk.size
        obtain ⟨i22, hi1, hi2, hi3, hi4⟩ := info_parts inf22
        refine st_append1 rfl rfl Tryd.underlying23 hi1 hi2 hi3 (by omega) rfl rfl (by assumption) (by assumption) (by first | omega | (simp only [List.length_map, List.length_nil, List.length_append, List.length_cons, List.length_take, List.length_drop]; omega)) (by omega) rfl ?_
        clear hi1 hi2 hi3 hi4
        intro v4 w4 L4 hO4 hK4 hL4
        refine st (y_assign rfl) rfl ?_
        refine l_nil ?_
        refine q_block ?_
        refine q_then ?_
        refine c_region ?_
        first | refine st (y_add_in (b := 1) rfl rfl (by omega)) rfl ?_ | refine st (y_add_i (b := 1) rfl rfl (by omega) (by omega)) rfl ?_
        refine st (y_move rfl) rfl ?_
        refine l_nil ?_
        refine q_round (k + 1, v4) ⟨rfl, rfl, rfl, rfl, rfl, trivial⟩ ⟨by simp only; omega, ?_, ?_⟩ (by simp only; omega)
        · simp only
          rw [hstep, List.map_append]
          exact hO4
        · exact (hKk.trans hK3 (by simp)).trans hK4 (fun i hi => .inr (hL4 i hi))
      ·
        have hbit' : ¬ s.getD k false = true := by rw [hbit]; simp
        rw [if_neg hbit', List.append_nil] at hstep
        refine c_skip ?_
        refine q_block ?_
        refine q_then ?_
        refine c_region ?_
        first | refine st (y_add_in (b := 1) rfl rfl (by omega)) rfl ?_ | refine st (y_add_i (b := 1) rfl rfl (by omega) (by omega)) rfl ?_
        refine st (y_move rfl) rfl ?_
        refine l_nil ?_
        refine q_round (k + 1, v) ⟨rfl, rfl, rfl, rfl, rfl, trivial⟩ ⟨by simp only; omega, ?_, hKk⟩ (by simp only; omega)
        simp only
        rw [hstep]
        exact hO
    ·
      have hkn : k = s.length := by omega
      rw [hkn, List.take_length] at hO
      refine l_nil ?_
      refine q_then ?_
      refine c_seq ?_
      refine c_false rfl rfl ?_
      refine c_exit ?_
      refine q_then_exit ?_
      refine q_then_exit ?_
      refine q_block_hit ?_
      refine q_then ?_
      refine c_seq ?_
      refine c_region ?_
      refine st (y_move rfl) rfl ?_
      refine st (y_assign rfl) rfl ?_
      refine l_nil ?_
      refine q_then ?_
      refine c_ret ?_
      refine q_end1 (.inl rfl) rfl rfl ?_
      exact ⟨_, rfl, hO, hKk⟩
theorem c_Numbers (b : Nat) (s : List Bool) (w : World) (hB : Bl w b s) (hs : s.length ≤ 100000) :
    Cal Tryd.prog 30 [vS b s.length s.length] w fun v w' => Ow w' w.heap.size 22 v ((nums s).map vU) ∧ Keep w w' [] :=
  c_NumbersR _ _ _ s w (hB.rdB (by omega)) hs


end Go.Proofs.YtkemlhhpakjojaaDoor

/- Counts up to a place; plain lemmas, without Go. -/
set_option linter.unusedVariables false
set_option linter.unusedSimpArgs false
namespace Go.Proofs.YtkemlhhpakjojaaDoor

theorem popc_shl (m r : Nat) (hr : r < 64) : popc ((m <<< (63 - r)) % 18446744073709551616) = cnt m.testBit (r + 1) := by
  unfold popc
  have e : 64 = (63 - r) + (r + 1) := by omega
  conv => lhs; rw [e]
  rw [cnt_add, cnt_false (f := ((m <<< (63 - r)) % 18446744073709551616).testBit) (fun i hi => by rw [testBit_shl]; simp [show ¬ 63 - r ≤ i by omega]), Nat.zero_add]
  apply cnt_congr
  intro i hi
  rw [testBit_shl]
  simp [show 63 - r + i < 64 by omega]
theorem btw_word (s : List Bool) (j r : Nat) (hr : r ≤ 64) : btw s (64 * j) (64 * j + r) = cnt (wordAt s j).testBit r := by
  unfold btw
  rw [show 64 * j + r - 64 * j = r by omega]
  apply cnt_congr
  intro i hi
  rw [wordAt_testBit]
  simp [show i < 64 by omega]
theorem rank_eq (s : List Bool) (i : Nat) (h : i / 64 < nW s.length) : psum ((pack s).take (i / 64)) + popc ((wordAt s (i / 64) <<< (63 - i % 64)) % 18446744073709551616) = btw s 0 (i + 1) := by
  rw [popc_shl _ _ (Nat.mod_lt _ (by decide)), ← btw_words s _ (by omega), ← btw_word s _ _ (by omega), btw_split s 0 (64 * (i / 64)) (i + 1) (by omega) (by omega)]
  congr 2
  omega
theorem rank_past (s : List Bool) (i : Nat) (h : nW s.length ≤ i / 64) : psum (pack s) = btw s 0 (i + 1) := by
  rw [psum_pack, ← btw_all, btw_split s 0 s.length (i + 1) (by omega) (by unfold nW at h; omega), btw_past s s.length _ (Nat.le_refl _), Nat.add_zero]
/-- a mask over a word -/
theorem popc_and_low (m r : Nat) (hr : r ≤ 64) (f : Nat → Bool) (x : Nat) (hx : ∀ i, i < 64 → x.testBit i = (m.testBit i && decide (i < r))) : popc x = cnt m.testBit r := by
  unfold popc
  have e : 64 = r + (64 - r) := by omega
  conv => lhs; rw [e]
  rw [cnt_add, cnt_false (f := fun i => x.testBit (r + i)) (fun i hi => by rw [hx _ (by omega)]; simp), Nat.add_zero]
  apply cnt_congr
  intro i hi
  rw [hx _ (by omega)]
  simp [hi]
end Go.Proofs.YtkemlhhpakjojaaDoor

/- Counts between two places, by words and masks; plain lemmas, without Go. -/
set_option linter.unusedVariables false
set_option linter.unusedSimpArgs false
namespace Go.Proofs.YtkemlhhpakjojaaDoor

theorem shl1 (r : Nat) (hr : r < 64) : (1 <<< r) % 18446744073709551616 = 2 ^ r := by
  rw [Nat.one_shiftLeft]
  exact Nat.mod_eq_of_lt (by simpa using Nat.pow_lt_pow_right (a := 2) (by decide) hr)
theorem shl1_pos (r : Nat) (hr : r < 64) : 1 ≤ (1 <<< r) % 18446744073709551616 := by rw [shl1 r hr]; exact Nat.one_le_two_pow
theorem low_testBit (r i : Nat) (hr : r < 64) : ((1 <<< r) % 18446744073709551616 - 1).testBit i = decide (i < r) := by
  rw [shl1 r hr, Nat.testBit_two_pow_sub_one]
def nt' (m : Nat) : Nat := m ^^^ 18446744073709551615
theorem nt_testBit (m i : Nat) : (nt' m).testBit i = (m.testBit i ^^ decide (i < 64)) := by
  unfold nt'
  rw [Nat.testBit_xor, show (18446744073709551615 : Nat) = 2 ^ 64 - 1 by decide, Nat.testBit_two_pow_sub_one]
theorem popc_range (x m a b : Nat) (hab : a ≤ b) (hb : b ≤ 64) (hx : ∀ i, i < 64 → x.testBit i = (m.testBit i && (decide (a ≤ i) && decide (i < b)))) : popc x = cnt (fun k => m.testBit (a + k)) (b - a) := by
  unfold popc
  have e : 64 = a + ((b - a) + (64 - b)) := by omega
  conv => lhs; rw [e]
  rw [cnt_add, cnt_false (fun i hi => by rw [hx _ (by omega)]; simp [show ¬ a ≤ i by omega]), Nat.zero_add, cnt_add]
  rw [cnt_false (f := fun i => x.testBit (a + (b - a + i))) (fun i hi => by rw [hx _ (by omega)]; simp [show ¬ a + (b - a + i) < b by omega]), Nat.add_zero]
  apply cnt_congr
  intro i hi
  rw [hx _ (by omega)]
  simp [show a + i < b by omega]
theorem btw_inword (s : List Bool) (j a b : Nat) (hab : a ≤ b) (hb : b ≤ 64) : btw s (64 * j + a) (64 * j + b) = cnt (fun k => (wordAt s j).testBit (a + k)) (b - a) := by
  unfold btw
  rw [show 64 * j + b - (64 * j + a) = b - a by omega]
  apply cnt_congr
  intro i hi
  rw [wordAt_testBit]
  simp [show a + i < 64 by omega, Nat.add_assoc]
theorem mid_word (s : List Bool) (j a b : Nat) (hab : a ≤ b) (hb : b < 64) : popc (wordAt s j &&& (((1 <<< b) % 18446744073709551616 - 1) &&& nt' ((1 <<< a) % 18446744073709551616 - 1))) = btw s (64 * j + a) (64 * j + b) := by
  rw [btw_inword s j a b hab (by omega)]
  apply popc_range _ _ a b hab (by omega)
  intro i hi
  rw [Nat.testBit_and, Nat.testBit_and, nt_testBit, low_testBit _ _ hb, low_testBit _ _ (by omega)]
  by_cases h1 : i < a
  · simp [h1, hi, show ¬ a ≤ i by omega]
  · simp [h1, hi, show a ≤ i by omega]
theorem high_word (s : List Bool) (j a : Nat) (ha : a < 64) : popc (wordAt s j &&& nt' ((1 <<< a) % 18446744073709551616 - 1)) = btw s (64 * j + a) (64 * j + 64) := by
  rw [btw_inword s j a 64 (by omega) (by omega)]
  apply popc_range _ _ a 64 (by omega) (by omega)
  intro i hi
  rw [Nat.testBit_and, nt_testBit, low_testBit _ _ ha]
  by_cases h1 : i < a
  · simp [h1, hi, show ¬ a ≤ i by omega]
  · simp [h1, hi, show a ≤ i by omega]
theorem low_word (s : List Bool) (j b : Nat) (hb : b < 64) : popc (wordAt s j &&& ((1 <<< b) % 18446744073709551616 - 1)) = btw s (64 * j) (64 * j + b) := by
  have h := btw_inword s j 0 b (by omega) (by omega)
  rw [Nat.add_zero] at h
  rw [h]
  apply popc_range _ _ 0 b (by omega) (by omega)
  intro i hi
  rw [Nat.testBit_and, low_testBit _ _ hb]
  simp
theorem psum_take_drop (ws : List Nat) (a b : Nat) (h : a ≤ b) : psum (ws.take b) = psum (ws.take a) + psum ((ws.drop a).take (b - a)) := by
  rw [← psum_append]
  congr 1
  have e : b = a + (b - a) := by omega
  conv => lhs; rw [e]
  rw [List.take_add]
theorem btw_mid (s : List Bool) (a b : Nat) (h : a ≤ b) (hb : b ≤ nW s.length) : btw s (64 * a) (64 * b) = psum (((pack s).drop a).take (b - a)) := by
  have h1 := btw_words s a (by omega)
  have h2 := btw_words s b hb
  have h3 := psum_take_drop (pack s) a b h
  have h4 := btw_split s 0 (64 * a) (64 * b) (by omega) (by omega)
  omega
theorem cnt_eq_zero {f : Nat → Bool} {n : Nat} (h : cnt f n = 0) : ∀ i, i < n → f i = false := by
  induction n with
  | zero => intro i hi; omega
  | succ n ih =>
    simp only [cnt] at h
    intro i hi
    by_cases e : i = n
    · subst e
      by_cases hf : f i = true
      · rw [if_pos hf] at h; omega
      · simpa using hf
    · exact ih (by omega) i (by omega)
theorem popc_pos {m : Nat} (h : m < 18446744073709551616) (h0 : 0 < m) : 0 < popc m := by
  rcases Nat.eq_zero_or_pos (popc m) with e | e
  · exfalso
    have hz := cnt_eq_zero e
    have : m = 0 := by
      apply Nat.eq_of_testBit_eq
      intro i
      rw [Nat.zero_testBit]
      by_cases hi : i < 64
      · exact hz i hi
      · exact testBit_big h (by omega)
    omega
  · exact e
theorem psum_getD_le (ws : List Nat) (k : Nat) (hk : k < ws.length) : popc (ws.getD k 0) ≤ psum ws := by
  have h := List.take_append_drop (k + 1) ws
  rw [← h, psum_append, take_succ_getD ws k hk, psum_snoc]
  have e : (ws.take k ++ [ws.getD k 0] ++ ws.drop (k + 1)).getD k 0 = ws.getD k 0 := by
    rw [← take_succ_getD ws k hk, h]
  rw [e]
  omega
end Go.Proofs.YtkemlhhpakjojaaDoor

/- The number of a set's j-th member: the halving search in a word, and the words before it. -/
set_option linter.unusedVariables false
set_option linter.unusedSimpArgs false
namespace Go.Proofs.YtkemlhhpakjojaaDoor

/-- the search in the word m for its j-th bit has come to the k bits from pos on, which are the low bits of x; i bits are to be passed yet -/
def Sel (m j pos k x i : Nat) : Prop :=
  x < 18446744073709551616 ∧ (∀ b, b < k → x.testBit b = m.testBit (pos + b)) ∧ cnt m.testBit pos + i = j ∧ i < cnt x.testBit k ∧ pos + k ≤ 64

theorem Sel.start {m j : Nat} (hm : m < 18446744073709551616) (h : j < popc m) : Sel m j 0 64 m j :=
  ⟨hm, fun b _ => by rw [Nat.zero_add], by simp [cnt], h, by omega⟩

theorem cnt_low {m x h : Nat} (hh : h ≤ 64) (hx : ∀ i, i < 64 → x.testBit i = (m.testBit i && decide (i < h))) : popc x = cnt m.testBit h :=
  popc_and_low m h hh (fun _ => true) x hx

theorem cnt_eq_below {x m h k : Nat} (hh : h ≤ k) (hk : k ≤ 64) (hx : ∀ i, i < 64 → x.testBit i = (m.testBit i && decide (i < h))) : cnt x.testBit h = cnt m.testBit h :=
  cnt_congr fun i hi => by rw [hx i (by omega)]; simp [hi]

theorem Sel.low {m j pos x i h lo : Nat} (s : Sel m j pos (h + h) x i) (hlo : lo < 18446744073709551616) (hb : ∀ i, i < 64 → lo.testBit i = (x.testBit i && decide (i < h))) (hi : i < popc lo) : Sel m j pos h lo i := by
  obtain ⟨h1, h2, h3, h4, h5⟩ := s
  refine ⟨hlo, fun b hbh => ?_, h3, ?_, by omega⟩
  · rw [hb b (by omega), h2 b (by omega)]; simp [hbh]
  · rw [cnt_low (by omega) hb] at hi
    rwa [cnt_eq_below (Nat.le_refl h) (by omega) hb]

theorem Sel.high {m j pos x i h lo : Nat} (s : Sel m j pos (h + h) x i) (hb : ∀ i, i < 64 → lo.testBit i = (x.testBit i && decide (i < h))) (hi : popc lo ≤ i) : Sel m j (pos + h) h (x >>> h) (i - popc lo) := by
  obtain ⟨h1, h2, h3, h4, h5⟩ := s
  rw [cnt_low (by omega) hb] at hi ⊢
  have e1 := cnt_add m.testBit pos h
  have e2 : cnt (fun i => m.testBit (pos + i)) h = cnt x.testBit h := cnt_congr fun b hbh => (h2 b (by omega)).symm
  have e3 := cnt_add x.testBit h h
  have e4 : cnt (fun i => x.testBit (h + i)) h = cnt (x >>> h).testBit h := cnt_congr fun b _ => by rw [testBit_shr]
  refine ⟨?_, fun b hbh => ?_, by omega, by omega, by omega⟩
  · rw [Nat.shiftRight_eq_div_pow]; exact Nat.lt_of_le_of_lt (Nat.div_le_self _ _) h1
  · rw [testBit_shr, h2 (h + b) (by omega), Nat.add_assoc]

theorem low_mask (x h : Nat) (M : Nat) (hM : M = 2 ^ h - 1) : ∀ i, i < 64 → (x &&& M).testBit i = (x.testBit i && decide (i < h)) := by
  intro i _
  rw [hM, Nat.testBit_and, Nat.testBit_two_pow_sub_one]

theorem bit_toNat (x a : Nat) : (x >>> a) &&& 1 = (x.testBit a).toNat := by
  rw [Nat.and_one_is_mod, Nat.shiftRight_eq_div_pow, ← Nat.toNat_testBit]
theorem cnt_bit (f : Nat → Bool) (n : Nat) : cnt f (n + 1) = cnt f n + (f n).toNat := by
  simp only [cnt]; cases f n <;> rfl

theorem Sel.found {m j pos k x i a : Nat} (s : Sel m j pos k x i) (ha : a < k) (hb : x.testBit a = true) (hc : cnt x.testBit a = i) : m.testBit (pos + a) = true ∧ cnt m.testBit (pos + a) = j ∧ pos + a < 64 := by
  obtain ⟨h1, h2, h3, h4, h5⟩ := s
  refine ⟨by rw [← h2 a ha]; exact hb, ?_, by omega⟩
  rw [cnt_add]
  have e2 : cnt (fun i => m.testBit (pos + i)) a = cnt x.testBit a := cnt_congr fun b hba => (h2 b (by omega)).symm
  omega

/-! ### in a set -/
def sel (s : List Bool) (j : Nat) : Nat := (nums s).getD j s.length

theorem nums_prefix (s : List Bool) (k : Nat) (h : k ≤ s.length) : ∃ t, nums s = nums (s.take k) ++ t := by
  obtain ⟨d, hd⟩ : ∃ d, d = s.length - k := ⟨_, rfl⟩
  induction d generalizing k with
  | zero =>
    have : k = s.length := by omega
    exact ⟨[], by rw [this, List.take_length, List.append_nil]⟩
  | succ d ih =>
    obtain ⟨t, ht⟩ := ih (k + 1) (by omega) (by omega)
    rw [nums_take_succ s k (by omega), List.append_assoc] at ht
    exact ⟨_, ht⟩

theorem sel_eq {s : List Bool} {j r : Nat} (hr : s.getD r false = true) (hc : cnt (fun i => s.getD i false) r = j) : sel s j = r := by
  have hlt : r < s.length := by
    rcases Nat.lt_or_ge r s.length with h | h
    · exact h
    · rw [getD_ge s false h] at hr; cases hr
  obtain ⟨t, ht⟩ := nums_prefix s (r + 1) (by omega)
  rw [nums_take_succ s r hlt, if_pos hr] at ht
  have hl := nums_length_take s r (by omega)
  unfold sel
  rw [ht, List.getD_eq_getElem?_getD, List.append_assoc, List.getElem?_append_right (by omega), hl, hc, Nat.sub_self]
  rfl
theorem sel_past {s : List Bool} {j : Nat} (h : count s ≤ j) : sel s j = s.length := by
  unfold sel
  exact getD_ge _ _ (by rw [nums_length]; exact h)
theorem sel_in {s : List Bool} {j : Nat} (h : j < (nums s).length) : (nums s).getD j 0 = sel s j := by
  unfold sel
  rw [List.getD_eq_getElem?_getD, List.getD_eq_getElem?_getD, List.getElem?_eq_getElem h]; rfl
theorem sel_word {s : List Bool} {j k r : Nat} (hk : k < nW s.length) (hj : psum ((pack s).take k) ≤ j) (hr : r < 64) (hb : (wordAt s k).testBit r = true) (hc : cnt (wordAt s k).testBit r = j - psum ((pack s).take k)) : sel s j = 64 * k + r := by
  rw [wordAt_testBit] at hb
  simp only [hr, decide_true, Bool.true_and] at hb
  refine sel_eq hb ?_
  have e1 := btw_words s k (by omega)
  have e2 := btw_word s k r (by omega)
  have e3 := btw_split s 0 (64 * k) (64 * k + r) (by omega) (by omega)
  have e4 : btw s 0 (64 * k + r) = cnt (fun i => s.getD i false) (64 * k + r) := by
    unfold btw; rw [Nat.sub_zero]; exact cnt_congr fun i _ => by rw [Nat.zero_add]
  omega
theorem sel_le (s : List Bool) (j : Nat) : sel s j ≤ s.length := by
  unfold sel
  rcases Nat.lt_or_ge j (nums s).length with h | h
  · rw [List.getD_eq_getElem?_getD, List.getElem?_eq_getElem h]
    exact Nat.le_of_lt (nums_lt s _ (List.getElem_mem h))
  · rw [getD_ge _ _ h]; exact Nat.le_refl _
end Go.Proofs.YtkemlhhpakjojaaDoor

/- The lowest bit of a word, and going from one member of a set to the next. -/
set_option linter.unusedVariables false
set_option linter.unusedSimpArgs false
namespace Go.Proofs.YtkemlhhpakjojaaDoor

def tz (m : Nat) : Nat := Lib.ctz 64 m
theorem tz_spec {m : Nat} (h0 : m ≠ 0) (h : m < 18446744073709551616) : tz m < 64 ∧ m.testBit (tz m) = true ∧ ∀ b, b < tz m → m.testBit b = false := by
  have h1 := (Lib.lowest_bit 64 m h0 h).2
  obtain ⟨d, hd, _⟩ := Lib.ctzFrom_spec 64 m (by omega) h
  have e : tz m = Lib.ctzFrom 64 m := by simp [tz, Lib.ctz, h0]
  have hm : m = 2 ^ tz m * (2 * d + 1) := by rw [e]; exact hd
  refine ⟨h1, ?_, fun b hb => ?_⟩
  · refine (congrArg (fun x => x.testBit (tz m)) hm).trans ?_
    show (2 ^ tz m * (2 * d + 1)).testBit (tz m) = true
    rw [Nat.testBit_two_pow_mul]
    simp
  · refine (congrArg (fun x => x.testBit b) hm).trans ?_
    show (2 ^ tz m * (2 * d + 1)).testBit b = false
    rw [Nat.testBit_two_pow_mul]
    have : ¬ (b ≥ tz m) := by omega
    simp [this]
theorem tz_low {m : Nat} (h0 : m ≠ 0) (h : m < 18446744073709551616) : m &&& (18446744073709551616 - m) % 18446744073709551616 = 2 ^ tz m := by
  have h1 := (Lib.lowest_bit 64 m h0 h).1
  rw [Nat.mod_eq_of_lt (by omega)]
  exact h1
theorem tz_table {m : Nat} (h0 : m ≠ 0) (h : m < 18446744073709551616) : (2 ^ tz m * 285870213051353865 % 18446744073709551616) >>> 58 < 64 ∧ Lib.deBruijn64tab.getD ((2 ^ tz m * 285870213051353865 % 18446744073709551616) >>> 58) 0 = tz m := by
  have h1 := Lib.deBruijn64_at (tz m) (Lib.lowest_bit 64 m h0 h).2
  rw [Nat.shiftRight_eq_div_pow]
  exact h1

/-- x is the next member from i on -/
def Nxt (s : List Bool) (i x : Nat) : Prop := i ≤ x ∧ s.getD x false = true ∧ ∀ j, i ≤ j → j < x → s.getD j false = false
def Non (s : List Bool) (i : Nat) : Prop := ∀ j, i ≤ j → s.getD j false = false
theorem Nxt.lt {s : List Bool} {i x : Nat} (h : Nxt s i x) : x < s.length := by
  rcases Nat.lt_or_ge x s.length with h1 | h1
  · exact h1
  · have := h.2.1
    rw [getD_ge s false h1] at this; cases this
theorem nums_gap {s : List Bool} {a b : Nat} (h : a ≤ b) (hb : b ≤ s.length) (hg : ∀ j, a ≤ j → j < b → s.getD j false = false) : nums (s.take b) = nums (s.take a) := by
  induction b with
  | zero => have : a = 0 := by omega
            rw [this]
  | succ b ih =>
    rcases Nat.lt_or_ge a (b + 1) with h1 | h1
    · rw [nums_take_succ s b (by omega), hg b (by omega) (by omega), ih (by omega) (by omega) (fun j h2 h3 => hg j h2 (by omega))]
      simp
    · have : a = b + 1 := by omega
      rw [this]
theorem Nxt.nums {s : List Bool} {i x : Nat} (h : Nxt s i x) : nums (s.take (x + 1)) = nums (s.take i) ++ [x] := by
  rw [nums_take_succ s x h.lt, h.2.1, nums_gap h.1 (Nat.le_of_lt h.lt) h.2.2]; rfl
theorem Non.nums {s : List Bool} {i : Nat} (h : Non s i) : nums s = nums (s.take i) := by
  rcases Nat.lt_or_ge i s.length with h1 | h1
  · have := nums_gap (s := s) (Nat.le_of_lt h1) (Nat.le_refl _) (fun j h2 _ => h j h2)
    rwa [List.take_length] at this
  · rw [List.take_of_length_le h1]
/-- within the first word looked at -/
theorem nxt_here {s : List Bool} {i : Nat} (h0 : wordAt s (i / 64) >>> (i % 64) ≠ 0) : Nxt s i (i + tz (wordAt s (i / 64) >>> (i % 64))) := by
  have hlt : wordAt s (i / 64) >>> (i % 64) < 18446744073709551616 := by
    rw [Nat.shiftRight_eq_div_pow]; exact Nat.lt_of_le_of_lt (Nat.div_le_self _ _) (wordAt_lt _ _)
  obtain ⟨h1, h2, h3⟩ := tz_spec h0 hlt
  have key : ∀ b, (wordAt s (i / 64) >>> (i % 64)).testBit b = (decide (i % 64 + b < 64) && s.getD (i + b) false) := by
    intro b
    rw [testBit_shr, wordAt_testBit, show 64 * (i / 64) + (i % 64 + b) = i + b by omega]
  refine ⟨by omega, ?_, fun j hj hlt => ?_⟩
  · rw [key] at h2
    simp only [Bool.and_eq_true] at h2
    exact h2.2
  · have h4 := h3 (j - i) (by omega)
    rw [key] at h4
    have h5 := h2
    rw [key] at h5
    simp only [Bool.and_eq_true, decide_eq_true_eq] at h5
    have : i % 64 + (j - i) < 64 := by omega
    simp only [this, decide_true, Bool.true_and] at h4
    rwa [show i + (j - i) = j by omega] at h4
theorem non_here {s : List Bool} {i : Nat} (h0 : wordAt s (i / 64) >>> (i % 64) = 0) : ∀ j, i ≤ j → j < 64 * (i / 64 + 1) → s.getD j false = false := by
  intro j h1 h2
  have h3 : (wordAt s (i / 64) >>> (i % 64)).testBit (j - i) = false := by rw [h0, Nat.zero_testBit]
  rw [testBit_shr, wordAt_testBit, show 64 * (i / 64) + (i % 64 + (j - i)) = j by omega] at h3
  have : i % 64 + (j - i) < 64 := by omega
  simpa [this] using h3
theorem nxt_word {s : List Bool} {i k : Nat} (hi : i ≤ 64 * k) (hg : ∀ j, i ≤ j → j < 64 * k → s.getD j false = false) (h0 : wordAt s k ≠ 0) : Nxt s i (64 * k + tz (wordAt s k)) := by
  obtain ⟨h1, h2, h3⟩ := tz_spec h0 (wordAt_lt _ _)
  rw [wordAt_testBit] at h2
  simp only [Bool.and_eq_true, decide_eq_true_eq] at h2
  refine ⟨by omega, h2.2, fun j hj hlt => ?_⟩
  rcases Nat.lt_or_ge j (64 * k) with h4 | h4
  · exact hg j hj h4
  · have h5 := h3 (j - 64 * k) (by omega)
    rw [wordAt_testBit] at h5
    have : j - 64 * k < 64 := by omega
    simp only [this, decide_true, Bool.true_and] at h5
    rwa [show 64 * k + (j - 64 * k) = j by omega] at h5
theorem non_word {s : List Bool} {i k : Nat} (hg : ∀ j, i ≤ j → j < 64 * k → s.getD j false = false) (h0 : wordAt s k = 0) : ∀ j, i ≤ j → j < 64 * (k + 1) → s.getD j false = false := by
  intro j h1 h2
  rcases Nat.lt_or_ge j (64 * k) with h4 | h4
  · exact hg j h1 h4
  · have h5 : (wordAt s k).testBit (j - 64 * k) = false := by rw [h0, Nat.zero_testBit]
    rw [wordAt_testBit] at h5
    have : j - 64 * k < 64 := by omega
    simp only [this, decide_true, Bool.true_and] at h5
    rwa [show 64 * k + (j - 64 * k) = j by omega] at h5
theorem non_past {s : List Bool} {i k : Nat} (hg : ∀ j, i ≤ j → j < 64 * k → s.getD j false = false) (hk : nW s.length ≤ k) : Non s i := by
  intro j hj
  rcases Nat.lt_or_ge j (64 * k) with h4 | h4
  · exact hg j hj h4
  · exact getD_ge _ _ (by unfold nW at hk; omega)
end Go.Proofs.YtkemlhhpakjojaaDoor

/- TrailingZeros64 by its table, NextSet, Len and the thin package's told, each by its contract. -/
set_option linter.unusedVariables false
set_option linter.unusedSimpArgs false
set_option maxRecDepth 100000
namespace Go.Proofs.YtkemlhhpakjojaaDoor
open Go Go.RowKit

/-- the library's table is in its place -/
def Tb (w : World) : Prop := 3 < w.heap.size ∧ ∀ i, i < 64 → w.cell? ⟨3, i, none⟩ = some (v8 (Lib.deBruijn64tab.getD i 0))
theorem Tb.keep {w w' : World} {L : List Nat} (h : Tb w) (k : Keep w w' L) (hn : 3 ∉ L) : Tb w' :=
  ⟨Nat.lt_of_lt_of_le h.1 k.size, fun i hi => by rw [← h.2 i hi]; exact World.cell?_of_block (k.same _ h.1 hn)⟩

theorem c_TrailingZeros64 (m : Nat) (hm : m < 18446744073709551616) (w : World) (hT : Tb w) : Cal Tryd.prog 32 [vU m] w fun v w' => v = vI ((tz m : Nat) : Int) ∧ w = w' := by
  refine go_in' Tryd.func32 rfl Tryd.ntmps32 (Nat.le_of_ble_eq_true rfl) ?_
  refine c_seq ?_
  refine c_region ?_
  refine st (y_assign (v := vI ((0 : Nat) : Int)) rfl) rfl ?_
  refine l_nil ?_
  refine q_then ?_
  refine c_seq ?_
  refine c_seq ?_
  refine c_region ?_
  refine st (y_move rfl) rfl ?_
  refine st_if (y_eq_u (b := 0) rfl rfl) rfl (fun h0 => ?_) (fun h0 => ?_)
  · refine l_nil ?_
    refine q_then ?_
    refine c_true rfl rfl ?_
    refine c_seq ?_
    refine c_region ?_
    refine st (y_assign (v := vI ((64 : Nat) : Int)) rfl) rfl ?_
    refine l_nil ?_
    refine q_then ?_
    refine c_ret ?_
    refine q_then_ret ?_
    refine q_end1 (.inl rfl) rfl rfl ?_
    refine ⟨_, rfl, ?_, rfl⟩
    subst h0; rfl
  ·
    have hlow := tz_low h0 hm
    obtain ⟨h1, h2⟩ := tz_table h0 hm
    have h3 := hT.2 _ h1
    rw [h2] at h3
    have h4 : tz m < 64 := (tz_spec h0 hm).1
    refine l_nil ?_
    refine q_then ?_
    refine c_false rfl rfl ?_
    refine c_skip ?_
    refine q_then ?_
    refine c_seq ?_
    refine c_region ?_
    refine st (y_move rfl) rfl ?_
    refine st (y_move rfl) rfl ?_
    refine st (y_neg_u rfl (by omega)) rfl ?_
    refine st (y_and rfl rfl (by first | omega | assumption | (repeat (first | assumption | omega | decide | exact shl_lt64 _ _ | apply and_lt64 | apply or_lt64 | apply xor_lt64 | apply nt_lt | apply shr_lt64 | apply getD_lt64))) (by first | omega | assumption | (repeat (first | assumption | omega | decide | exact shl_lt64 _ _ | apply and_lt64 | apply or_lt64 | apply xor_lt64 | apply nt_lt | apply shr_lt64 | apply getD_lt64)))) rfl ?_
    rw [hlow]
    refine st (y_mulw_u (b := 285870213051353865) rfl rfl) rfl ?_
    obtain ⟨i, hi⟩ : ∃ i, (2 ^ tz m * 285870213051353865 % 18446744073709551616) >>> 58 = i := ⟨_, rfl⟩
    rw [hi] at h1 h3
    refine st (y_shr (k := 58) rfl rfl (by first | omega | assumption | (repeat (first | assumption | omega | decide | exact shl_lt64 _ _ | apply and_lt64 | apply or_lt64 | apply xor_lt64 | apply nt_lt | apply shr_lt64 | apply getD_lt64)))) rfl ?_
    rw [hi]
    refine st (y_indexarr rfl rfl Tryd.underlying84 sz5 (by omega)) rfl ?_
    rw [Nat.mul_one, Nat.zero_add]
    refine st (y_load rfl one5 h3) rfl ?_
    refine st (y_conv_8i rfl us5 Tryd.underlying3 (by omega)) rfl ?_
    refine st (y_assign rfl) rfl ?_
    refine l_nil ?_
    refine q_then ?_
    refine c_ret ?_
    refine q_end1 (.inl rfl) rfl rfl ?_
    exact ⟨_, rfl, rfl, rfl⟩

theorem c_Len (p q : Nat) (s : List Bool) (w : World) (hB : BSet w p q s) : Cal Tryd.prog 20 [vP p] w fun v w' => v = vU s.length ∧ w = w' := by
  obtain ⟨tl, hB⟩ := hB
  have hst := hB.st
  refine go_in' Tryd.func20 rfl Tryd.ntmps20 (Nat.le_of_ble_eq_true rfl) ?_
  refine c_seq ?_
  refine c_region ?_
  refine st (y_assign (v := vU 0) rfl) rfl ?_
  refine l_nil ?_
  refine q_then ?_
  refine c_seq ?_
  refine c_region ?_
  refine st (y_move rfl) rfl ?_
  refine st (y_nil rfl) rfl ?_
  refine st (fa48_0 rfl) rfl ?_
  refine st (y_loadb rfl one22 (by assumption) (by rfl)) rfl ?_
  refine st (y_assign rfl) rfl ?_
  refine l_nil ?_
  refine q_then ?_
  refine c_ret ?_
  refine q_end1 (.inl rfl) rfl rfl ?_
  exact ⟨_, rfl, rfl, rfl⟩

theorem c_NextSet (p q : Nat) (s : List Bool) (i : Nat) (w : World) (hT : Tb w) (hB : BSet w p q s) (hi : i ≤ 100000) (hs : s.length ≤ 100001) :
    Cal Tryd.prog 21 [vP p, vU i] w fun v w' => Keep w w' [] ∧ ((∃ x, v = vT [vU x, vB true] ∧ Nxt s i x) ∨ (v = vT [vU 0, vB false] ∧ Non s i)) := by
  obtain ⟨tl, hB⟩ := hB
  have hst := hB.st
  have hlen := pack_length s
  have hmod : i &&& 63 = i % 64 := and63 i
  have hdiv := shr6 i
  have hn : (pack s).length ≤ 2000 := by rw [pack_length]; unfold nW; omega
  have hg : ∀ j, j < (pack s).length → (pack s ++ tl).getD j 0 = wordAt s j := fun j hj => by
    rw [List.getD_eq_getElem?_getD, List.getElem?_append_left hj, ← List.getD_eq_getElem?_getD, pack_getD]
  have hKd : Keep w w.drew [] := Keep.drew w []
  refine go_in' Tryd.func21 rfl Tryd.ntmps21 (Nat.le_of_ble_eq_true rfl) ?_
  refine c_seq ?_
  refine c_region ?_
  refine st (y_assign (v := vU 0) rfl) rfl ?_
  refine st (y_assign rfl) rfl ?_
  refine l_nil ?_
  refine q_then ?_
  refine c_seq ?_
  refine c_region ?_
  refine st (y_move rfl) rfl ?_
  refine st (y_shr (k := 6) rfl rfl (by first | omega | assumption | (repeat (first | assumption | omega | decide | exact shl_lt64 _ _ | apply and_lt64 | apply or_lt64 | apply xor_lt64 | apply nt_lt | apply shr_lt64 | apply getD_lt64)))) rfl ?_
  rw [hdiv]
  refine st (y_conv_ui rfl us22 Tryd.underlying3 (by omega)) rfl ?_
  refine st (y_assign rfl) rfl ?_
  refine l_nil ?_
  refine q_then ?_
  refine c_seq ?_
  refine c_seq ?_
  refine c_region ?_
  refine st (y_move rfl) rfl ?_
  refine st (y_move rfl) rfl ?_
  refine st (y_nil rfl) rfl ?_
  refine st (fa48_1 rfl) rfl ?_
  refine st (y_loadb rfl one42 (by assumption) (by rfl)) rfl ?_
  refine st (y_len rfl Tryd.underlying42) rfl ?_
  refine st_if (y_ge_i rfl rfl) rfl (fun hge => ?_) (fun hge => ?_)
  · refine l_nil ?_
    refine q_then ?_
    refine c_true rfl rfl ?_
    refine c_seq ?_
    refine c_region ?_
    refine st (y_assign (v := vU 0) rfl) rfl ?_
    refine st (y_assign rfl) rfl ?_
    refine l_nil ?_
    refine q_then ?_
    refine c_ret ?_
    refine q_then_ret ?_
    refine q_end2 (.inl rfl) rfl rfl rfl ?_
    exact ⟨_, rfl, Keep.refl _ _, .inr ⟨rfl, non_past (k := i / 64) (fun j h1 h2 => by omega) (by omega)⟩⟩
  ·
    have e1 := hg (i / 64) (by omega)
    have hl1 := wordAt_lt s (i / 64)
    have hTd := hT.keep hKd (by simp)
    refine l_nil ?_
    refine q_then ?_
    refine c_false rfl rfl ?_
    refine c_skip ?_
    refine q_then ?_
    refine c_seq ?_
    refine c_tail 10 mixed (by kernel_rfl) ?_
    have hst := hst.drew
    have hwd := hB.wd.drew
    refine ss (y_move rfl) rfl ?_
    refine ss (y_nil rfl) rfl ?_
    refine ss (fa48_1 rfl) rfl ?_
    refine ss (y_loadb rfl one42 (by assumption) (by rfl)) rfl ?_
    refine ss (y_move rfl) rfl ?_
    first | refine ss (y_index0 rfl rfl Tryd.underlying42 sz43 (by omega)) rfl ?_ | refine ss (y_index rfl rfl Tryd.underlying42 sz43 (by omega)) rfl ?_ | refine ss (y_indexA rfl rfl Tryd.underlying42 sz43 (by omega)) rfl ?_
    first | refine ss (y_loadM (0) rfl one43 (by assumption) (by first | omega | (simp only [List.length_append, List.length_map, List.length_replicate, List.length_set, List.length_take, List.length_drop]; omega) | (simp; done))) rfl ?_ | refine ss (y_load rfl one43 (by assumption)) rfl ?_
    refine ss (y_move rfl) rfl ?_
    rw [e1]
    refine ssc rfl rfl isfn31 (c_wordsIndex _ (by omega) _) rfl ?_
    rw [hmod]
    have hlt : wordAt s (i / 64) >>> (i % 64) < 18446744073709551616 := by
      rw [Nat.shiftRight_eq_div_pow]; exact Nat.lt_of_le_of_lt (Nat.div_le_self _ _) hl1
    refine ss (y_shr rfl rfl (by first | omega | assumption | (repeat (first | assumption | omega | decide | exact shl_lt64 _ _ | apply and_lt64 | apply or_lt64 | apply xor_lt64 | apply nt_lt | apply shr_lt64 | apply getD_lt64)))) rfl ?_
    refine s_nil ?_
    show wpL _ _ _ _ _ _ _ _
    refine st (y_assign rfl) rfl ?_
    refine l_nil ?_
    refine q_then ?_
    refine c_seq ?_
    refine c_seq ?_
    refine c_region ?_
    refine st (y_move rfl) rfl ?_
    refine st_if (y_ne_u (b := 0) rfl rfl) rfl (fun h0 => ?_) (fun h0 => ?_)
    · have hx := nxt_here h0
      have hxl := hx.lt
      refine l_nil ?_
      refine q_then ?_
      refine c_true rfl rfl ?_
      refine c_seq ?_
      refine c_region ?_
      refine st (y_move rfl) rfl ?_
      refine st (y_move rfl) rfl ?_
      refine sc rfl rfl isfn32 (c_TrailingZeros64 _ hlt _ hTd) rfl ?_
      rintro _ _ ⟨rfl, rfl⟩
      refine st (y_conv_iu rfl us3 Tryd.underlying22 rfl (by omega)) rfl ?_
      refine st (y_add_u rfl rfl (by omega)) rfl ?_
      refine st (y_assign rfl) rfl ?_
      refine st (y_assign rfl) rfl ?_
      refine l_nil ?_
      refine q_then ?_
      refine c_ret ?_
      refine q_then_ret ?_
      refine q_end2 (.inl rfl) rfl rfl rfl ?_
      exact ⟨_, rfl, hKd, .inl ⟨_, rfl, hx⟩⟩
    ·
      have h00 : wordAt s (i / 64) >>> (i % 64) = 0 := by omega
      have hno := non_here h00
      refine l_nil ?_
      refine q_then ?_
      refine c_false rfl rfl ?_
      refine c_skip ?_
      refine q_then ?_
      refine c_seq ?_
      refine c_region ?_
      refine st (y_move rfl) rfl ?_
      first | refine st (y_add_in (b := 1) rfl rfl (by omega)) rfl ?_ | refine st (y_add_i (b := 1) rfl rfl (by omega) (by omega)) rfl ?_
      refine st (y_assign rfl) rfl ?_
      refine l_nil ?_
      refine q_then ?_
      refine c_seq ?_
      refine c_seq ?_
      refine c_region ?_
      refine st (y_move rfl) rfl ?_
      refine st (y_nil rfl) rfl ?_
      refine st (fa48_1 rfl) rfl ?_
      refine st (y_loadb rfl one42 (by assumption) (by rfl)) rfl ?_
      refine st (y_move rfl) rfl ?_
      refine st (y_slice_l rfl rfl Tryd.underlying42 sz43 (by omega)) rfl ?_
      obtain ⟨As, hAs⟩ : ∃ As, some (if (pack s).length + tl.length = i / 64 + 1 then (⟨q, 0, none⟩ : Addr) else ⟨q, 0 + (i / 64 + 1), none⟩) = As := ⟨_, rfl⟩
      have hRd := (hB.keep hKd (by simp) (by simp)).rds (l := i / 64 + 1) (by omega)
      rw [hAs] at hRd ⊢
      refine st (y_len rfl Tryd.underlying42) rfl ?_
      refine st (y_move (v := vI ((0 : Nat) : Int)) rfl) rfl ?_
      refine l_nil ?_
      refine q_then ?_
      refine c_block ?_
      refine c_loop (fun k : Nat => [(6, vI ((i / 64 + 1 : Nat) : Int)), (44, .slice As ((pack s).length - (i / 64 + 1)) ((pack s).length + tl.length - (i / 64 + 1))), (45, vI (((pack s).length - (i / 64 + 1) : Nat) : Int)), (46, vI (k : Nat))]) (fun k w' => k ≤ (pack s).length - (i / 64 + 1) ∧ w.drew = w' ∧ ∀ j, i ≤ j → j < 64 * (i / 64 + 1 + k) → s.getD j false = false) (fun k => (pack s).length - (i / 64 + 1) - k) 0 ?_ ?_ ?_
      · exact ⟨rfl, rfl, rfl, rfl, trivial⟩
      · exact ⟨Nat.zero_le _, rfl, hno⟩
      · rintro k w1 ⟨hk, rfl, hgap⟩
        refine c_seq ?_
        refine c_region ?_
        refine st_if (y_lt_i rfl rfl) rfl (fun hlt2 => ?_) (fun hlt2 => ?_)
        · obtain ⟨ad, rfl, had, hcell⟩ := hRd.2.2 (by omega)
          have hc := hcell k (by omega)
          have ew : ((pack s).drop (i / 64 + 1)).getD k 0 = wordAt s (i / 64 + 1 + k) := by
            rw [List.getD_eq_getElem?_getD, List.getElem?_drop, ← List.getD_eq_getElem?_getD, pack_getD]
          rw [ew] at hc
          have hl2 := wordAt_lt s (i / 64 + 1 + k)
          refine l_nil ?_
          refine q_then ?_
          refine c_seq ?_
          refine c_true rfl rfl ?_
          refine c_skip ?_
          refine q_then ?_
          refine c_seq ?_
          refine c_block ?_
          refine c_seq ?_
          refine c_region ?_
          refine st (y_move rfl) rfl ?_
          first | refine st (y_index0 rfl rfl Tryd.underlying42 sz43 (by omega)) rfl ?_ | refine st (y_index rfl rfl Tryd.underlying42 sz43 (by omega)) rfl ?_ | refine st (y_indexA rfl rfl Tryd.underlying42 sz43 (by omega)) rfl ?_
          refine st (y_load rfl one43 (by assumption)) rfl ?_
          refine st (y_assign rfl) rfl ?_
          refine st (y_assign rfl) rfl ?_
          refine l_nil ?_
          refine q_then ?_
          refine c_seq ?_
          refine c_region ?_
          refine st (y_move rfl) rfl ?_
          refine st_if (y_ne_u (b := 0) rfl rfl) rfl (fun hw => ?_) (fun hw => ?_)
          · have hx := nxt_word (by omega) hgap hw
            have hxl := hx.lt
            refine l_nil ?_
            refine q_then ?_
            refine c_true rfl rfl ?_
            refine c_seq ?_
            refine c_region ?_
            refine st (y_move rfl) rfl ?_
            refine st (y_move rfl) rfl ?_
            first | refine st (y_add_in rfl rfl (by omega)) rfl ?_ | refine st (y_add_i rfl rfl (by omega) (by omega)) rfl ?_
            refine st (y_shl_i (k := 6) rfl rfl (by omega) (by omega) (by omega)) rfl ?_
            rw [show (((i / 64 + 1 + k : Nat) : Int) * 2 ^ 6) = ((64 * (i / 64 + 1 + k) : Nat) : Int) by omega]
            refine st (y_move rfl) rfl ?_
            refine sc rfl rfl isfn32 (c_TrailingZeros64 _ hl2 _ hTd) rfl ?_
            rintro _ _ ⟨rfl, rfl⟩
            first | refine st (y_add_in rfl rfl (by omega)) rfl ?_ | refine st (y_add_i rfl rfl (by omega) (by omega)) rfl ?_
            refine st (y_conv_iu rfl us3 Tryd.underlying22 rfl (by omega)) rfl ?_
            refine st (y_assign rfl) rfl ?_
            refine st (y_assign rfl) rfl ?_
            refine l_nil ?_
            refine q_then ?_
            refine c_ret ?_
            refine q_block_ret ?_
            refine q_then_ret ?_
            refine q_then_ret ?_
            refine q_block_ret ?_
            refine q_then_ret ?_
            refine q_end2 (.inl rfl) rfl rfl rfl ?_
            exact ⟨_, rfl, hKd, .inl ⟨_, rfl, hx⟩⟩
          ·
            refine l_nil ?_
            refine q_then ?_
            refine c_false rfl rfl ?_
            refine c_skip ?_
            refine q_block ?_
            refine q_then ?_
            refine c_region ?_
            first | refine st (y_add_in (b := 1) rfl rfl (by omega)) rfl ?_ | refine st (y_add_i (b := 1) rfl rfl (by omega) (by omega)) rfl ?_
            refine st (y_move rfl) rfl ?_
            refine l_nil ?_
            refine q_round (k + 1) ⟨rfl, rfl, rfl, rfl, trivial⟩ ⟨by omega, rfl, ?_⟩ (by omega)
            exact non_word (k := i / 64 + 1 + k) hgap (Decidable.not_not.1 hw)
        ·
          refine l_nil ?_
          refine q_then ?_
          refine c_seq ?_
          refine c_false rfl rfl ?_
          refine c_exit ?_
          refine q_then_exit ?_
          refine q_then_exit ?_
          refine q_block_hit ?_
          refine q_then ?_
          refine c_seq ?_
          refine c_region ?_
          refine st (y_assign (v := vU 0) rfl) rfl ?_
          refine st (y_assign rfl) rfl ?_
          refine l_nil ?_
          refine q_then ?_
          refine c_ret ?_
          refine q_end2 (.inl rfl) rfl rfl rfl ?_
          exact ⟨_, rfl, hKd, .inr ⟨rfl, non_past hgap (by omega)⟩⟩

end Go.Proofs.YtkemlhhpakjojaaDoor

/- append to a slice whose block is known: where the longer one lies; no statement of the program is proved here. -/
set_option linter.unusedVariables false
set_option linter.unusedSimpArgs false
namespace Go.Proofs.YtkemlhhpakjojaaDoor
open Go Go.RowKit
theorem news_one {w : World} {b : Nat} {t : TypeId} {u : Value} (h : Blk w b t [u]) : ∀ j u', [u][j]? = some u' → w.cell? ((⟨b, 0, none⟩ : Addr).add j) = some u' := by
  intro j u' hj
  rw [add_pt, Nat.zero_add]
  exact h.cell hj
section
variable {P : Program} {ops : Array Oper} {Q : Exit → Act → World → Prop} {n : Nat} {D : List Deferred} {F : Fr} {rest : List Oper} {w : World} {T : TypeId} {pos : String} {af : Array Edge}
theorem st_appendA {d : Nat} {x y : Operand} {t e : TypeId} {i : TypeInfo} {z : Value} {base m c1 b0 n0 c0 : Nat} {ad : Addr} {xs news : List Value} (hx : ev F x = some (vS b0 n0 c0)) (hy : ev F y = some (.slice (some ad) m c1)) (ht : P.underlying t = some (.slice e)) (hi : P.info? e = some i) (hz : i.zero = some z) (hs : i.size = 1) (hb : i.bytes ≤ 64) (hz1 : z.oneCell' = true)
    (hl : news.length = m) (hnews : ∀ j u', news[j]? = some u' → w.cell? (ad.add j) = some u') (hu : ∀ u ∈ news, u.oneCell' = true)
    (hO : Ow w base e (vS b0 n0 c0) xs) (hlen : xs.length ≤ 1000000) (hm : m ≤ 1000000) (hbase : base ≤ w.heap.size) (hd : Nat.blt d n = true)
    (k : ∀ b' c' w1, (b' = b0 ∨ b' = w.heap.size) → Ow w1 base e (vS b' (xs.length + m) c') (xs ++ news) → Keep w w1 [b0] → wpL P ops Q n D ((d, vS b' (xs.length + m) c') :: F) rest w1) : wpL P ops Q n D F (⟨some d, .call ⟨.builtin .append, #[x, y], #[t, t]⟩, T, pos, af, none⟩ :: rest) w := by
  have hbytes : (xs.length + m) * i.bytes ≤ 140737488355328 := by have : (xs.length + m) * i.bytes ≤ 2000000 * 64 := Nat.mul_le_mul (by omega) hb; omega
  obtain ⟨v', w1, hr, hO', hg, _⟩ := run_append_own (P := P) w base t T e i z 1 i.bytes ht hi hz hs rfl (by rw [cells_one hz1]; rfl) (by omega) _ xs.length xs hO.owns ad m c1 news (by omega) hnews hu (by unfold maxLen; omega) hbytes hbase
  have hwhere : ∃ b' c', v' = vS b' (xs.length + m) c' ∧ (b' = b0 ∨ b' = w.heap.size) := by
    rcases hO with ⟨h1, _⟩ | ⟨b, c, tail, h1, h2, hB, hc, hcm⟩
    · cases h1
    · simp only [vS, Value.slice.injEq, Option.some.injEq, Addr.mk.injEq] at h1
      obtain ⟨⟨rfl, _⟩, rfl, rfl⟩ := h1
      by_cases hroom : xs.length + m ≤ c0
      · have h := run_append_room (P := P) w t T e i ht hi b0 xs.length c0 (xs ++ tail).toArray hB ad m c1 news (by rw [hs]; omega) hnews hu hroom (by rw [hs]; simp; omega)
        rw [h] at hr
        simp only [Result.ok.injEq] at hr
        exact ⟨b0, c0, hr.1.symm, .inl rfl⟩
      · have h := run_append_grow (P := P) w t T e i z ht hi hz ⟨b0, 0, none⟩ xs.length c0 xs (by rw [hs]; omega) (fun j v hj => by
            rw [add_pt, Nat.zero_add]
            exact hB.cell (by rw [List.getElem?_append_left (by obtain ⟨h, _⟩ := List.getElem?_eq_some_iff.1 hj; exact h)]; exact hj)) ad m c1 news (by rw [hs]; omega) hnews (by omega) (by omega) (growslice_fits (by omega) hbytes)
        rw [h] at hr
        simp only [Result.ok.injEq] at hr
        exact ⟨_, _, hr.1.symm, .inr rfl⟩
  obtain ⟨b', c', rfl, hw⟩ := hwhere
  refine st (v := vS b' (xs.length + m) c') (w' := w1) ?_ hd (k b' c' w1 hw (Ow.of hO') ⟨hg.os, hg.tape, hg.output, hg.size, fun i hi hn => hg.block i hi (fun e => hn (by
    simp only [Value.ownBlock, vS, Option.map_some, Option.some.injEq] at e
    rw [List.mem_singleton]
    first | exact e | exact e.symm))⟩)
  exact fun dst pos af gd ρ hρ => .inl (by
    rw [exec_builtin hρ (vals := [vS b0 n0 c0, .slice (some ad) m c1]) (by simp [evs, hx, hy])]
    simp [builtin, hr])
end
end Go.Proofs.YtkemlhhpakjojaaDoor

/- A slice in a row that the call owns: more words. -/
set_option linter.unusedVariables false
set_option linter.unusedSimpArgs false
namespace Go.Proofs.YtkemlhhpakjojaaDoor
open Go Go.RowKit

theorem Ow.len {w : World} {base : Nat} {e : TypeId} {A : Option Addr} {n c : Nat} {xs : List Value} (h : Ow w base e (.slice A n c) xs) : n = xs.length := by
  rcases h with ⟨h1, rfl⟩ | ⟨b, c', tail, h1, _⟩
  · cases h1; rfl
  · cases h1; rfl
theorem Ow.base {w : World} {base base' : Nat} {e : TypeId} {v : Value} {xs : List Value} (h : Ow w base e v xs) (hb : base' ≤ base) : Ow w base' e v xs := by
  rcases h with h | ⟨b, c, tail, h1, h2, h3⟩
  · exact .inl h
  · exact .inr ⟨b, c, tail, h1, by omega, h3⟩
theorem Ow.rd' {w : World} {base : Nat} {e : TypeId} {A : Option Addr} {n c : Nat} {xs : List Nat} (h : Ow w base e (.slice A n c) (xs.map vU)) : Rd w A n xs := by
  have hl := h.len
  rw [List.length_map] at hl
  obtain ⟨A', c', e, hR⟩ := h.rd
  cases e
  exact hR

theorem Ow.at {w : World} {base b n c : Nat} {e : TypeId} {xs : List Value} (h : Ow w base e (vS b n c) xs) : b < w.heap.size ∧ base ≤ b ∧ ∃ tail, Blk w b e (xs ++ tail) ∧ n = xs.length ∧ c = xs.length + tail.length ∧ c ≤ maxLen := by
  rcases h with ⟨h1, _⟩ | ⟨b', c', tail, h1, h2, h3, h4, h5⟩
  · cases h1
  · cases h1
    exact ⟨h3.lt, h2, tail, h3, rfl, h4, h5⟩
theorem Ow.keepA {w w' : World} {base b n c : Nat} {e : TypeId} {xs : List Value} {L : List Nat} (h : Ow w base e (vS b n c) xs) (k : Keep w w' L) (hn : b ∉ L) : Ow w' base e (vS b n c) xs := by
  obtain ⟨_, h2, tail, h3, rfl, h5, h6⟩ := h.at
  exact .inr ⟨b, c, tail, rfl, h2, h3.keep k hn, h5, h6⟩
theorem Ow.blk {w : World} {base n c : Nat} {e : TypeId} {ad : Addr} {xs : List Value} (h : Ow w base e (.slice (some ad) n c) xs) : base ≤ ad.block := by
  rcases h with ⟨h1, _⟩ | ⟨b, c', tail, h1, h2, _⟩
  · cases h1
  · simp only [vS, Value.slice.injEq, Option.some.injEq] at h1
    rw [h1.1]; exact h2

end Go.Proofs.YtkemlhhpakjojaaDoor

/- The thin package's told, the statements' list, is, exactly and alive, impl.Made, each by its contract where it answers true. -/
set_option linter.unusedVariables false
set_option linter.unusedSimpArgs false
set_option maxRecDepth 100000
namespace Go.Proofs.YtkemlhhpakjojaaDoor
open Go Go.RowKit

theorem c_told (p q : Nat) (s : List Bool) (w : World) (hT : Tb w) (hB : BSet w p q s) (hs : s.length ≤ 100000) :
    Cal Tryd.prog 16 [vP p] w fun v w' => ∃ A c, v = aB s.length A (nums s).length c ∧ Ow w' w.heap.size 22 (.slice A (nums s).length c) ((nums s).map vU) ∧ Keep w w' [] := by
  have hpq := hB.lts
  have hT0 := hT.1
  have hcl := nums_length s
  have hcl2 := count_le s
  refine go_in' Tryd.func16 rfl Tryd.ntmps16 (Nat.le_of_ble_eq_true rfl) ?_
  refine c_seq ?_
  refine c_region ?_
  refine st_alloc [.int .u64 0, .slice none 0 0] zv25 rfl rfl ?_
  intro b2 w1 hb2 hB2 hK1 hS1
  have hS := hB.keep hK1 (by simp) (by simp)
  refine l_nil ?_
  refine q_then ?_
  refine c_seq ?_
  refine c_region ?_
  refine st (y_move rfl) rfl ?_
  refine sc rfl rfl isfn20 (c_Len p q s _ hS) rfl ?_
  rintro _ _ ⟨rfl, rfl⟩
  refine st (bld25_0 rfl) rfl ?_
  refine st_alloc [.int .u64 0, .slice none 0 0] zv25 rfl rfl ?_
  intro b3 w2 hb3 hB3 hK2 hS2
  have hB2 := hB2.keep hK2 (by simp only [List.mem_cons, List.not_mem_nil, or_false, not_or, not_false_eq_true] <;> omega)
  have hK12 := hK1.trans hK2 (by simp)
  refine st_storeagg rfl rfl (by simp [Value.oneCell']) sz25 rfl (by assumption) (by simp) rfl ?_
  intro w3 hB3' hK3 hS3
  have hB2 := hB2.keep hK3 (by simp only [List.mem_cons, List.not_mem_nil, or_false, not_or, not_false_eq_true] <;> omega)
  have hK13 := hK12.trans hK3 (by simp; omega)
  clear hB3
  have hS' := hB.keep hK13 (by simp) (by simp)
  have hT' := hT.keep hK13 (by simp)
  have hsz3 : w3.heap.size = b3 + 1 := by omega
  refine l_nil ?_
  refine q_then ?_
  refine c_seq ?_
  refine c_seq ?_
  refine c_region ?_
  refine st (y_move rfl) rfl ?_
  refine sc rfl rfl isfn21 (c_NextSet p q s 0 _ hT' hS' (by omega) (by omega)) rfl ?_
  rintro u4 w4 ⟨hK4, hres⟩
  have hB2 := hB2.keep hK4 (by simp only [List.mem_cons, List.not_mem_nil, or_false, not_or, not_false_eq_true] <;> omega)
  have hB3' := hB3'.keep hK4 (by simp only [List.mem_cons, List.not_mem_nil, or_false, not_or, not_false_eq_true] <;> omega)
  have hK14 := hK13.trans hK4 (by simp)
  have hsz4 := hK4.size
  obtain ⟨x0, ok0, hv0, hx0⟩ : ∃ x ok, u4 = vT [vU x, vB ok] ∧ ((ok = true ∧ Nxt s 0 x) ∨ (ok = false ∧ Non s 0)) := by
    rcases hres with ⟨x, e, h⟩ | ⟨e, h⟩
    · exact ⟨x, true, e, .inl ⟨rfl, h⟩⟩
    · exact ⟨0, false, e, .inr ⟨rfl, h⟩⟩
  subst hv0
  refine st (y_move rfl) rfl ?_
  refine st (y_extract rfl rfl) rfl ?_
  refine st (y_extract rfl rfl) rfl ?_
  refine st (y_assign rfl) rfl ?_
  refine st (y_assign rfl) rfl ?_
  refine l_nil ?_
  refine q_then ?_
  refine c_block ?_
  refine c_loop (fun x : Nat × Bool => [(0, vP p), (2, vP b2), (3, vP b3), (4, vU x.1), (5, vB x.2)]) (fun x w' => Keep w w' [] ∧ b3 < w'.heap.size ∧ Blk w' b2 25 [vU 0, .slice none 0 0] ∧ ∃ i A n c, i ≤ 100000 ∧ Blk w' b3 25 [vU s.length, .slice A n c] ∧ Ow w' (b3 + 1) 22 (.slice A n c) ((nums (s.take i)).map vU) ∧ ((x.2 = true ∧ Nxt s i x.1) ∨ (x.2 = false ∧ Non s i))) (fun x => if x.2 then s.length - x.1 + 1 else 0) (x0, ok0) ?_ ?_ ?_
  · exact ⟨rfl, rfl, rfl, rfl, rfl, trivial⟩
  · exact ⟨hK14, by omega, hB2, 0, none, 0, 0, by omega, hB3', Ow.nil _ _ _, hx0⟩
  · rintro ⟨x, ok⟩ w5 ⟨hK5, hsz5, hB25, i, A, n, c, hi, hB5, hO5, hx⟩
    simp only at hx ⊢
    rcases hx with ⟨rfl, hnx⟩ | ⟨rfl, hno⟩
    ·
      have hxl := hnx.lt
      have hnn := hnx.nums
      have hnl := nums_length_take s i (by have := hnx.1; omega)
      have hcn := cnt_le (fun i => s.getD i false) i
      have hix := hnx.1
      refine c_seq ?_
      refine c_seq ?_
      refine c_region ?_
      refine st (y_move rfl) rfl ?_
      refine l_nil ?_
      refine q_then ?_
      refine c_true rfl rfl ?_
      refine c_skip ?_
      refine q_then ?_
      refine c_seq ?_
      refine c_block ?_
      refine c_region ?_
      refine st (fa25_1 rfl) rfl ?_
      refine st (y_loadb rfl one23 (by assumption) (by rfl)) rfl ?_
      refine st (y_move rfl) rfl ?_
      refine st_buildSlice [vU x] Tryd.underlying23 sz22 zv22 rfl (by decide) (by decide) (by kernel_rfl) rfl ?_
      intro b6 w6 hb6 hB6 hK6 hS6
      have hO6 := hO5.keep hK6 (by simp)
      have hB5 := hB5.keep hK6 (by simp only [List.mem_cons, List.not_mem_nil, or_false, not_or, not_false_eq_true] <;> omega)
      have hB25 := hB25.keep hK6 (by simp only [List.mem_cons, List.not_mem_nil, or_false, not_or, not_false_eq_true] <;> omega)
      obtain ⟨i22, hi1, hi2, hi3, hi4⟩ := info_parts inf22
      refine st_append1 rfl rfl Tryd.underlying23 hi1 hi2 hi3 (by omega) rfl rfl (by assumption) (by assumption) (by first | omega | (simp only [List.length_map, List.length_nil, List.length_append, List.length_cons, List.length_take, List.length_drop]; omega)) (by omega) rfl ?_
      clear hi1 hi2 hi3 hi4
      intro v7 w7 L7 hO7 hK7 hL7
      obtain ⟨A7, c7, rfl⟩ := hO7.form
      have hB57 := hB5.keep hK7 (fun hm => by have := hL7 _ hm; omega)
      have hB27 := hB25.keep hK7 (fun hm => by have := hL7 _ hm; omega)
      have hsz7 := hK7.size
      refine st (fa25_1 rfl) rfl ?_
      refine st_store rfl rfl rfl sz23 (by assumption) (by first | simp | (simp; omega)) rfl ?_
      intro w8 hB8 hK8 hS8
      have hO8 := hO7.keep hK8 (fun i hi => by simp only [List.mem_singleton] at hi; left; omega)
      have hB28 := hB27.keep hK8 (by simp; omega)
      have hK18 : Keep w w8 [] := ((hK5.trans hK6 (by simp)).trans hK7 (fun i hi => by have := hL7 i hi; exact .inr (by omega))).trans hK8 (fun i hi => by simp only [List.mem_singleton] at hi; exact .inr (by omega))
      refine l_nil ?_
      refine q_block ?_
      refine q_then ?_
      refine c_region ?_
      refine st (y_move rfl) rfl ?_
      refine st (y_move rfl) rfl ?_
      refine st (y_add_u (b := 1) rfl rfl (by omega)) rfl ?_
      refine sc rfl rfl isfn21 (c_NextSet p q s (x + 1) _ (hT.keep hK18 (by simp)) (hB.keep hK18 (by simp) (by simp)) (by omega) (by omega)) rfl ?_
      rintro u9 w9 ⟨hK9, hres9⟩
      obtain ⟨x9, ok9, hv9, hx9⟩ : ∃ y ok, u9 = vT [vU y, vB ok] ∧ ((ok = true ∧ Nxt s (x + 1) y) ∨ (ok = false ∧ Non s (x + 1))) := by
        rcases hres9 with ⟨y, e, h⟩ | ⟨e, h⟩
        · exact ⟨y, true, e, .inl ⟨rfl, h⟩⟩
        · exact ⟨0, false, e, .inr ⟨rfl, h⟩⟩
      subst hv9
      refine st (y_move rfl) rfl ?_
      refine st (y_extract rfl rfl) rfl ?_
      refine st (y_extract rfl rfl) rfl ?_
      refine st (y_assign rfl) rfl ?_
      refine st (y_assign rfl) rfl ?_
      refine l_nil ?_
      refine q_round (x9, ok9) ⟨rfl, rfl, rfl, rfl, rfl, trivial⟩ ⟨hK18.trans hK9 (by simp), by have := hK9.size; omega, hB28.keep hK9 (by simp), x + 1, A7, _, c7, by omega, hB8.keep hK9 (by simp), ?_, hx9⟩ ?_
      · rw [hnn, List.map_append]
        exact hO8.keep hK9 (by simp)
      · simp only [if_true]
        rcases hx9 with ⟨rfl, h9⟩ | ⟨rfl, _⟩
        · have := h9.1
          simp only [if_true]
          omega
        · simp
    ·
      rw [← hno.nums] at hO5
      have hfo := hO5.len
      rw [List.length_map] at hfo
      subst hfo
      refine c_seq ?_
      refine c_seq ?_
      refine c_region ?_
      refine st (y_move rfl) rfl ?_
      refine l_nil ?_
      refine q_then ?_
      refine c_false rfl rfl ?_
      refine c_exit ?_
      refine q_then_exit ?_
      refine q_then_exit ?_
      refine q_block_hit ?_
      refine q_then ?_
      refine c_seq ?_
      refine c_region ?_
      refine st (y_loadagg rfl agg25 us25 sz25 (by assumption) (by simp) (by rfl)) rfl ?_
      refine st_storeagg rfl rfl (by simp [Value.oneCell']) sz25 rfl (by assumption) (by simp) rfl ?_
      intro w8 hB8 hK8 hS8
      have hK48 : Keep w w8 [] := hK5.trans hK8 (fun i hi => by simp only [List.mem_singleton] at hi; exact .inr (by omega))
      refine l_nil ?_
      refine q_then ?_
      refine c_ret ?_
      refine q_endc (.inl rfl) rfl rfl agg25 us25 sz25 (by assumption) (by rfl) ?_
      exact ⟨_, rfl, A, c, rfl, (hO5.keep hK8 (fun i hi => by simp only [List.mem_singleton] at hi; left; omega)).base (by omega), hK48⟩

theorem c_list (A B : Option Addr) (n c m d : Nat) (xs ys : List Nat) (w : World) (hx : Rd w A n xs) (hy : Rd w B m ys) (he : xs = ys) :
    Cal Tryd.prog 29 [.slice A n c, .slice B m d] w fun v w' => v = vB true ∧ Keep w w' [] := by
  subst he
  have hnx := hx.1
  have hny := hy.1
  have hnb := hx.2.1
  refine go_in' Tryd.func29 rfl Tryd.ntmps29 (Nat.le_of_ble_eq_true rfl) ?_
  refine c_seq ?_
  refine c_region ?_
  refine st (y_assign rfl) rfl ?_
  refine l_nil ?_
  refine q_then ?_
  refine c_seq ?_
  refine c_seq ?_
  refine c_region ?_
  refine st (y_move rfl) rfl ?_
  refine st (y_len rfl Tryd.underlying23) rfl ?_
  refine st (y_move rfl) rfl ?_
  refine st (y_len rfl Tryd.underlying23) rfl ?_
  refine st_f (y_ne_i rfl rfl) (by omega) rfl ?_
  refine l_nil ?_
  refine q_then ?_
  refine c_false rfl rfl ?_
  refine c_skip ?_
  refine q_then ?_
  refine c_seq ?_
  refine c_seq ?_
  refine c_region ?_
  refine st (y_move rfl) rfl ?_
  refine st (y_len rfl Tryd.underlying23) rfl ?_
  refine st (y_move (v := vI ((0 : Nat) : Int)) rfl) rfl ?_
  refine l_nil ?_
  refine q_then ?_
  refine c_block ?_
  refine c_loop (fun k : Nat => [(0, .slice A n c), (1, .slice B m d), (12, vI (n : Nat)), (13, vI (k : Nat))]) (fun k w' => k ≤ n ∧ Keep w w' []) (fun k => n - k) 0 ?_ ?_ ?_
  · exact ⟨rfl, rfl, rfl, rfl, trivial⟩
  · exact ⟨Nat.zero_le _, Keep.refl _ _⟩
  · rintro k w1 ⟨hk, hK⟩
    refine c_seq ?_
    refine c_region ?_
    refine st_if (y_lt_i rfl rfl) rfl (fun hlt => ?_) (fun hlt => ?_)
    · have hK2 := hK.trans (Keep.drew w1 []) (by simp)
      obtain ⟨ad, rfl, had, hcell⟩ := (hx.keep hK2 (by simp)).2.2 (by omega)
      obtain ⟨ad2, rfl, had2, hcell2⟩ := (hy.keep hK2 (by simp)).2.2 (by omega)
      have hc := hcell k (by omega)
      have hc2 := hcell2 k (by omega)
      refine l_nil ?_
      refine q_then ?_
      refine c_seq ?_
      refine c_true rfl rfl ?_
      refine c_skip ?_
      refine q_then ?_
      refine c_seq ?_
      refine c_block ?_
      refine c_seq ?_
      refine c_region ?_
      refine st (y_move rfl) rfl ?_
      refine st (y_assign rfl) rfl ?_
      refine l_nil ?_
      refine q_then ?_
      refine c_seq ?_
      refine c_still mixed (by kernel_rfl) ?_
      refine ss (y_move rfl) rfl ?_
      refine ss (y_move rfl) rfl ?_
      first | refine ss (y_index0 rfl rfl Tryd.underlying23 sz22 (by omega)) rfl ?_ | refine ss (y_index rfl rfl Tryd.underlying23 sz22 (by omega)) rfl ?_ | refine ss (y_indexA rfl rfl Tryd.underlying23 sz22 (by omega)) rfl ?_
      refine ss (y_load rfl one22 (by assumption)) rfl ?_
      refine ss (y_move rfl) rfl ?_
      refine ss (y_move rfl) rfl ?_
      first | refine ss (y_index0 rfl rfl Tryd.underlying23 sz22 (by omega)) rfl ?_ | refine ss (y_index rfl rfl Tryd.underlying23 sz22 (by omega)) rfl ?_ | refine ss (y_indexA rfl rfl Tryd.underlying23 sz22 (by omega)) rfl ?_
      refine ss (y_load rfl one22 (by assumption)) rfl ?_
      refine ss_f (y_ne_u rfl rfl) (by omega) rfl ?_
      refine s_nil ?_
      refine q_then ?_
      refine c_false rfl rfl ?_
      refine c_skip ?_
      refine q_block ?_
      refine q_then ?_
      refine c_region ?_
      first | refine st (y_add_in (b := 1) rfl rfl (by omega)) rfl ?_ | refine st (y_add_i (b := 1) rfl rfl (by omega) (by omega)) rfl ?_
      refine st (y_move rfl) rfl ?_
      refine l_nil ?_
      exact q_round (k + 1) ⟨rfl, rfl, rfl, rfl, trivial⟩ ⟨by omega, hK2⟩ (by omega)
    ·
      refine l_nil ?_
      refine q_then ?_
      refine c_seq ?_
      refine c_false rfl rfl ?_
      refine c_exit ?_
      refine q_then_exit ?_
      refine q_then_exit ?_
      refine q_block_hit ?_
      refine q_then ?_
      refine c_seq ?_
      refine c_region ?_
      refine st (y_assign rfl) rfl ?_
      refine l_nil ?_
      refine q_then ?_
      refine c_ret ?_
      refine q_end1 (.inl rfl) rfl rfl ?_
      exact ⟨_, rfl, rfl, hK⟩

theorem c_is (L : Nat) (A : Option Addr) (n c : Nat) (xs : List Nat) (B : Option Addr) (m d : Nat) (s : List Bool) (w : World) (hx : Rd w A n xs) (hB : RdB w B m s) (hs : s.length ≤ 100000) (he : xs = nums s) :
    Cal Tryd.prog 19 [aB L A n c, .slice B m d] w fun v w' => v = vB true ∧ Keep w w' [] := by
  refine go_in' Tryd.func19 rfl Tryd.ntmps19 (Nat.le_of_ble_eq_true rfl) ?_
  refine c_seq ?_
  refine c_region ?_
  refine st_box _ rfl rfl rfl ?_
  intro b2 w1 hb2 hB2 hK1 hS1
  have hK1d := hK1.trans (Keep.drew w1 []) (by simp)
  refine st (y_assign rfl) rfl ?_
  refine l_nil ?_
  refine q_then ?_
  refine c_seq ?_
  refine c_heldN ((fun w' => Blk w' b2 25 [vU L, .slice A n c])) 3 mixed (by kernel_rfl) (hB2.drew) ?_
  refine sh (fun w' hS => fa25_1 rfl) rfl rfl ?_
  refine sh (fun w' hS => y_loadb rfl one23 (by first | assumption | exact hS | exact hS.1 | exact hS.2.1 | exact hS.2.2.1 | exact hS.2.2.2.1 | exact hS.2 | exact hS.2.2 | exact hS.2.2.2) (by rfl)) rfl rfl ?_
  refine sh (fun w' hS => y_move rfl) rfl rfl ?_
  refine h_nil ?_
  show wpL _ _ _ _ _ _ _ _
  refine sc rfl rfl isfn30 (c_NumbersR B m d s _ (hB.keep hK1d (by simp)) hs) rfl ?_
  rintro v3 w3 ⟨hO, hK3⟩
  obtain ⟨A3, c3, rfl, hRd3⟩ := hO.rd
  have hK13 := hK1d.trans hK3 (by simp)
  refine l_nil ?_
  refine q_tail ((hB2.drew.keep hK3 (by simp))) ?_
  show wpL _ _ _ _ _ _ _ _
  refine sc rfl rfl isfn29 (c_list A A3 n c _ c3 xs (nums s) _ (hx.keep hK13 (by simp)) hRd3 he) rfl ?_
  rintro _ w4 ⟨rfl, hK4⟩
  refine l_nil ?_
  refine q_tail (((hB2.drew.keep hK3 (by simp)).keep hK4 (by simp))) ?_
  show wpL _ _ _ _ _ _ _ _
  refine st (y_assign rfl) rfl ?_
  refine l_nil ?_
  refine q_tail (((hB2.drew.keep hK3 (by simp)).keep hK4 (by simp))) ?_
  show qf _ _ _ _ _ _
  refine q_then ?_
  refine c_ret ?_
  refine q_end1 (.inl rfl) rfl rfl ?_
  exact ⟨_, rfl, rfl, hK13.trans hK4 (by simp)⟩

theorem c_exactly (L : Nat) (A : Option Addr) (n c : Nat) (xs : List Nat) (B : Option Addr) (m d : Nat) (s : List Bool) (w : World) (hx : Rd w A n xs) (hB : RdB w B m s) (hs : s.length ≤ 100000) (he : xs = nums s) (hL : L = s.length) :
    Cal Tryd.prog 10 [aB L A n c, .slice B m d] w fun v w' => v = vB true ∧ Keep w w' [] := by
  refine go_in' Tryd.func10 rfl Tryd.ntmps10 (Nat.le_of_ble_eq_true rfl) ?_
  refine c_seq ?_
  refine c_region ?_
  refine st_box _ rfl rfl rfl ?_
  intro b2 w1 hb2 hB2 hK1 hS1
  refine st (y_assign rfl) rfl ?_
  refine l_nil ?_
  refine q_then ?_
  refine c_seq ?_
  refine c_region ?_
  refine st (y_loadagg rfl agg25 us25 sz25 (by assumption) (by simp) (by rfl)) rfl ?_
  refine st (y_move rfl) rfl ?_
  have hm := hB.1
  have hm2 := hB.2.1
  refine sc rfl rfl isfn19 (c_is L A n c xs B m d s _ (hx.keep hK1 (by simp)) (hB.keep hK1 (by simp)) hs he) rfl ?_
  rintro _ w3 ⟨rfl, hK3⟩
  have hB2 := hB2.keep hK3 (by simp only [List.mem_cons, List.not_mem_nil, or_false, not_or, not_false_eq_true] <;> omega)
  refine st (y_move rfl) rfl ?_
  refine stg rfl rfl (fa25_0 rfl) rfl ?_
  refine stg rfl rfl (y_loadb rfl one22 (by assumption) (by rfl)) rfl ?_
  refine stg rfl rfl (y_move rfl) rfl ?_
  refine stg rfl rfl (y_len rfl Tryd.underlying29) rfl ?_
  refine stg rfl rfl (y_conv_iu rfl us3 Tryd.underlying22 rfl (by omega)) rfl ?_
  refine stg_t rfl rfl (y_eq_u rfl rfl) (by omega) rfl ?_
  refine st (y_pickT rfl rfl) rfl ?_
  refine st (y_assign rfl) rfl ?_
  refine l_nil ?_
  refine q_then ?_
  refine c_ret ?_
  refine q_end1 (.inl rfl) rfl rfl ?_
  exact ⟨_, rfl, rfl, hK1.trans hK3 (by simp)⟩







































end Go.Proofs.YtkemlhhpakjojaaDoor

/- Counting: OnesCount64, popcntSlice, panicIfNull, Count, wordsNeededUnbound, wordCount; each by its contract. -/
set_option linter.unusedVariables false
set_option linter.unusedSimpArgs false
set_option maxRecDepth 100000
namespace Go.Proofs.YtkemlhhpakjojaaDoor
open Go Go.RowKit








































































































end Go.Proofs.YtkemlhhpakjojaaDoor

/- Words that are changed bit by bit: masks, and what a list of words says of each number. -/
set_option linter.unusedVariables false
set_option linter.unusedSimpArgs false
namespace Go.Proofs.YtkemlhhpakjojaaDoor

def bnots (s : List Bool) : List Bool := s.map (!·)
theorem bnots_getD (s : List Bool) (i : Nat) : (bnots s).getD i false = (decide (i < s.length) && !s.getD i false) := by
  unfold bnots
  rcases Nat.lt_or_ge i s.length with h | h
  · simp [List.getD_eq_getElem?_getD, h]
  · simp [List.getD_eq_getElem?_getD, h, Nat.not_lt.2 h]
/-- the low bits -/
theorem ones_shr (k i : Nat) (hk : k ≤ 64) : (18446744073709551615 >>> k).testBit i = decide (i < 64 - k) := by
  rw [Nat.testBit_shiftRight, show (18446744073709551615 : Nat) = 2 ^ 64 - 1 by decide, Nat.testBit_two_pow_sub_one]
  by_cases h : i < 64 - k
  · have : k + i < 64 := by omega
    simp [h, this]
  · have : ¬ k + i < 64 := by omega
    simp [h, this]
theorem ones_shl (k i : Nat) : ((18446744073709551615 <<< k) % 18446744073709551616).testBit i = (decide (i < 64) && decide (k ≤ i)) := by
  rw [testBit_shl, show (18446744073709551615 : Nat) = 2 ^ 64 - 1 by decide, Nat.testBit_two_pow_sub_one]
  by_cases h : i < 64 <;> by_cases h2 : k ≤ i
  · have : i - k < 64 := by omega
    simp [h, h2, this]
  · simp [h, h2]
  · simp [h]
  · simp [h]
theorem ones_shr_lt (k : Nat) : 18446744073709551615 >>> k < 18446744073709551616 := by
  rw [Nat.shiftRight_eq_div_pow]; exact Nat.lt_of_le_of_lt (Nat.div_le_self _ _) (by decide)
theorem bit64 (i : Nat) : i % 64 < 64 := Nat.mod_lt _ (by decide)

theorem wbit_of {ws : List Nat} (i : Nat) : wbit ws i = (ws.getD (i / 64) 0).testBit (i % 64) := rfl
/-- words that say of each number what a list of truths says are its words -/
theorem pack_of_wbit {ws : List Nat} {s : List Bool} (hl : ws.length = nW s.length) (h1 : ∀ x ∈ ws, x < 18446744073709551616) (h : ∀ i, i < 64 * ws.length → wbit ws i = s.getD i false) : ws = pack s := pack_unique hl h1 h
theorem nW_pos {n : Nat} (h : 0 < n) : 0 < nW n := by unfold nW; omega
theorem nW_mod {n : Nat} (h : n % 64 ≠ 0) : nW n - 1 = n / 64 := by unfold nW; omega
theorem wbit_clean {ws : List Nat} {L : Nat} (hl : ws.length = nW L) (h0 : L % 64 ≠ 0) (i : Nat) :
    wbit (ws.set (ws.length - 1) (ws.getD (ws.length - 1) 0 &&& (18446744073709551615 >>> (64 - L % 64)))) i = (wbit ws i && decide (i < L)) := by
  have hn := nW_mod h0
  have hp : 0 < nW L := nW_pos (by omega)
  have hb := bit64 i
  rw [wbit_set _ _ _ _ (by omega), hl, hn]
  by_cases h : i / 64 = L / 64
  · rw [if_pos h, Nat.testBit_and, ones_shr _ _ (by omega), wbit_of, h]
    congr 1
    apply decide_eq_decide.2
    omega
  · rw [if_neg h]
    by_cases h2 : i < L
    · simp [h2]
    · rw [wbit_ge (by rw [hl]; unfold nW; omega)]; simp
theorem clean_full {ws : List Nat} {L : Nat} (hl : ws.length = nW L) (h0 : L % 64 = 0) (i : Nat) : wbit ws i = (wbit ws i && decide (i < L)) := by
  by_cases h2 : i < L
  · simp [h2]
  · rw [wbit_ge (by rw [hl]; unfold nW; omega)]; simp
theorem set_lt64' {ws : List Nat} (h : ∀ x ∈ ws, x < 18446744073709551616) {j y : Nat} (hy : y < 18446744073709551616) : ∀ x ∈ ws.set j y, x < 18446744073709551616 := set_lt64 h hy
theorem getD_app {ws tl : List Nat} {j : Nat} (hj : j < ws.length) : (ws ++ tl).getD j 0 = ws.getD j 0 := by
  rw [List.getD_eq_getElem?_getD, List.getElem?_append_left hj, ← List.getD_eq_getElem?_getD]
theorem nt_lt64 {x : Nat} (h : x < 18446744073709551616) : nt' x < 18446744073709551616 := Nat.xor_lt_two_pow (n := 64) h (by decide)
end Go.Proofs.YtkemlhhpakjojaaDoor

/- A word of a set is stored; cleanLastWord; Complement, each by its contract. -/
set_option linter.unusedVariables false
set_option linter.unusedSimpArgs false
set_option maxRecDepth 100000
namespace Go.Proofs.YtkemlhhpakjojaaDoor
open Go Go.RowKit

theorem BW.store {w w' : World} {p q L : Nat} {ws tl : List Nat} {j x : Nat} (h : BW w p q L ws tl) (hq : Blk w' q 43 (((ws ++ tl).set j x).map vU)) (hK : Keep w w' [q]) (hx : x < 18446744073709551616) (hj : j < ws.length) : BW w' p q L (ws.set j x) tl := by
  have hne := h.ne
  refine ⟨?_, ?_, hne, set_lt64 h.lt hx, by simpa using h.cap⟩
  · have := h.st.keep hK (by simpa using hne)
    simpa using this
  · rw [List.set_append_left _ _ hj] at hq
    exact hq
theorem BW.drew {w : World} {p q L : Nat} {ws tl : List Nat} (h : BW w p q L ws tl) : BW w.drew p q L ws tl := h.keep (Keep.drew w []) (by simp) (by simp)
theorem BW.bset {w : World} {p q : Nat} {s : List Bool} {ws tl : List Nat} (h : BW w p q s.length ws tl) (hl : ws.length = nW s.length) (hb : ∀ i, i < 64 * ws.length → wbit ws i = s.getD i false) : BSet w p q s := by
  have e := pack_unique hl h.lt hb
  subst e
  exact ⟨tl, h⟩

theorem c_isLenExactMultiple (p q L : Nat) (ws tl : List Nat) (w : World) (hB : BW w p q L ws tl) (hL : L ≤ 1000000) :
    Cal Tryd.prog 35 [vP p] w fun v w' => v = vB (decide (L % 64 = 0)) ∧ w = w' := by
  have hst := hB.st
  have hm := and63 L
  refine go_in' Tryd.func35 rfl Tryd.ntmps35 (Nat.le_of_ble_eq_true rfl) ?_
  refine c_seq ?_
  refine c_region ?_
  refine st (y_assign rfl) rfl ?_
  refine l_nil ?_
  refine q_then ?_
  refine c_seq ?_
  refine c_region ?_
  refine st (y_move rfl) rfl ?_
  refine st (y_nil rfl) rfl ?_
  refine st (fa48_0 rfl) rfl ?_
  refine st (y_loadb rfl one22 (by assumption) (by rfl)) rfl ?_
  refine sc rfl rfl isfn31 (c_wordsIndex _ (by omega) _) rfl ?_
  rintro _ _ ⟨rfl, rfl⟩
  rw [hm]
  refine st (y_eq_u (b := 0) rfl rfl) rfl ?_
  refine st (y_assign rfl) rfl ?_
  refine l_nil ?_
  refine q_then ?_
  refine c_ret ?_
  refine q_end1 (.inl rfl) rfl rfl ?_
  exact ⟨_, rfl, rfl, rfl⟩

theorem c_cleanLastWord (p q L : Nat) (ws tl : List Nat) (w : World) (hB : BW w p q L ws tl) (hL : L ≤ 1000000) (hl : ws.length = nW L) :
    Cal Tryd.prog 27 [vP p] w fun v w' => v = vT [] ∧ (∃ ws', BW w' p q L ws' tl ∧ ws'.length = ws.length ∧ ∀ i, wbit ws' i = (wbit ws i && decide (i < L))) ∧ Keep w w' [q] := by
  refine go_in' Tryd.func27 rfl Tryd.ntmps27 (Nat.le_of_ble_eq_true rfl) ?_
  refine c_seq ?_
  refine c_region ?_
  refine st (y_move rfl) rfl ?_
  refine sc rfl rfl isfn35 (c_isLenExactMultiple p q L ws tl _ hB hL) rfl ?_
  rintro _ _ ⟨rfl, rfl⟩
  refine st (y_not rfl) rfl ?_
  refine l_nil ?_
  refine q_then ?_
  refine c_ifb rfl (fun h => ?_) (fun h => ?_)
  · have hm : L % 64 ≠ 0 := by simpa using h
    have hp : 0 < nW L := nW_pos (by omega)
    have hp2 : nW L ≤ 1000000 := by unfold nW; omega
    have hBd := hB.drew
    have hst := hBd.st
    have hwd := hBd.wd
    have e1 := getD_app (tl := tl) (show ws.length - 1 < ws.length by omega)
    have hx := getD_lt64 hB.lt (ws.length - 1)
    have hmm := and63 L
    have hne := hB.ne
    refine c_tail 21 mixed (by kernel_rfl) ?_
    refine ss (y_move rfl) rfl ?_
    refine ss (y_nil rfl) rfl ?_
    refine ss (fa48_1 rfl) rfl ?_
    refine ss (y_loadb rfl one42 (by assumption) (by rfl)) rfl ?_
    refine ss (y_move rfl) rfl ?_
    refine ss (y_nil rfl) rfl ?_
    refine ss (fa48_1 rfl) rfl ?_
    refine ss (y_loadb rfl one42 (by assumption) (by rfl)) rfl ?_
    refine ss (y_len rfl Tryd.underlying42) rfl ?_
    refine ss (y_sub_i (b := 1) rfl rfl (by omega) (by omega)) rfl ?_
    rw [show ((ws.length : Int) - 1) = ((ws.length - 1 : Nat) : Int) by omega]
    first | refine ss (y_index0 rfl rfl Tryd.underlying42 sz43 (by omega)) rfl ?_ | refine ss (y_index rfl rfl Tryd.underlying42 sz43 (by omega)) rfl ?_ | refine ss (y_indexA rfl rfl Tryd.underlying42 sz43 (by omega)) rfl ?_
    first | refine ss (y_loadM (0) rfl one43 (by assumption) (by first | omega | (simp only [List.length_append, List.length_map, List.length_replicate, List.length_set, List.length_take, List.length_drop]; omega) | (simp; done))) rfl ?_ | refine ss (y_load rfl one43 (by assumption)) rfl ?_
    refine ss (y_move rfl) rfl ?_
    refine ss (y_nil rfl) rfl ?_
    refine ss (fa48_0 rfl) rfl ?_
    refine ss (y_loadb rfl one22 (by assumption) (by rfl)) rfl ?_
    rw [e1]
    refine ssc rfl rfl isfn31 (c_wordsIndex _ (by omega) _) rfl ?_
    rw [hmm]
    refine ss (y_sub_u (a := 64) rfl rfl (by omega) (by omega)) rfl ?_
    refine ss (y_shr (a := 18446744073709551615) rfl rfl (by first | omega | assumption | (repeat (first | assumption | omega | decide | exact shl_lt64 _ _ | apply and_lt64 | apply or_lt64 | apply xor_lt64 | apply nt_lt | apply shr_lt64 | apply getD_lt64)))) rfl ?_
    refine ss (y_and rfl rfl (by first | omega | assumption | (repeat (first | assumption | omega | decide | exact shl_lt64 _ _ | apply and_lt64 | apply or_lt64 | apply xor_lt64 | apply nt_lt | apply shr_lt64 | apply getD_lt64))) (by first | omega | assumption | (repeat (first | assumption | omega | decide | exact shl_lt64 _ _ | apply and_lt64 | apply or_lt64 | apply xor_lt64 | apply nt_lt | apply shr_lt64 | apply getD_lt64)))) rfl ?_
    first | refine ss (y_index0 rfl rfl Tryd.underlying42 sz43 (by omega)) rfl ?_ | refine ss (y_index rfl rfl Tryd.underlying42 sz43 (by omega)) rfl ?_ | refine ss (y_indexA rfl rfl Tryd.underlying42 sz43 (by omega)) rfl ?_
    refine s_nil ?_
    show wpL _ _ _ _ _ _ _ _
    refine st_storeM vU rfl rfl rfl sz43 (by assumption) (by first | omega | (simp only [List.length_append, List.length_map, List.length_replicate, List.length_set, List.length_take, List.length_drop]; omega)) rfl ?_
    intro w2 hw2 hK2 hS2
    refine l_nil ?_
    refine q_end0 (.inr rfl) rfl ?_
    refine ⟨_, rfl, rfl, ⟨_, hBd.store hw2 hK2 (and_lt64 _ hx) (by omega), by simp, wbit_clean hl hm⟩, (Keep.drew w [q]).trans hK2 (fun i hi => .inl hi)⟩
  ·
    have hm : L % 64 = 0 := by simpa using h
    refine c_skip ?_
    refine q_end0 (.inr rfl) rfl ?_
    exact ⟨_, rfl, rfl, ⟨ws, hB, rfl, clean_full hl hm⟩, Keep.refl _ _⟩
































































end Go.Proofs.YtkemlhhpakjojaaDoor

/- A range of numbers turned or put in: by words, and as lists of truths. -/
set_option linter.unusedVariables false
set_option linter.unusedSimpArgs false
namespace Go.Proofs.YtkemlhhpakjojaaDoor

def tab (n : Nat) (f : Nat → Bool) : List Bool := (List.range n).map f
theorem tab_length (n : Nat) (f : Nat → Bool) : (tab n f).length = n := by simp [tab]
theorem tab_getD (n : Nat) (f : Nat → Bool) (i : Nat) : (tab n f).getD i false = (decide (i < n) && f i) := by
  rcases Nat.lt_or_ge i n with h | h
  · rw [List.getD_eq_getElem?_getD]; simp [tab, h]
  · rw [getD_ge _ _ (by rw [tab_length]; exact h)]; simp [Nat.not_lt.2 h]
def inR (a b i : Nat) : Bool := decide (a ≤ i) && decide (i < b)
def flipR (s : List Bool) (a b : Nat) : List Bool := if a < b then tab (max s.length b) (fun i => s.getD i false ^^ inR a b i) else s
def setR (s : List Bool) (a b : Nat) : List Bool := if a < b then tab (max s.length b) (fun i => s.getD i false || inR a b i) else s
theorem flipR_getD {s : List Bool} {a b : Nat} (h : a < b) (i : Nat) : (flipR s a b).getD i false = (s.getD i false ^^ inR a b i) := by
  unfold flipR
  rw [if_pos h, tab_getD]
  by_cases h1 : i < max s.length b
  · simp [h1]
  · have h2 : ¬ i < b := by omega
    rw [getD_ge s false (by omega)]
    simp [h1, inR, h2]
theorem setR_getD {s : List Bool} {a b : Nat} (h : a < b) (i : Nat) : (setR s a b).getD i false = (s.getD i false || inR a b i) := by
  unfold setR
  rw [if_pos h, tab_getD]
  by_cases h1 : i < max s.length b
  · simp [h1]
  · have h2 : ¬ i < b := by omega
    rw [getD_ge s false (by omega)]
    simp [h1, inR, h2]
theorem flipR_length {s : List Bool} {a b : Nat} (h : a < b) : (flipR s a b).length = max s.length b := by unfold flipR; rw [if_pos h, tab_length]
theorem setR_length {s : List Bool} {a b : Nat} (h : a < b) : (setR s a b).length = max s.length b := by unfold setR; rw [if_pos h, tab_length]
theorem flipR_len (s : List Bool) (a b : Nat) : (flipR s a b).length ≤ max s.length b ∧ s.length ≤ (flipR s a b).length := by
  by_cases h : a < b
  · rw [flipR_length h]; omega
  · unfold flipR; rw [if_neg h]; omega
theorem setR_len (s : List Bool) (a b : Nat) : (setR s a b).length ≤ max s.length b := by
  by_cases h : a < b
  · rw [setR_length h]; omega
  · unfold setR; rw [if_neg h]; omega

/-! one word -/
theorem flip_low {ws : List Nat} {j r : Nat} (hj : j < ws.length) (i : Nat) :
    wbit (ws.set j (ws.getD j 0 ^^^ nt' ((18446744073709551615 <<< r) % 18446744073709551616))) i = (wbit ws i ^^ (decide (i / 64 = j) && decide (i % 64 < r))) := by
  have hb := bit64 i
  rw [wbit_set _ _ _ _ hj]
  by_cases h : i / 64 = j
  · rw [if_pos h, Nat.testBit_xor, nt_testBit, ones_shl, wbit_of, h]
    by_cases h2 : i % 64 < r
    · have h3 : ¬ r ≤ i % 64 := by omega
      simp [hb, h2, h3]
    · have h3 : r ≤ i % 64 := by omega
      simp [hb, h2, h3]
  · rw [if_neg h]; simp [h]
theorem flip_all {ws : List Nat} {j : Nat} (hj : j < ws.length) (i : Nat) : wbit (ws.set j (nt' (ws.getD j 0))) i = (wbit ws i ^^ decide (i / 64 = j)) := by
  have hb := bit64 i
  rw [wbit_set _ _ _ _ hj]
  by_cases h : i / 64 = j
  · rw [if_pos h, nt_testBit, wbit_of, h]; simp [hb]
  · rw [if_neg h]; simp [h]
theorem flip_high {ws : List Nat} {j k : Nat} (hj : j < ws.length) (hk : k ≤ 64) (i : Nat) :
    wbit (ws.set j (ws.getD j 0 ^^^ (18446744073709551615 >>> k))) i = (wbit ws i ^^ (decide (i / 64 = j) && decide (i % 64 < 64 - k))) := by
  rw [wbit_set _ _ _ _ hj]
  by_cases h : i / 64 = j
  · rw [if_pos h, Nat.testBit_xor, ones_shr _ _ hk, wbit_of, h]; simp
  · rw [if_neg h]; simp [h]
theorem or_word {ws : List Nat} {j x : Nat} (hj : j < ws.length) (i : Nat) : wbit (ws.set j (ws.getD j 0 ||| x)) i = (wbit ws i || (decide (i / 64 = j) && x.testBit (i % 64))) := by
  rw [wbit_set _ _ _ _ hj]
  by_cases h : i / 64 = j
  · rw [if_pos h, Nat.testBit_or, wbit_of, h]; simp
  · rw [if_neg h]; simp [h]
theorem all_word {ws : List Nat} {j : Nat} (hj : j < ws.length) (i : Nat) : wbit (ws.set j 18446744073709551615) i = (wbit ws i || decide (i / 64 = j)) := by
  have hb := bit64 i
  rw [wbit_set _ _ _ _ hj]
  by_cases h : i / 64 = j
  · rw [if_pos h, show (18446744073709551615 : Nat) = 2 ^ 64 - 1 by decide, Nat.testBit_two_pow_sub_one]; simp [hb, h]
  · rw [if_neg h]; simp [h]

/-! the parts of a range -/
theorem neg_mod {b : Nat} (h : b < 18446744073709551616) : ((18446744073709551616 - b) % 18446744073709551616) % 64 = (64 - b % 64) % 64 := by omega
theorem rangeF {a b : Nat} (h : a < b) (i : Nat) :
    ((decide (i / 64 = a / 64) && decide (i % 64 < a % 64)) ^^ ((decide (64 * (a / 64) ≤ i) && decide (i < 64 * (b / 64))) ^^ (decide (i / 64 = b / 64) && decide (i % 64 < b % 64)))) = inR a b i := by
  have hA : (decide (i / 64 = a / 64) && decide (i % 64 < a % 64)) = decide (64 * (a / 64) ≤ i ∧ i < a) := by
    rw [← Bool.decide_and]; exact decide_eq_decide.2 (by omega)
  have hC : (decide (i / 64 = b / 64) && decide (i % 64 < b % 64)) = decide (64 * (b / 64) ≤ i ∧ i < b) := by
    rw [← Bool.decide_and]; exact decide_eq_decide.2 (by omega)
  have hB : (decide (64 * (a / 64) ≤ i) && decide (i < 64 * (b / 64))) = decide (64 * (a / 64) ≤ i ∧ i < 64 * (b / 64)) := by rw [← Bool.decide_and]
  unfold inR
  rw [hA, hB, hC, ← Bool.decide_and]
  by_cases hb : i < 64 * (b / 64)
  · by_cases h1 : 64 * (a / 64) ≤ i
    · by_cases h2 : i < a
      · rw [decide_eq_true (show 64 * (a / 64) ≤ i ∧ i < a from ⟨h1, h2⟩), decide_eq_true (show 64 * (a / 64) ≤ i ∧ i < 64 * (b / 64) from ⟨h1, hb⟩), decide_eq_false (show ¬ (64 * (b / 64) ≤ i ∧ i < b) by omega), decide_eq_false (show ¬ (a ≤ i ∧ i < b) by omega)]; rfl
      · rw [decide_eq_false (show ¬ (64 * (a / 64) ≤ i ∧ i < a) by omega), decide_eq_true (show 64 * (a / 64) ≤ i ∧ i < 64 * (b / 64) from ⟨h1, hb⟩), decide_eq_false (show ¬ (64 * (b / 64) ≤ i ∧ i < b) by omega), decide_eq_true (show a ≤ i ∧ i < b by omega)]; rfl
    · rw [decide_eq_false (show ¬ (64 * (a / 64) ≤ i ∧ i < a) by omega), decide_eq_false (show ¬ (64 * (a / 64) ≤ i ∧ i < 64 * (b / 64)) by omega), decide_eq_false (show ¬ (64 * (b / 64) ≤ i ∧ i < b) by omega), decide_eq_false (show ¬ (a ≤ i ∧ i < b) by omega)]; rfl
  · by_cases h3 : i < b
    · by_cases h2 : i < a
      · rw [decide_eq_true (show 64 * (a / 64) ≤ i ∧ i < a by omega), decide_eq_false (show ¬ (64 * (a / 64) ≤ i ∧ i < 64 * (b / 64)) by omega), decide_eq_true (show 64 * (b / 64) ≤ i ∧ i < b by omega), decide_eq_false (show ¬ (a ≤ i ∧ i < b) by omega)]; rfl
      · rw [decide_eq_false (show ¬ (64 * (a / 64) ≤ i ∧ i < a) by omega), decide_eq_false (show ¬ (64 * (a / 64) ≤ i ∧ i < 64 * (b / 64)) by omega), decide_eq_true (show 64 * (b / 64) ≤ i ∧ i < b by omega), decide_eq_true (show a ≤ i ∧ i < b by omega)]; rfl
    · rw [decide_eq_false (show ¬ (64 * (a / 64) ≤ i ∧ i < a) by omega), decide_eq_false (show ¬ (64 * (a / 64) ≤ i ∧ i < 64 * (b / 64)) by omega), decide_eq_false (show ¬ (64 * (b / 64) ≤ i ∧ i < b) by omega), decide_eq_false (show ¬ (a ≤ i ∧ i < b) by omega)]; rfl
/-- all in one word -/
theorem range1 {a b k : Nat} (h : a < b) (hk : k = (64 - b % 64) % 64) (hw : a / 64 = (b - 1) / 64) (i : Nat) :
    (decide (i / 64 = a / 64) && ((decide (i % 64 < 64) && decide (a % 64 ≤ i % 64)) && decide (i % 64 < 64 - k))) = inR a b i := by
  unfold inR
  simp only [← Bool.decide_and]
  apply decide_eq_decide.2
  omega
/-- in the first word, those between, and the last one -/
theorem range3 {a b k : Nat} (h : a < b) (hk : k = (64 - b % 64) % 64) (hw : a / 64 < (b - 1) / 64) (i : Nat) :
    ((decide (i / 64 = a / 64) && (decide (i % 64 < 64) && decide (a % 64 ≤ i % 64))) || ((decide (64 * (a / 64 + 1) ≤ i) && decide (i < 64 * ((b - 1) / 64))) || (decide (i / 64 = (b - 1) / 64) && decide (i % 64 < 64 - k)))) = inR a b i := by
  unfold inR
  simp only [← Bool.decide_and, ← Bool.decide_or]
  apply decide_eq_decide.2
  omega
end Go.Proofs.YtkemlhhpakjojaaDoor

/- A set is known by its length and its numbers. -/
set_option linter.unusedVariables false
set_option linter.unusedSimpArgs false
namespace Go.Proofs.YtkemlhhpakjojaaDoor

theorem mem_numsFrom (s : List Bool) : ∀ i j, j ∈ numsFrom i s ↔ i ≤ j ∧ s.getD (j - i) false = true := by
  induction s with
  | nil => intro i j; simp [numsFrom]
  | cons b r ih =>
    intro i j
    have e : ∀ k, (b :: r).getD (k + 1) false = r.getD k false := fun k => by simp
    have e0 : (b :: r).getD 0 false = b := by simp
    unfold numsFrom
    rcases Nat.lt_trichotomy j i with h | h | h
    · constructor
      · intro hm
        split at hm
        · rcases List.mem_cons.1 hm with h1 | h1
          · omega
          · have := ((ih (i + 1) j).1 h1).1; omega
        · have := ((ih (i + 1) j).1 hm).1; omega
      · intro h1; omega
    · subst h
      rw [Nat.sub_self, e0]
      constructor
      · intro hm
        split at hm
        · rename_i hb; exact ⟨Nat.le_refl _, hb⟩
        · have := ((ih (j + 1) j).1 hm).1; omega
      · intro h1
        rw [if_pos h1.2]; exact List.mem_cons_self ..
    · rw [show j - i = (j - (i + 1)) + 1 by omega, e]
      constructor
      · intro hm
        split at hm
        · rcases List.mem_cons.1 hm with h1 | h1
          · omega
          · have := (ih (i + 1) j).1 h1; exact ⟨by omega, this.2⟩
        · have := (ih (i + 1) j).1 hm; exact ⟨by omega, this.2⟩
      · intro h1
        have h2 := (ih (i + 1) j).2 ⟨by omega, h1.2⟩
        split
        · exact List.mem_cons_of_mem _ h2
        · exact h2
theorem mem_nums (s : List Bool) (j : Nat) : j ∈ nums s ↔ s.getD j false = true := by
  unfold nums; rw [mem_numsFrom]; simp
theorem mkS_nums (s : List Bool) : mkS s.length (nums s) = s := by
  have hl : (mkS s.length (nums s)).length = s.length := by
    rw [mkS_length]
    have h1 := mkN_le s.length s.length (nums s) (Nat.le_refl _) (nums_lt s)
    have h2 := (mkN_ge s.length (nums s)).1
    omega
  refine bool_ext hl fun i hi => ?_
  rw [mkS_getD]
  have := mem_nums s i
  cases h : s.getD i false
  · rw [h] at this; exact decide_eq_false (fun hm => by have := this.1 hm; cases this)
  · rw [h] at this; exact decide_eq_true (this.2 rfl)
theorem nums_pad (s : List Bool) (k : Nat) : nums (s ++ List.replicate k false) = nums s := by
  induction k with
  | zero => simp
  | succ k ih => rw [List.replicate_succ', ← List.append_assoc, nums_snoc, ih]; simp
theorem nums_congr {s t : List Bool} (h : ∀ i, s.getD i false = t.getD i false) : nums s = nums t := by
  have e : ext s (max s.length t.length) = ext t (max s.length t.length) := by
    refine bool_ext (by rw [ext_length, ext_length]; omega) fun i _ => ?_
    rw [ext_getD, ext_getD, h]
  have h1 : nums (ext s (max s.length t.length)) = nums s := nums_pad _ _
  have h2 : nums (ext t (max s.length t.length)) = nums t := nums_pad _ _
  rw [← h1, e, h2]
theorem flipR_twice (s : List Bool) (a b : Nat) : nums (flipR (flipR s a b) a b) = nums s := by
  by_cases h : a < b
  · refine nums_congr fun i => ?_
    rw [flipR_getD h, flipR_getD h]
    cases s.getD i false <;> cases inR a b i <;> rfl
  · unfold flipR; rw [if_neg h, if_neg h]
theorem nums_le (s : List Bool) (B : Nat) (h : s.length ≤ B + 1) : ∀ x ∈ nums s, x ≤ B := fun x hx => by have := nums_lt s x hx; omega
end Go.Proofs.YtkemlhhpakjojaaDoor

/- The set of words, and a set into which another one is copied: plain lemmas, without Go. -/
set_option linter.unusedVariables false
set_option linter.unusedSimpArgs false
namespace Go.Proofs.YtkemlhhpakjojaaDoor

def ofW (ws : List Nat) : List Bool := tab (64 * ws.length) (wbit ws)
theorem ofW_length (ws : List Nat) : (ofW ws).length = 64 * ws.length := tab_length _ _
theorem ofW_getD (ws : List Nat) (i : Nat) : (ofW ws).getD i false = wbit ws i := by
  unfold ofW
  rw [tab_getD]
  by_cases h : i < 64 * ws.length
  · simp [h]
  · rw [wbit_ge (by omega)]; simp
theorem pack_ofW {ws : List Nat} (h : ∀ x ∈ ws, x < 18446744073709551616) : pack (ofW ws) = ws := by
  symm
  refine pack_unique ?_ h fun i _ => (ofW_getD ws i).symm
  rw [ofW_length]; unfold nW; omega
/-- as the program reckons it: the bit of a word -/
theorem ofW_bit (ws : List Nat) (i : Nat) : decide ((ws.getD (i / 64) 0 >>> (i % 64)) &&& 1 = 1) = wbit ws i := by
  unfold wbit
  generalize ws.getD (i / 64) 0 = x
  rw [Nat.and_one_is_mod]
  have e : x.testBit (i % 64) = decide ((x >>> (i % 64)) % 2 = 1) := by
    rw [Nat.testBit_eq_decide_div_mod_eq, Nat.shiftRight_eq_div_pow]
  rw [e]

def copyS (s t : List Bool) : List Bool := tab t.length fun i => if i < 64 * min (nW s.length) (nW t.length) then s.getD i false else t.getD i false
theorem copyS_length (s t : List Bool) : (copyS s t).length = t.length := tab_length _ _
theorem copyS_getD (s t : List Bool) (i : Nat) : (copyS s t).getD i false = (decide (i < t.length) && if i < 64 * min (nW s.length) (nW t.length) then s.getD i false else t.getD i false) := tab_getD _ _ _
theorem copyS_low {s t : List Bool} {i : Nat} (h1 : i < s.length) (h2 : i < t.length) : (copyS s t).getD i false = s.getD i false := by
  rw [copyS_getD, if_pos (by unfold nW; omega)]; simp [h2]
theorem wbit_drop (ws : List Nat) (m i : Nat) : wbit (ws.drop m) i = wbit ws (64 * m + i) := by
  unfold wbit
  rw [show (64 * m + i) / 64 = m + i / 64 by omega, show (64 * m + i) % 64 = i % 64 by omega]
  simp only [List.getD_eq_getElem?_getD, List.getElem?_drop]
theorem wbit_copy {s t : List Bool} {m : Nat} (hm : m = min (nW s.length) (nW t.length)) (i : Nat) : wbit ((pack s).take m ++ (pack t).drop m) i = if i < 64 * m then s.getD i false else t.getD i false := by
  have h1 := pack_length s
  have h2 := pack_length t
  have hl : ((pack s).take m).length = m := by simp; omega
  rw [wbit_append, hl]
  by_cases h : i < 64 * m
  · rw [if_pos h, if_pos h, ← wbit_pack]
    unfold wbit
    simp only [List.getD_eq_getElem?_getD, List.getElem?_take_of_lt (show i / 64 < m by omega)]
  · rw [if_neg h, if_neg h, wbit_drop, wbit_pack, show 64 * m + (i - 64 * m) = i by omega]
end Go.Proofs.YtkemlhhpakjojaaDoor

/- How many bits of a word are set, and the sum by which the library counts them; plain lemmas, without Go. -/
import Derived.Test.YtbahhdeblppooaaDoorL3
set_option linter.unusedVariables false
set_option linter.unusedSimpArgs false
namespace Go.Proofs.YtbahhdeblppooaaDoor

def cnt (f : Nat → Bool) : Nat → Nat
  | 0 => 0
  | n + 1 => cnt f n + (if f n then 1 else 0)
def popc (m : Nat) : Nat := cnt m.testBit 64

theorem cnt_le (f : Nat → Bool) (n : Nat) : cnt f n ≤ n := by
  induction n with
  | zero => simp [cnt]
  | succ n ih => simp only [cnt]; split <;> omega
theorem cnt_congr {f g : Nat → Bool} {n : Nat} (h : ∀ i, i < n → f i = g i) : cnt f n = cnt g n := by
  induction n with
  | zero => rfl
  | succ n ih => simp only [cnt]; rw [ih (fun i hi => h i (by omega)), h n (by omega)]
theorem cnt_add (f : Nat → Bool) (a b : Nat) : cnt f (a + b) = cnt f a + cnt (fun i => f (a + i)) b := by
  induction b with
  | zero => simp [cnt]
  | succ b ih => rw [← Nat.add_assoc]; simp only [cnt]; rw [ih]; omega
theorem cnt_false {f : Nat → Bool} {n : Nat} (h : ∀ i, i < n → f i = false) : cnt f n = 0 := by
  induction n with
  | zero => rfl
  | succ n ih => simp only [cnt]; rw [ih (fun i hi => h i (by omega)), h n (by omega)]; rfl

/-! ### a word by its bytes -/
def ofB : List Nat → Nat
  | [] => 0
  | b :: r => b + 256 * ofB r
def rep (c : Nat) : Nat → Nat
  | 0 => 0
  | n + 1 => c + 256 * rep c n
def f1 (b : Nat) : Nat := (b / 2 &&& 85) + (b &&& 85)
def f2 (b : Nat) : Nat := (b / 4 &&& 51) + (b &&& 51)
def f3 (b : Nat) : Nat := (b + b / 16) &&& 15
def pb (b : Nat) : Nat := cnt b.testBit 8

theorem and_256 (a b x y : Nat) (ha : a < 256) (hx : x < 256) : (a + 256 * b) &&& (x + 256 * y) = (a &&& x) + 256 * (b &&& y) := by
  have h1 : ((a + 256 * b) &&& (x + 256 * y)) % 2 ^ 8 = (a &&& x) := by
    rw [Nat.and_mod_two_pow]
    rw [show (a + 256 * b) % 2 ^ 8 = a by omega, show (x + 256 * y) % 2 ^ 8 = x by omega]
  have h2 : ((a + 256 * b) &&& (x + 256 * y)) / 2 ^ 8 = (b &&& y) := by
    rw [Nat.and_div_two_pow]
    rw [show (a + 256 * b) / 2 ^ 8 = b by omega, show (x + 256 * y) / 2 ^ 8 = y by omega]
  omega
theorem and_lt_256 (a x : Nat) (ha : a < 256) : a &&& x < 256 := Nat.lt_of_le_of_lt Nat.and_le_left ha

theorem b1 : ∀ b : Fin 256, ∀ c : Fin 2, ((b.val / 2 + 128 * c.val) &&& 85) = (b.val / 2 &&& 85) := by decide +kernel
theorem b2 : ∀ b : Fin 256, ∀ c : Fin 4, ((b.val / 4 + 64 * c.val) &&& 51) = (b.val / 4 &&& 51) := by decide +kernel
theorem b3 : ∀ b : Fin 256, f1 b.val < 256 ∧ f2 b.val < 256 ∧ (f2 (f1 b.val)) % 16 ≤ 4 ∧ (f2 (f1 b.val)) / 16 ≤ 4 ∧ f3 (f2 (f1 b.val)) = pb b.val := by decide +kernel
theorem b4 : ∀ b : Fin 69, ∀ c : Fin 5, ((b.val + b.val / 16 + 16 * c.val) &&& 15) = f3 b.val := by decide +kernel

theorem step1 (l : List Nat) (h : ∀ b ∈ l, b < 256) : (ofB l / 2 &&& rep 85 l.length) + (ofB l &&& rep 85 l.length) = ofB (l.map f1) := by
  induction l with
  | nil => rfl
  | cons b r ih =>
    have hb := h b (List.mem_cons_self ..)
    have hr := ih (fun x hx => h x (List.mem_cons_of_mem _ hx))
    simp only [ofB, rep, List.map_cons, List.length_cons]
    have e : (b + 256 * ofB r) / 2 = (b / 2 + 128 * (ofB r % 2)) + 256 * (ofB r / 2) := by omega
    rw [e, and_256 _ _ _ _ (by omega) (by omega), and_256 _ _ _ _ hb (by omega)]
    have := b1 ⟨b, hb⟩ ⟨ofB r % 2, Nat.mod_lt _ (by decide)⟩
    simp only at this
    rw [this]
    rw [show f1 b = (b / 2 &&& 85) + (b &&& 85) from rfl]
    omega
theorem step2 (l : List Nat) (h : ∀ b ∈ l, b < 256) : (ofB l / 4 &&& rep 51 l.length) + (ofB l &&& rep 51 l.length) = ofB (l.map f2) := by
  induction l with
  | nil => rfl
  | cons b r ih =>
    have hb := h b (List.mem_cons_self ..)
    have hr := ih (fun x hx => h x (List.mem_cons_of_mem _ hx))
    simp only [ofB, rep, List.map_cons, List.length_cons]
    have e : (b + 256 * ofB r) / 4 = (b / 4 + 64 * (ofB r % 4)) + 256 * (ofB r / 4) := by omega
    rw [e, and_256 _ _ _ _ (by omega) (by omega), and_256 _ _ _ _ hb (by omega)]
    have := b2 ⟨b, hb⟩ ⟨ofB r % 4, Nat.mod_lt _ (by decide)⟩
    simp only at this
    rw [this]
    rw [show f2 b = (b / 4 &&& 51) + (b &&& 51) from rfl]
    omega
theorem ofB_mod16 (l : List Nat) (h : ∀ b ∈ l, b % 16 ≤ 4) : ofB l % 16 ≤ 4 := by
  cases l with
  | nil => simp [ofB]
  | cons b r => have := h b (List.mem_cons_self ..); simp only [ofB]; omega
theorem step3 (l : List Nat) (h : ∀ b ∈ l, b % 16 ≤ 4 ∧ b / 16 ≤ 4) : (ofB l / 16 + ofB l) &&& rep 15 l.length = ofB (l.map f3) := by
  induction l with
  | nil => rfl
  | cons b r ih =>
    have hb := h b (List.mem_cons_self ..)
    have hr := ih (fun x hx => h x (List.mem_cons_of_mem _ hx))
    simp only [ofB, rep, List.map_cons, List.length_cons]
    have hm := ofB_mod16 r (fun x hx => (h x (List.mem_cons_of_mem _ hx)).1)
    have e : (b + 256 * ofB r) / 16 + (b + 256 * ofB r) = (b + b / 16 + 16 * (ofB r % 16)) + 256 * (ofB r / 16 + ofB r) := by omega
    rw [e, and_256 _ _ _ _ (by omega) (by omega)]
    have := b4 ⟨b, by omega⟩ ⟨ofB r % 16, by omega⟩
    simp only at this
    rw [this, hr]
theorem ofB_testBit_low (b m i : Nat) (hb : b < 256) (hi : i < 8) : (b + 256 * m).testBit i = b.testBit i := by
  have h : (b + 256 * m) % 2 ^ 8 = b := by omega
  rw [← h, Nat.testBit_mod_two_pow]
  simp [hi, h]
theorem ofB_testBit_high (b m i : Nat) (hb : b < 256) : (b + 256 * m).testBit (8 + i) = m.testBit i := by
  have h : (b + 256 * m) / 2 ^ 8 = m := by omega
  have h2 := Nat.testBit_div_two_pow (b + 256 * m) i (n := 8)
  rw [h] at h2
  rw [h2, Nat.add_comm 8 i]
theorem cnt_ofB (l : List Nat) (h : ∀ b ∈ l, b < 256) : cnt (ofB l).testBit (8 * l.length) = (l.map pb).sum := by
  induction l with
  | nil => rfl
  | cons b r ih =>
    have hb := h b (List.mem_cons_self ..)
    have hr := ih (fun x hx => h x (List.mem_cons_of_mem _ hx))
    rw [List.length_cons, show 8 * (r.length + 1) = 8 + 8 * r.length by omega, cnt_add]
    simp only [ofB, List.map_cons, List.sum_cons]
    rw [cnt_congr (fun i hi => ofB_testBit_low b (ofB r) i hb hi)]
    rw [cnt_congr (g := (ofB r).testBit) (fun i hi => ofB_testBit_high b (ofB r) i hb), hr]
    rfl
/-- the bytes of a word -/
def bs (m : Nat) : List Nat := [m % 256, m / 256 % 256, m / 65536 % 256, m / 16777216 % 256, m / 4294967296 % 256, m / 1099511627776 % 256, m / 281474976710656 % 256, m / 72057594037927936 % 256]
theorem ofB_bs (m : Nat) (h : m < 18446744073709551616) : ofB (bs m) = m := by
  simp only [bs, ofB]
  omega
theorem bs_lt (m : Nat) : ∀ b ∈ bs m, b < 256 := by
  intro b hb
  simp only [bs, List.mem_cons, List.not_mem_nil, or_false] at hb
  omega
theorem pb_le (b : Nat) : pb b ≤ 8 := cnt_le _ 8

theorem add_up1 (c0 c1 c2 c3 c4 c5 c6 c7 : Nat) (h0 : c0 ≤ 8) (h1 : c1 ≤ 8) (h2 : c2 ≤ 8) (h3 : c3 ≤ 8) (h4 : c4 ≤ 8) (h5 : c5 ≤ 8) (h6 : c6 ≤ 8) (h7 : c7 ≤ 8) (u : Nat) (hu : u = c0 + 256 * (c1 + 256 * (c2 + 256 * (c3 + 256 * (c4 + 256 * (c5 + 256 * (c6 + 256 * (c7 + 256 * 0)))))))) :
    u + u / 256 = (c0 + c1) + 256 * ((c1 + c2) + 256 * ((c2 + c3) + 256 * ((c3 + c4) + 256 * ((c4 + c5) + 256 * ((c5 + c6) + 256 * ((c6 + c7) + 256 * c7)))))) := by
  have : u / 256 = c1 + 256 * (c2 + 256 * (c3 + 256 * (c4 + 256 * (c5 + 256 * (c6 + 256 * c7))))) := by omega
  omega
theorem add_up2 (c0 c1 c2 c3 c4 c5 c6 c7 : Nat) (h0 : c0 ≤ 16) (h1 : c1 ≤ 16) (h2 : c2 ≤ 16) (h3 : c3 ≤ 16) (h4 : c4 ≤ 16) (h5 : c5 ≤ 16) (h6 : c6 ≤ 16) (h7 : c7 ≤ 16) (u : Nat) (hu : u = c0 + 256 * (c1 + 256 * (c2 + 256 * (c3 + 256 * (c4 + 256 * (c5 + 256 * (c6 + 256 * c7))))))) :
    u + u / 65536 = (c0 + c2) + 256 * ((c1 + c3) + 256 * ((c2 + c4) + 256 * ((c3 + c5) + 256 * ((c4 + c6) + 256 * ((c5 + c7) + 256 * (c6 + 256 * c7)))))) := by
  have : u / 65536 = c2 + 256 * (c3 + 256 * (c4 + 256 * (c5 + 256 * (c6 + 256 * c7)))) := by omega
  omega
theorem add_up3 (c0 c1 c2 c3 c4 c5 c6 c7 : Nat) (h0 : c0 ≤ 32) (h1 : c1 ≤ 32) (h2 : c2 ≤ 32) (h3 : c3 ≤ 32) (h4 : c4 ≤ 32) (u : Nat) (hu : u = c0 + 256 * (c1 + 256 * (c2 + 256 * (c3 + 256 * (c4 + 256 * (c5 + 256 * (c6 + 256 * c7))))))) :
    (u + u / 4294967296) % 128 = (c0 + c4) % 128 := by
  have : u / 4294967296 = c4 + 256 * (c5 + 256 * (c6 + 256 * c7)) := by omega
  omega
theorem swar_end (c0 c1 c2 c3 c4 c5 c6 c7 : Nat) (h0 : c0 ≤ 8) (h1 : c1 ≤ 8) (h2 : c2 ≤ 8) (h3 : c3 ≤ 8) (h4 : c4 ≤ 8) (h5 : c5 ≤ 8) (h6 : c6 ≤ 8) (h7 : c7 ≤ 8) :
    (let u := c0 + 256 * (c1 + 256 * (c2 + 256 * (c3 + 256 * (c4 + 256 * (c5 + 256 * (c6 + 256 * (c7 + 256 * 0)))))));
     let a := u + u >>> 8; let b := a + a >>> 16; let c := b + b >>> 32; c % 128) = c0 + (c1 + (c2 + (c3 + (c4 + (c5 + (c6 + (c7 + 0))))))) := by
  have e1 := add_up1 c0 c1 c2 c3 c4 c5 c6 c7 h0 h1 h2 h3 h4 h5 h6 h7 _ rfl
  have e2 := add_up2 (c0 + c1) (c1 + c2) (c2 + c3) (c3 + c4) (c4 + c5) (c5 + c6) (c6 + c7) c7 (by omega) (by omega) (by omega) (by omega) (by omega) (by omega) (by omega) (by omega) _ rfl
  have e3 := add_up3 (c0 + c1 + (c2 + c3)) (c1 + c2 + (c3 + c4)) (c2 + c3 + (c4 + c5)) (c3 + c4 + (c5 + c6)) (c4 + c5 + (c6 + c7)) (c5 + c6 + c7) (c6 + c7) c7 (by omega) (by omega) (by omega) (by omega) (by omega) _ rfl
  simp only [Nat.shiftRight_eq_div_pow]
  rw [show (2 : Nat) ^ 8 = 256 from rfl, show (2 : Nat) ^ 16 = 65536 from rfl, show (2 : Nat) ^ 32 = 4294967296 from rfl, e1, e2, e3]
  omega
theorem sum8_lt (a0 a1 a2 a3 a4 a5 a6 a7 B M : Nat) (h0 : a0 ≤ B) (h1 : a1 ≤ B) (h2 : a2 ≤ B) (h3 : a3 ≤ B) (h4 : a4 ≤ B) (h5 : a5 ≤ B) (h6 : a6 ≤ B) (h7 : a7 ≤ B) (hM : B * 72340172838076673 < M) : ofB [a0, a1, a2, a3, a4, a5, a6, a7] < M := by
  simp only [ofB]
  omega
theorem all8 {p : Nat → Prop} {a0 a1 a2 a3 a4 a5 a6 a7 : Nat} (h : ∀ b ∈ [a0, a1, a2, a3, a4, a5, a6, a7], p b) : p a0 ∧ p a1 ∧ p a2 ∧ p a3 ∧ p a4 ∧ p a5 ∧ p a6 ∧ p a7 :=
  ⟨h _ (by simp), h _ (by simp), h _ (by simp), h _ (by simp), h _ (by simp), h _ (by simp), h _ (by simp), h _ (by simp)⟩
theorem ofB_lt {l : List Nat} (hl : l.length = 8) (B M : Nat) (h : ∀ b ∈ l, b ≤ B) (hM : B * 72340172838076673 < M) : ofB l < M := by
  match l, hl with
  | [a0, a1, a2, a3, a4, a5, a6, a7], _ =>
    obtain ⟨h0, h1, h2, h3, h4, h5, h6, h7⟩ := all8 h
    exact sum8_lt a0 a1 a2 a3 a4 a5 a6 a7 B M h0 h1 h2 h3 h4 h5 h6 h7 hM
theorem ofB_end {l : List Nat} (hl : l.length = 8) (h : ∀ b ∈ l, b ≤ 8) : (let u := ofB l; let a := u + u >>> 8; let b := a + a >>> 16; let c := b + b >>> 32; c % 128) = l.sum := by
  match l, hl with
  | [a0, a1, a2, a3, a4, a5, a6, a7], _ =>
    obtain ⟨h0, h1, h2, h3, h4, h5, h6, h7⟩ := all8 h
    exact swar_end a0 a1 a2 a3 a4 a5 a6 a7 h0 h1 h2 h3 h4 h5 h6 h7
/-- the library's sum -/
theorem swar (m : Nat) (h : m < 18446744073709551616) : ∃ y z u : Nat,
    ((m >>> 1) &&& 6148914691236517205) + (m &&& 6148914691236517205) = y ∧ y < 18446744073709551616 ∧
    ((y >>> 2) &&& 3689348814741910323) + (y &&& 3689348814741910323) = z ∧ z < 4919131752989213765 ∧
    ((z >>> 4) + z) &&& 1085102592571150095 = u ∧ u < 578721382704613385 ∧
    (let a := u + u >>> 8; let b := a + a >>> 16; let c := b + b >>> 32; c % 128 = popc m) := by
  have hm := ofB_bs m h
  have hl := bs_lt m
  have e1 := step1 (bs m) hl
  have hl1 : ∀ b ∈ (bs m).map f1, b < 256 := by
    intro b hb
    obtain ⟨x, hx, rfl⟩ := List.mem_map.1 hb
    exact (b3 ⟨x, hl x hx⟩).1
  have e2 := step2 ((bs m).map f1) hl1
  have hl2 : ∀ b ∈ ((bs m).map f1).map f2, b % 16 ≤ 4 ∧ b / 16 ≤ 4 := by
    intro b hb
    obtain ⟨x, hx, rfl⟩ := List.mem_map.1 hb
    obtain ⟨y, hy, rfl⟩ := List.mem_map.1 hx
    exact ⟨(b3 ⟨y, hl y hy⟩).2.2.1, (b3 ⟨y, hl y hy⟩).2.2.2.1⟩
  have e3 := step3 _ hl2
  have e4 : (((bs m).map f1).map f2).map f3 = (bs m).map pb := by
    rw [List.map_map, List.map_map]
    apply List.map_congr_left
    intro x hx
    exact (b3 ⟨x, hl x hx⟩).2.2.2.2
  rw [e4] at e3
  have e5 := cnt_ofB (bs m) hl
  have hp : ∀ b ∈ (bs m).map pb, b ≤ 8 := by
    intro b hb
    obtain ⟨x, _, rfl⟩ := List.mem_map.1 hb
    exact pb_le x
  rw [hm] at e1 e5
  simp only [List.length_map] at e2 e3
  have r85 : rep 85 (bs m).length = 6148914691236517205 := rfl
  have r51 : rep 51 (bs m).length = 3689348814741910323 := rfl
  have r15 : rep 15 (bs m).length = 1085102592571150095 := rfl
  rw [r85] at e1
  rw [r51] at e2
  rw [r15] at e3
  refine ⟨ofB ((bs m).map f1), ofB (((bs m).map f1).map f2), ofB ((bs m).map pb), ?_, ?_, ?_, ?_, ?_, ?_, ?_⟩
  · rw [Nat.shiftRight_eq_div_pow]; exact e1
  · exact ofB_lt (by simp [bs]) 255 _ (fun b hb => by have := hl1 b hb; omega) (by decide)
  · rw [Nat.shiftRight_eq_div_pow]; exact e2
  · exact ofB_lt (by simp [bs]) 68 _ (fun b hb => by have := hl2 b hb; omega) (by decide)
  · rw [Nat.shiftRight_eq_div_pow]; exact e3
  · exact ofB_lt (by simp [bs]) 8 _ hp (by decide)
  · exact (ofB_end (by simp [bs]) hp).trans e5.symm
theorem popc_le (m : Nat) : popc m ≤ 64 := cnt_le _ 64
theorem popc_zero : popc 0 = 0 := cnt_false (fun i _ => by simp)
end Go.Proofs.YtbahhdeblppooaaDoor

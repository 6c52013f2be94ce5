/-
  PLAIN: the number of 1 bits of a word; the folds of math/bits.OnesCount64.
-/
import Derived.Test.Qxb6614810aWrD
namespace Go.Proofs.Qxb6614810a
open Go.RowKit

/-! ### The number of 1 bits -/
def popA : Nat → Nat → Nat
  | 0, _ => 0
  | k + 1, x => x % 2 + popA k (x / 2)
def pop (x : Nat) : Nat := popA 64 x

theorem popA_le : ∀ k x, popA k x ≤ k
  | 0, _ => by simp [popA]
  | k + 1, x => by have := popA_le k (x / 2); simp only [popA]; omega
theorem pop_le (x : Nat) : pop x ≤ 64 := popA_le 64 x

theorem half_and (a b : Nat) : (a &&& b) / 2 = a / 2 &&& b / 2 := by have := Nat.and_div_two_pow (a := a) (b := b) (n := 1); simpa using this
theorem low_and (a b : Nat) : (a &&& b) % 2 = (a % 2) &&& (b % 2) := by have := Nat.and_mod_two_pow (a := a) (b := b) (n := 1); simpa using this

theorem popA_clear : ∀ k x, 0 < x → x < 2 ^ k → popA k (x &&& (x - 1)) + 1 = popA k x
  | 0, x, h0, h => by simp at h; omega
  | k + 1, x, h0, h => by
    simp only [popA]
    rw [half_and, low_and]
    rcases Nat.mod_two_eq_zero_or_one x with e | e
    · have h1 : (x - 1) / 2 = x / 2 - 1 := by omega
      have h2 := popA_clear k (x / 2) (by omega) (by rw [Nat.pow_succ] at h; omega)
      rw [h1, e]
      simp only [Nat.zero_and]
      omega
    · have h1 : (x - 1) / 2 = x / 2 := by omega
      have h2 : (x - 1) % 2 = 0 := by omega
      rw [h1, h2, e, Nat.and_self]
      simp
      omega
theorem pop_zero : pop 0 = 0 := by decide
theorem pop_clear (x : Nat) (h0 : 0 < x) (h : x < 18446744073709551616) : pop (x &&& (x - 1)) + 1 = pop x := popA_clear 64 x h0 h

def rep : Nat → Nat → Nat
  | 0, _ => 0
  | k + 1, c => 256 * rep k c + c
def ofB : List Nat → Nat
  | [] => 0
  | c :: cs => 256 * ofB cs + c

theorem and_byte (a b c d : Nat) (hb : b < 256) (hd : d < 256) : (256 * a + b) &&& (256 * c + d) = 256 * (a &&& c) + (b &&& d) := by
  have h1 := Nat.and_div_two_pow (a := 256 * a + b) (b := 256 * c + d) (n := 8)
  have h2 := Nat.and_mod_two_pow (a := 256 * a + b) (b := 256 * c + d) (n := 8)
  have e1 : (256 * a + b) / 2 ^ 8 = a := by omega
  have e2 : (256 * c + d) / 2 ^ 8 = c := by omega
  have e3 : (256 * a + b) % 2 ^ 8 = b := by omega
  have e4 : (256 * c + d) % 2 ^ 8 = d := by omega
  rw [e1, e2] at h1
  rw [e3, e4] at h2
  omega

theorem byte1 : ∀ c : Fin 256, ∀ b : Fin 2, (128 * b.val + c.val / 2) &&& 85 = (c.val / 2) &&& 85 := by decide +kernel
theorem byte2 : ∀ c : Fin 256, ∀ b : Fin 4, (64 * b.val + c.val / 4) &&& 51 = (c.val / 4) &&& 51 := by decide +kernel
theorem st1 (y c k : Nat) (hc : c < 256) : ((256 * y + c) / 2 &&& rep (k + 1) 85) + ((256 * y + c) &&& rep (k + 1) 85) = 256 * ((y / 2 &&& rep k 85) + (y &&& rep k 85)) + ((c / 2 &&& 85) + (c &&& 85)) := by
  have e : (256 * y + c) / 2 = 256 * (y / 2) + (128 * (y % 2) + c / 2) := by omega
  have e2 := byte1 ⟨c, hc⟩ ⟨y % 2, by omega⟩
  simp only at e2
  rw [e, rep, and_byte _ _ _ _ (by omega) (by omega), and_byte _ _ _ _ hc (by omega), e2]
  omega
theorem st2 (y c k : Nat) (hc : c < 256) : ((256 * y + c) / 4 &&& rep (k + 1) 51) + ((256 * y + c) &&& rep (k + 1) 51) = 256 * ((y / 4 &&& rep k 51) + (y &&& rep k 51)) + ((c / 4 &&& 51) + (c &&& 51)) := by
  have e : (256 * y + c) / 4 = 256 * (y / 4) + (64 * (y % 4) + c / 4) := by omega
  have e2 := byte2 ⟨c, hc⟩ ⟨y % 4, by omega⟩
  simp only at e2
  rw [e, rep, and_byte _ _ _ _ (by omega) (by omega), and_byte _ _ _ _ hc (by omega), e2]
  omega
theorem and15 (n : Nat) : n &&& 15 = n % 16 := Nat.and_two_pow_sub_one_eq_mod n 4
theorem st3 (y c k : Nat) (hc : c ≤ 68) (hy : y % 16 ≤ 4) : ((256 * y + c) / 16 + (256 * y + c)) &&& rep (k + 1) 15 = 256 * ((y / 16 + y) &&& rep k 15) + (c / 16 + c) % 16 := by
  have e : (256 * y + c) / 16 + (256 * y + c) = 256 * (y / 16 + y) + (16 * (y % 16) + c / 16 + c) := by omega
  rw [e, rep, and_byte _ _ _ _ (by omega) (by omega), and15]
  omega

def g1 (c : Nat) : Nat := (c / 2 &&& 85) + (c &&& 85)
def g2 (c : Nat) : Nat := (c / 4 &&& 51) + (c &&& 51)
def g3 (c : Nat) : Nat := (c / 16 + c) % 16
theorem g_all : ∀ c : Fin 256, g1 c.val < 256 ∧ g2 (g1 c.val) ≤ 68 ∧ g2 (g1 c.val) % 16 ≤ 4 ∧ g3 (g2 (g1 c.val)) = popA 8 c.val := by decide +kernel
theorem popA_byte (k y c : Nat) (hc : c < 256) : popA (k + 8) (256 * y + c) = popA k y + popA 8 c := by
  simp only [popA]
  have e : (256 * y + c) / 2 / 2 / 2 / 2 / 2 / 2 / 2 / 2 = y := by omega
  rw [e]
  omega

theorem s1 : ∀ cs : List Nat, (∀ c ∈ cs, c < 256) → (ofB cs / 2 &&& rep cs.length 85) + (ofB cs &&& rep cs.length 85) = ofB (cs.map g1)
  | [], _ => by simp [ofB, rep]
  | c :: cs, h => by
    have ih := s1 cs (fun x hx => h x (by simp [hx]))
    simp only [List.length_cons, ofB, List.map_cons]
    rw [st1 _ _ _ (h c (by simp)), ih]
    rfl
theorem s2 : ∀ cs : List Nat, (∀ c ∈ cs, c < 256) → (ofB cs / 4 &&& rep cs.length 51) + (ofB cs &&& rep cs.length 51) = ofB (cs.map g2)
  | [], _ => by simp [ofB, rep]
  | c :: cs, h => by
    have ih := s2 cs (fun x hx => h x (by simp [hx]))
    simp only [List.length_cons, ofB, List.map_cons]
    rw [st2 _ _ _ (h c (by simp)), ih]
    rfl
theorem ofB_low {cs : List Nat} (h : ∀ c ∈ cs, c % 16 ≤ 4) : ofB cs % 16 ≤ 4 := by
  cases cs with
  | nil => simp [ofB]
  | cons c cs => have := h c (by simp); simp only [ofB]; omega
theorem s3 : ∀ cs : List Nat, (∀ c ∈ cs, c ≤ 68 ∧ c % 16 ≤ 4) → (ofB cs / 16 + ofB cs) &&& rep cs.length 15 = ofB (cs.map g3)
  | [], _ => by simp [ofB, rep]
  | c :: cs, h => by
    have ih := s3 cs (fun x hx => h x (by simp [hx]))
    simp only [List.length_cons, ofB, List.map_cons]
    rw [st3 _ _ _ (h c (by simp)).1 (ofB_low fun x hx => (h x (by simp [hx])).2), ih]
    rfl

theorem bytes8 (x : Nat) (hx : x < 18446744073709551616) : ∃ cs : List Nat, cs.length = 8 ∧ (∀ c ∈ cs, c < 256) ∧ x = ofB cs := by
  refine ⟨[x % 256, x / 256 % 256, x / 65536 % 256, x / 16777216 % 256, x / 4294967296 % 256, x / 1099511627776 % 256, x / 281474976710656 % 256, x / 72057594037927936 % 256], rfl, ?_, ?_⟩
  · intro c hc
    simp only [List.mem_cons, List.not_mem_nil, or_false] at hc
    rcases hc with rfl | rfl | rfl | rfl | rfl | rfl | rfl | rfl <;> omega
  · simp only [ofB]; omega

/-- The three folds of OnesCount64 lay the count of each byte into that byte. -/
theorem folds (x : Nat) (hx : x < 18446744073709551616) : ∃ x1 x2 x3 p0 p1 p2 p3 p4 p5 p6 p7 : Nat,
    (x / 2 &&& 6148914691236517205) + (x &&& 6148914691236517205) = x1 ∧ x1 < 18446744073709551616 ∧
    (x1 / 4 &&& 3689348814741910323) + (x1 &&& 3689348814741910323) = x2 ∧ x2 < 18446744073709551616 ∧ x2 / 16 + x2 < 18446744073709551616 ∧
    (x2 / 16 + x2) &&& 1085102592571150095 = x3 ∧ x3 = p0 + 256 * p1 + 65536 * p2 + 16777216 * p3 + 4294967296 * p4 + 1099511627776 * p5 + 281474976710656 * p6 + 72057594037927936 * p7 ∧
    p0 ≤ 8 ∧ p1 ≤ 8 ∧ p2 ≤ 8 ∧ p3 ≤ 8 ∧ p4 ≤ 8 ∧ p5 ≤ 8 ∧ p6 ≤ 8 ∧ p7 ≤ 8 ∧ pop x = p0 + p1 + p2 + p3 + p4 + p5 + p6 + p7 := by
  obtain ⟨cs, hl, hc, rfl⟩ := bytes8 x hx
  have h1 := s1 cs hc
  have hc1 : ∀ c ∈ cs.map g1, c < 256 := by
    intro c h; obtain ⟨d, hd, rfl⟩ := List.mem_map.1 h; exact (g_all ⟨d, hc d hd⟩).1
  have h2 := s2 (cs.map g1) hc1
  have hc2 : ∀ c ∈ (cs.map g1).map g2, c ≤ 68 ∧ c % 16 ≤ 4 := by
    intro c h
    rw [List.map_map] at h
    obtain ⟨d, hd, rfl⟩ := List.mem_map.1 h
    exact ⟨(g_all ⟨d, hc d hd⟩).2.1, (g_all ⟨d, hc d hd⟩).2.2.1⟩
  have h3 := s3 ((cs.map g1).map g2) hc2
  simp only [List.length_map, hl] at h1 h2 h3
  have r1 : rep 8 85 = 6148914691236517205 := by decide
  have r2 : rep 8 51 = 3689348814741910323 := by decide
  have r3 : rep 8 15 = 1085102592571150095 := by decide
  rw [r1] at h1
  rw [r2] at h2
  rw [r3] at h3
  match cs, hl with
  | [c0, c1, c2, c3, c4, c5, c6, c7], _ =>
    simp only [List.mem_cons, List.not_mem_nil, or_false, forall_eq_or_imp, forall_eq] at hc
    simp only [List.map_cons, List.map_nil, List.mem_cons, List.not_mem_nil, or_false, forall_eq_or_imp, forall_eq] at hc1 hc2 h1 h2 h3
    obtain ⟨k0, k1, k2, k3, k4, k5, k6, k7⟩ := hc
    have q0 := (g_all ⟨c0, k0⟩).2.2.2
    have q1 := (g_all ⟨c1, k1⟩).2.2.2
    have q2 := (g_all ⟨c2, k2⟩).2.2.2
    have q3 := (g_all ⟨c3, k3⟩).2.2.2
    have q4 := (g_all ⟨c4, k4⟩).2.2.2
    have q5 := (g_all ⟨c5, k5⟩).2.2.2
    have q6 := (g_all ⟨c6, k6⟩).2.2.2
    have q7 := (g_all ⟨c7, k7⟩).2.2.2
    simp only at q0 q1 q2 q3 q4 q5 q6 q7
    refine ⟨_, _, _, popA 8 c0, popA 8 c1, popA 8 c2, popA 8 c3, popA 8 c4, popA 8 c5, popA 8 c6, popA 8 c7, h1, ?_, h2, ?_, ?_, h3, ?_, popA_le 8 _, popA_le 8 _, popA_le 8 _, popA_le 8 _, popA_le 8 _, popA_le 8 _, popA_le 8 _, popA_le 8 _, ?_⟩
    · clear h1 h2 h3 hc2
      simp only [ofB]
      generalize g1 c0 = a0 at *; generalize g1 c1 = a1 at *; generalize g1 c2 = a2 at *; generalize g1 c3 = a3 at *; generalize g1 c4 = a4 at *; generalize g1 c5 = a5 at *; generalize g1 c6 = a6 at *; generalize g1 c7 = a7 at *
      omega
    · clear h1 h2 h3 hc1
      simp only [ofB]
      generalize g2 (g1 c0) = a0 at *; generalize g2 (g1 c1) = a1 at *; generalize g2 (g1 c2) = a2 at *; generalize g2 (g1 c3) = a3 at *; generalize g2 (g1 c4) = a4 at *; generalize g2 (g1 c5) = a5 at *; generalize g2 (g1 c6) = a6 at *; generalize g2 (g1 c7) = a7 at *
      omega
    · clear h1 h2 h3 hc1
      simp only [ofB]
      generalize g2 (g1 c0) = a0 at *; generalize g2 (g1 c1) = a1 at *; generalize g2 (g1 c2) = a2 at *; generalize g2 (g1 c3) = a3 at *; generalize g2 (g1 c4) = a4 at *; generalize g2 (g1 c5) = a5 at *; generalize g2 (g1 c6) = a6 at *; generalize g2 (g1 c7) = a7 at *
      omega
    · simp only [ofB, q0, q1, q2, q3, q4, q5, q6, q7]
      omega
    · simp only [ofB, pop]
      rw [popA_byte 56 _ _ k0, popA_byte 48 _ _ k1, popA_byte 40 _ _ k2, popA_byte 32 _ _ k3, popA_byte 24 _ _ k4, popA_byte 16 _ _ k5, popA_byte 8 _ _ k6]
      simp only [Nat.mul_zero, Nat.zero_add]
      omega

theorem folded {x3 p0 p1 p2 p3 p4 p5 p6 p7 : Nat} (h : x3 = p0 + 256 * p1 + 65536 * p2 + 16777216 * p3 + 4294967296 * p4 + 1099511627776 * p5 + 281474976710656 * p6 + 72057594037927936 * p7)
    (h0 : p0 ≤ 8) (h1 : p1 ≤ 8) (h2 : p2 ≤ 8) (h3 : p3 ≤ 8) (h4 : p4 ≤ 8) (h5 : p5 ≤ 8) (h6 : p6 ≤ 8) (h7 : p7 ≤ 8) :
    ∃ x4 x5 x6, x4 = x3 + x3 / 256 ∧ x4 < 18446744073709551616 ∧ x5 = x4 + x4 / 65536 ∧ x5 < 18446744073709551616 ∧ x6 = x5 + x5 / 4294967296 ∧ x6 < 9223372036854775808 ∧ x6 % 128 = p0 + p1 + p2 + p3 + p4 + p5 + p6 + p7 := by
  have d4 : x3 / 256 = p1 + 256 * p2 + 65536 * p3 + 16777216 * p4 + 4294967296 * p5 + 1099511627776 * p6 + 281474976710656 * p7 := by
    rw [h]
    have := Nat.add_mul_div_left p0 (p1 + 256 * p2 + 65536 * p3 + 16777216 * p4 + 4294967296 * p5 + 1099511627776 * p6 + 281474976710656 * p7) (y := 256) (by decide)
    have e : p0 / 256 = 0 := Nat.div_eq_of_lt (by omega)
    rw [e, Nat.zero_add] at this
    rw [← this]
    congr 1
    clear this e h
    omega
  obtain ⟨x4, e4⟩ : ∃ x4, x4 = x3 + x3 / 256 := ⟨_, rfl⟩
  have f4 : x4 = (p0 + p1 + 256 * (p1 + p2)) + 65536 * ((p2 + p3) + 256 * (p3 + p4) + 65536 * (p4 + p5) + 16777216 * (p5 + p6) + 4294967296 * (p6 + p7) + 1099511627776 * p7) := by rw [e4, d4, h]; clear d4 e4 h; omega
  have d5 : x4 / 65536 = (p2 + p3) + 256 * (p3 + p4) + 65536 * (p4 + p5) + 16777216 * (p5 + p6) + 4294967296 * (p6 + p7) + 1099511627776 * p7 := by
    rw [f4, Nat.add_mul_div_left _ _ (by decide), Nat.div_eq_of_lt (by clear f4 d4 e4 h; omega), Nat.zero_add]
  obtain ⟨x5, e5⟩ : ∃ x5, x5 = x4 + x4 / 65536 := ⟨_, rfl⟩
  have f5 : x5 = (p0 + p1 + p2 + p3 + 256 * (p1 + p2 + p3 + p4) + 65536 * (p2 + p3 + p4 + p5) + 16777216 * (p3 + p4 + p5 + p6)) + 4294967296 * ((p4 + p5 + p6 + p7) + 256 * (p5 + p6 + p7) + 65536 * (p6 + p7) + 16777216 * p7) := by rw [e5, d5, f4]; clear d4 e4 h d5 f4 e5; omega
  have d6 : x5 / 4294967296 = (p4 + p5 + p6 + p7) + 256 * (p5 + p6 + p7) + 65536 * (p6 + p7) + 16777216 * p7 := by
    rw [f5, Nat.add_mul_div_left _ _ (by decide), Nat.div_eq_of_lt (by clear f4 d4 e4 h d5 e5 f5; omega), Nat.zero_add]
  obtain ⟨x6, e6⟩ : ∃ x6, x6 = x5 + x5 / 4294967296 := ⟨_, rfl⟩
  have f6 : x6 = (p0 + p1 + p2 + p3 + p4 + p5 + p6 + p7) + 128 * (2 * (p1 + p2 + p3 + p4 + p5 + p6 + p7) + 512 * (p2 + p3 + p4 + p5 + p6 + p7) + 131072 * (p3 + p4 + p5 + p6 + p7) + 33554432 * (p4 + p5 + p6 + p7) + 8589934592 * (p5 + p6 + p7) + 2199023255552 * (p6 + p7) + 562949953421312 * p7) := by rw [e6, d6, f5]; clear d4 e4 h d5 f4 e5 f5 d6 e6; omega
  refine ⟨x4, x5, x6, e4, by rw [f4]; clear d4 e4 h d5 f4 e5 f5 d6 e6 f6; omega, e5, by rw [f5]; clear d4 e4 h d5 f4 e5 f5 d6 e6 f6; omega, e6, by rw [f6]; clear d4 e4 h d5 f4 e5 f5 d6 e6 f6; omega, ?_⟩
  rw [f6, Nat.add_mul_mod_self_left]
  exact Nat.mod_eq_of_lt (by clear d4 e4 h d5 f4 e5 f5 d6 e6 f6; omega)
end Go.Proofs.Qxb6614810a

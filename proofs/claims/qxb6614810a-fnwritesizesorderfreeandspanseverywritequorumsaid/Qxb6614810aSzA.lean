/-
  WALKS: OnesCount64, zzOnes, zzMin, zzMax, sparseSet.count, wordsBefore, wordsEnd.
-/
import Derived.Test.Qxb6614810aSzPop
import Derived.Laws.Bits64b
namespace Go.Proofs.Qxb6614810a
open Go.RowKit
theorem wrapN {a : Int} {b : Nat} (h : a = (b : Int)) (hb : b < 18446744073709551616) : IntKind.u64.wrap a = (b : Int) := by
  rw [IntKind.wrap_u64]; omega
theorem i64N {a : Nat} (h : a < 9223372036854775808) : IntKind.i64.wrap (a : Int) = (a : Int) := by rw [IntKind.wrap_i64]; omega
theorem and_i64 (a b : Nat) (ha : a < 9223372036854775808) (hb : b < 9223372036854775808) : bits .and .i64 (a : Int) (b : Int) = ((a &&& b : Nat) : Int) := by
  have hx : a &&& b < 2 ^ 63 := Nat.and_lt_two_pow _ (by omega)
  have h1 : (BitVec.ofInt 64 (a : Int)).toNat = a := by
    rw [BitVec.ofInt_natCast, BitVec.toNat_ofNat]; exact Nat.mod_eq_of_lt (by omega)
  have h2 : (BitVec.ofInt 64 (b : Int)).toNat = b := by
    rw [BitVec.ofInt_natCast, BitVec.toNat_ofNat]; exact Nat.mod_eq_of_lt (by omega)
  show IntKind.i64.wrap ((BitVec.ofInt 64 (a : Int) &&& BitVec.ofInt 64 (b : Int)).toNat : Int) = _
  rw [BitVec.toNat_and, h1, h2]
  rw [IntKind.wrap_i64]; omega
set_option maxRecDepth 100000 in
theorem ones64_any (x : Nat) (hx : x < 18446744073709551616) (w : World) :
    Calls Try.prog 39 #[.int .u64 x] w fun e w' => e = .returned (.int .i64 (pop x : Int)) ∧ w = w' := by
  obtain ⟨x1, x2, x3, p0, p1, p2, p3, p4, p5, p6, p7, h1, l1, h2, l2, l2', h3, h3', k0, k1, k2, k3, k4, k5, k6, k7, hp⟩ := folds x hx
  obtain ⟨x4, x5, x6, h4, l4, h5, l5, h6, l6, h7⟩ := folded h3' k0 k1 k2 k3 k4 k5 k6 k7
  rw [← hp] at h7
  have E1 : IntKind.u64.wrap (bits BinOp.and IntKind.u64 ((x : Int) / 2) 6148914691236517205 + bits BinOp.and IntKind.u64 (x : Int) 6148914691236517205) = (x1 : Int) := by
    refine wrapN ?_ l1
    have a1 := bits_and_u64_nat (x / 2) 6148914691236517205 (Nat.lt_of_le_of_lt (Nat.div_le_self _ _) hx) (by decide)
    have a2 := bits_and_u64_nat x 6148914691236517205 hx (by decide)
    have e : ((x / 2 : Nat) : Int) = (x : Int) / 2 := by simp
    rw [e] at a1
    rw [← h1]
    refine Eq.trans (congr (congrArg _ a1) a2) (by simp)
  have E2 : IntKind.u64.wrap (bits BinOp.and IntKind.u64 ((x1 : Int) / 4) 3689348814741910323 + bits BinOp.and IntKind.u64 (x1 : Int) 3689348814741910323) = (x2 : Int) := by
    refine wrapN ?_ l2
    have a1 := bits_and_u64_nat (x1 / 4) 3689348814741910323 (Nat.lt_of_le_of_lt (Nat.div_le_self _ _) l1) (by decide)
    have a2 := bits_and_u64_nat x1 3689348814741910323 l1 (by decide)
    have e : ((x1 / 4 : Nat) : Int) = (x1 : Int) / 4 := by simp
    rw [e] at a1
    rw [← h2]
    refine Eq.trans (congr (congrArg _ a1) a2) (by simp)
  have E3 : bits BinOp.and IntKind.u64 (IntKind.u64.wrap ((x2 : Int) / 16 + (x2 : Int))) 1085102592571150095 = (x3 : Int) := by
    rw [wrapN (b := x2 / 16 + x2) (by simp) l2', ← h3]
    exact bits_and_u64_nat _ 1085102592571150095 l2' (by decide)
  have E4 : IntKind.u64.wrap ((x3 : Int) + (x3 : Int) / 256) = (x4 : Int) := wrapN (by rw [h4]; simp) l4
  have E5 : IntKind.u64.wrap ((x4 : Int) + (x4 : Int) / 65536) = (x5 : Int) := wrapN (by rw [h5]; simp) l5
  have E6 : IntKind.u64.wrap ((x5 : Int) + (x5 : Int) / 4294967296) = (x6 : Int) := wrapN (by rw [h6]; simp) (Nat.lt_trans l6 (by decide))
  have E7 : IntKind.i64.wrap (x6 : Int) = (x6 : Int) := i64N l6
  have E8 : bits BinOp.and IntKind.i64 (x6 : Int) 127 = (pop x : Int) := by
    have := and_i64 x6 127 l6 (by decide)
    rw [← h7]
    refine Eq.trans this ?_
    rw [Nat.and_two_pow_sub_one_eq_mod x6 7]
  clear h1 h2 h3 h3' h4 h5 h6 h7 k0 k1 k2 k3 k4 k5 k6 k7 l1 l2 l2' l4 l5 l6 hp hx
  go_enter Try.func39, Try.ntmps39
  go_wp2
  go_ret
  exact ⟨rfl, rfl⟩

theorem end_any (x : Nat) (hx : x < 18446744073709551616) (w : World) :
    Calls Try.prog 41 #[.int .u64 x] w fun e w' => e = .returned (.int .i64 ((x / 4294967296 : Nat) : Int)) ∧ w = w' := by
  go_enter Try.func41, Try.ntmps41
  go_wp2
  go_ret
  exact ⟨ret_int (by simp), rfl⟩
theorem zones_any (x : Nat) (hx : x < 18446744073709551616) (w : World) :
    Calls Try.prog 22 #[.int .u64 x] w fun e w' => e = .returned (.int .i64 (pop x : Int)) ∧ w = w' := by
  go_enter Try.func22, Try.ntmps22
  go_wp2
  go_loop [0, 3] (fun v n => ∃ (y k : Nat), v = .int .u64 y ∧ n = .int .i64 k ∧ y < 18446744073709551616 ∧ k + pop y = pop x) (fun _ n => 64 - (intOf n).toNat)
  case atStart => exact ⟨x, 0, rfl, rfl, hx, by omega⟩
  case round =>
    obtain ⟨y, k, rfl, rfl, hy, hk⟩ := hrel
    have hp := pop_le x
    by_cases h0 : y = 0
    · subst h0
      go_wp2
      go_ret
      rw [pop_zero] at hk
      exact ⟨ret_int (by omega), rfl⟩
    · have hc := pop_clear y (by omega) hy
      have hb : ((y : Int) != 0) = true := by simp; omega
      have hw : IntKind.u64.wrap ((y : Int) - 1) = ((y - 1 : Nat) : Int) := wrapN (by omega) (by omega)
      have ha : bits BinOp.and IntKind.u64 (y : Int) ((y - 1 : Nat) : Int) = ((y &&& (y - 1) : Nat) : Int) := bits_and_u64_nat _ _ hy (by omega)
      have hl : y &&& (y - 1) < 18446744073709551616 := Nat.lt_of_le_of_lt Nat.and_le_left hy
      go_wp2
      exact ⟨⟨y &&& (y - 1), k + 1, rfl, by simp, hl, by omega⟩, by simp [intOf]; omega⟩
theorem zmin_any (a b : Int) (w : World) :
    Calls Try.prog 23 #[.int .i64 a, .int .i64 b] w fun e w' => e = .returned (.int .i64 (if a < b then a else b)) ∧ w = w' := by
  by_cases h : a < b
  · rw [if_pos h]
    go_enter Try.func23, Try.ntmps23
    go_wp2
    go_ret
    exact ⟨rfl, rfl⟩
  · rw [if_neg h]
    go_enter Try.func23, Try.ntmps23
    go_wp2
    go_ret
    exact ⟨rfl, rfl⟩
theorem zmax_any (a b : Int) (w : World) :
    Calls Try.prog 24 #[.int .i64 a, .int .i64 b] w fun e w' => e = .returned (.int .i64 (if b < a then a else b)) ∧ w = w' := by
  by_cases h : b < a
  · rw [if_pos h]
    go_enter Try.func24, Try.ntmps24
    go_wp2
    go_ret
    exact ⟨rfl, rfl⟩
  · rw [if_neg h]
    go_enter Try.func24, Try.ntmps24
    go_wp2
    go_ret
    exact ⟨rfl, rfl⟩

/-- The 1 bits of the first k of the words x. -/
def popS (x : Nat → Nat) : Nat → Nat
  | 0 => 0
  | k + 1 => popS x k + pop (x k)
theorem popS_le (x : Nat → Nat) : ∀ k, popS x k ≤ 64 * k
  | 0 => by simp [popS]
  | k + 1 => by have := popS_le x k; have := pop_le (x k); simp only [popS]; omega
theorem popS_congr {x y : Nat → Nat} : ∀ k, (∀ i, i < k → x i = y i) → popS x k = popS y k
  | 0, _ => rfl
  | k + 1, h => by simp only [popS]; rw [popS_congr k (fun i hi => h i (by omega)), h k (by omega)]

/-- sparseSet.count: the 1 bits of its words. -/
theorem count_any (ar aw : Option Addr) (r cr n c : Nat) (x : Nat → Nat) (w : World) (hm : n ≤ 1048576) (hx : ∀ i, i < n → x i < 18446744073709551616) (hr : RowAt w aw n fun i => .int .u64 (x i : Int)) :
    Calls Try.prog 35 #[.agg #[.slice ar r cr, .slice aw n c]] w fun e w' => e = .returned (.int .i64 (popS x n : Int)) ∧ w' = w.alloc (.cells #[.slice ar r cr, .slice aw n c] 83) := by
  have hpop := popS_le x n
  go_enter Try.func35, Try.ntmps35
  go_wp2
  have hr1 : RowAt (w.alloc (.cells #[.slice ar r cr, .slice aw n c] 83)) aw n fun i => .int .u64 (x i : Int) := hr.below (Nat.le_refl _) ((Below.refl _ w).alloc (Nat.le_refl _) _)
  obtain ⟨w1, hw1⟩ : ∃ w1, w.alloc (.cells #[.slice ar r cr, .slice aw n c] 83) = w1 := ⟨_, rfl⟩
  rw [hw1] at hr1 ⊢
  go_loop [3, 9] (fun s i => ∃ k : Nat, k ≤ n ∧ i = .int .i64 k ∧ s = .int .i64 (popS x k : Int)) (fun _ i => n - (intOf i).toNat)
  case atStart => exact ⟨0, Nat.zero_le _, rfl, rfl⟩
  case round =>
    obtain ⟨k, hk, rfl, rfl⟩ := hrel
    have hps := popS_le x k
    have hp1 := pop_le (x k)
    by_cases hlt : k < n
    · obtain ⟨b, o, rfl, hb, hc⟩ := hr1.pos (by omega)
      have hck := hc k hlt
      have hsum : IntKind.i64.wrap ((popS x k : Int) + (pop (x k) : Int)) = (popS x (k + 1) : Int) := by
        rw [IntKind.wrap_i64]; simp only [popS]; omega
      go_wp2_with (go_at_call 39; refine (ones64_any (x k) (hx k hlt) w1).mono ?_; rintro e w' ⟨rfl, rfl⟩)
      exact ⟨⟨k + 1, by omega, by simp, rfl⟩, by simp [intOf]; omega⟩
    · obtain rfl : k = n := by omega
      go_wp2
      go_ret
      exact ⟨rfl, rfl⟩

/-- Where the words of the runs of one set end. -/
def sizeOf' (x : Nat → Nat) (r : Nat) : Nat := if r = 0 then 0 else x (r - 1) / 4294967296
theorem before_any (ar : Option Addr) (r c : Nat) (x : Nat → Nat) (w : World) (hm : r ≤ 1048576) (hx : ∀ i, i < r → x i < 18446744073709551616) (hr : RowAt w ar r fun i => .int .u64 (x i : Int)) :
    Calls Try.prog 40 #[.slice ar r c, .int .i64 r] w fun e w' => e = .returned (.int .i64 (sizeOf' x r : Int)) ∧ w = w' := by
  by_cases h0 : r = 0
  · subst h0
    go_enter Try.func40, Try.ntmps40
    go_wp2
    go_ret
    exact ⟨rfl, rfl⟩
  · obtain ⟨b, o, rfl, hb, hc⟩ := hr.pos (by omega)
    have hck := hc (r - 1) (by omega)
    have hne : ((r : Int) == 0) = false := by simp; omega
    have e1 : IntKind.i64.wrap ((r : Int) - 1) = ((r - 1 : Nat) : Int) := by rw [IntKind.wrap_i64]; omega
    have e2 : sizeOf' x r = x (r - 1) / 4294967296 := by rw [sizeOf', if_neg h0]
    rw [e2]
    go_enter Try.func40, Try.ntmps40
    go_wp2_with (go_at_call 41; refine (end_any (x (r - 1)) (hx (r - 1) (by omega)) w).mono ?_; rintro e w' ⟨rfl, rfl⟩)
    go_ret
    exact ⟨rfl, rfl⟩
end Go.Proofs.Qxb6614810a

/-
  WALKS over the leaves of the laws on Lack.Slots: popcount, chunksValid, math/bits.TrailingZeros64.
-/
import Derived.Test.Qxb6614702aDoorProg
import Derived.Test.Qxb6614702aDoorPlain
import Derived.WalkKit
import Derived.WalkSpells
import Derived.WalkLawsBesides
import Derived.Deep.QuietTactic
import Derived.BigQuiet
namespace Go.Proofs.Qxb6614702aDoor
open Go.RowKit
set_option maxHeartbeats 400000 in
theorem popcount_any (x : Nat) (hx : x < 18446744073709551616) (w : World) :
    Calls Tryd.prog 15 #[.int .u64 x] w fun e w' => e = .returned (.int .i64 (pop x)) ∧ w' = w := by
  go_enter Tryd.func15, Tryd.ntmps15
  go_wp2
  go_loop [3, 4] (fun c i => ∃ k : Nat, k ≤ 64 ∧ i = .int .i64 k ∧ c = .int .i64 (popTo x k)) (fun _ i => 64 - (intOf i).toNat)
  case atStart => exact ⟨0, by omega, rfl, rfl⟩
  case round =>
    obtain ⟨k, hk, rfl, rfl⟩ := hrel
    have hp := popTo_le x k
    by_cases hlt : k < 64
    · go_wp2
      all_goals
        go_round
        case rel =>
          have hb := bit_test x k hx
          refine ⟨k + 1, by omega, by go_num, ?_⟩
          first
            | (have ht : (bits BinOp.and IntKind.u64 (↑x / 2 ^ k) 1 == 1) = true := by assumption
               rw [hb] at ht
               simp [popTo, ht])
            | (have ht : (bits BinOp.and IntKind.u64 (↑x / 2 ^ k) 1 == 1) = false := by assumption
               rw [hb] at ht
               simp [popTo, ht])
        case measure => simp [intOf]; omega
    · go_wp2
      go_ret
      have : k = 64 := by omega
      subst this
      exact ⟨rfl, rfl⟩

theorem ret_bool {a b : Bool} (h : a = b) : Ending.returned (.bool a) = .returned (.bool b) := by rw [h]
theorem ret_int {k : IntKind} {a b : Int} (h : a = b) : Ending.returned (.int k a) = .returned (.int k b) := by rw [h]

set_option maxHeartbeats 400000 in
theorem chunksValid_some (ba oa ca bb ob cb n : Nat) (A : Nat → Int) (B : Nat → Nat) (w : World) (hm : n ≤ 4096)
    (hA : ∀ i, i < n → w.cell? ⟨ba, oa + i, none⟩ = some (.int .i64 (A i))) 
    (hB : ∀ i, i < n → w.cell? ⟨bb, ob + i, none⟩ = some (.int .u64 (B i : Int))) :
    Calls Tryd.prog 16 #[.slice (some ⟨ba, oa, none⟩) n ca, .slice (some ⟨bb, ob, none⟩) n cb] w fun e w' => e = .returned (.bool (validB A B n)) ∧ ∃ q, w' = w.drewN q := by
  go_enter Tryd.func16, Tryd.ntmps16
  go_wp2
  go_loopw [5] (fun i wr => ∃ k : Nat, k ≤ n ∧ i = .int .i64 k ∧ (∀ i, i < k → okB A B i = true) ∧ ∃ q, wr = w.drewN q) (fun i _ => n - (intOf i).toNat)
  case atStart => exact ⟨0, by omega, rfl, fun _ h => by omega, 0, rfl⟩
  case round =>
    obtain ⟨k, hk, rfl, hok, q, rfl⟩ := hrel
    have HO : Hid (∀ i, i < k → okB A B i = true) := hok
    clear hok
    by_cases hlt : k < n
    · have hcA := hA k hlt
      have hcB := hB k hlt
      by_cases h1 : A k < 0
      · go_wp2
        go_ret
        exact ⟨ret_bool (validB_no hlt (by simp [okB]; omega)).symm, q, rfl⟩
      by_cases h2 : 16777216 ≤ A k
      · go_wp2
        go_ret
        exact ⟨ret_bool (validB_no hlt (by simp [okB]; omega)).symm, q, rfl⟩
      by_cases h3 : B k = 0
      · have hb0 : ((B k : Int) == 0) = true := by simp [h3]
        have H3 : Hid (B k = 0) := h3
        clear h3
        go_wp2
        go_ret
        exact ⟨ret_bool (validB_no hlt (by simp [okB, H3.out])).symm, q, rfl⟩
      have hb0 : ((B k : Int) == 0) = false := by simp; omega
      have hb1 : B k ≠ 0 := h3
      have HB1 : Hid (B k ≠ 0) := hb1
      clear hb1 h3
      by_cases h4 : k = 0
      · have hd : decide ((0 : Int) < (k : Int)) = false := by simp; omega
        have hd' : decide (0 < k) = false := by simp; omega
        have H4 : Hid (k = 0) := h4
        clear h4
        go_wp2
        go_quiet (fail)
        go_wp2
        go_roundw
        case rel => exact ⟨k + 1, by omega, by go_num, fun i hi => okB_iff.2 (by have := H4.out; obtain rfl : i = k := by omega
                                                                                 exact ⟨by omega, by omega, HB1.out, fun h => by omega⟩), _, rfl⟩
        case measure => simp [intOf]; omega
      · have hd' : decide (0 < k) = true := by simp; omega
        have hkp : 0 < k := by omega
        have hk0 : (0 : Int) < (k : Int) := by omega
        have hcA1 := hA (k - 1) (by omega)
        by_cases h5 : A k ≤ A (k - 1)
        · go_wp2
          go_quiet (fail)
          go_wp2
          go_ret
          exact ⟨ret_bool (validB_no hlt (by simp [okB]; omega)).symm, _, World.drewN_drewN _ _ _⟩
        · go_wp2
          go_quiet (fail)
          go_wp2
          go_roundw
          case rel => exact ⟨k + 1, by omega, by go_num, fun i hi => by
                        by_cases e : i < k
                        · exact HO.out i e
                        · obtain rfl : i = k := by omega
                          exact okB_iff.2 ⟨by omega, by omega, HB1.out, fun _ => by omega⟩, _, rfl⟩
          case measure => simp [intOf]; omega
    · go_wp2
      go_ret
      obtain rfl : k = n := by omega
      exact ⟨ret_bool (validB_iff.2 HO.out).symm, _, rfl⟩

set_option maxHeartbeats 400000 in
/-- No chunk: whatever the two slices' addresses. -/
theorem chunksValid_none (aa ab : Option Addr) (ca cb : Nat) (A : Nat → Int) (B : Nat → Nat) (w : World) :
    Calls Tryd.prog 16 #[.slice aa 0 ca, .slice ab 0 cb] w fun e w' => e = .returned (.bool (validB A B 0)) ∧ ∃ q, w' = w.drewN q := by
  go_enter Tryd.func16, Tryd.ntmps16
  go_wp2
  refine wp_loop_rounds 1 ?_
  rw [rounds_succ]
  go_wp2
  go_ret
  exact ⟨rfl, 0, rfl⟩

/-! ### math/bits.TrailingZeros64, its table in the variable 0 -/
def TabAt (w : World) : Prop := ∀ j, j < 64 → w.cell? ⟨0, j, none⟩ = some (.int .u8 (Lib.deBruijn64tab.getD j 0))

set_option maxHeartbeats 400000 in
theorem tz64_core (x k idx : Nat) (w : World) (hx0 : ((x : Int) == 0) = false)
    (key : IntKind.u64.wrap (bits BinOp.and IntKind.u64 (x : Int) (IntKind.u64.wrap (-(x : Int))) * 285870213051353865) / 288230376151711744 = (idx : Int))
    (hi : idx < 64) (hk : k < 64) (hcell : w.cell? ⟨0, idx, none⟩ = some (.int .u8 k)) :
    Calls Tryd.prog 30 #[.int .u64 x] w fun e w' => e = .returned (.int .i64 k) ∧ w' = w := by
  go_enter Tryd.func30, Tryd.ntmps30
  go_wp2_with (simp only [key])
  go_ret
  exact ⟨rfl, rfl⟩

theorem tz64_key (x a : Nat) (hx : x < 18446744073709551616) (hx0 : x ≠ 0) (hlow : x &&& (18446744073709551616 - x) = a) :
    IntKind.u64.wrap (bits BinOp.and IntKind.u64 (x : Int) (IntKind.u64.wrap (-(x : Int))) * 285870213051353865) / 288230376151711744 = ((a * 285870213051353865 % 18446744073709551616 / 288230376151711744 : Nat) : Int) := by
  have e1 : IntKind.u64.wrap (-(x : Int)) = ((18446744073709551616 - x : Nat) : Int) := by rw [IntKind.wrap_u64]; omega
  rw [e1, bits_and_u64_nat x _ hx (by omega), hlow, IntKind.wrap_u64]
  omega

theorem tz64_any (x : Nat) (hx : x < 18446744073709551616) (hx0 : x ≠ 0) (w : World) (hT : TabAt w) :
    Calls Tryd.prog 30 #[.int .u64 x] w fun e w' => e = .returned (.int .i64 (Lib.ctz 64 x)) ∧ w' = w := by
  obtain ⟨hlow, hk⟩ := Lib.lowest_bit 64 x hx0 hx
  obtain ⟨hi, htab⟩ := Lib.deBruijn64_at _ hk
  have hcell := hT _ hi
  rw [htab] at hcell
  exact tz64_core x _ _ w (by simp; omega) (tz64_key x _ hx hx0 hlow) hi hk hcell
end Go.Proofs.Qxb6614702aDoor

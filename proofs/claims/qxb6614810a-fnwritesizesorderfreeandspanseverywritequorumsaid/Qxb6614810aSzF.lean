/-
  WALK: zzWritePlacesFit.
-/
import Derived.Test.Qxb6614810aSzE
namespace Go.Proofs.Qxb6614810a
open Go.RowKit
/-- What zzWritePlacesFit says. -/
def PSaid (D0 D1 D2 : Nat → Int) (n0 n1 n2 nb : Nat) (LB : Nat → Nat) (X : Nat → Nat → Nat) (e : Ending) : Prop :=
  ∃ b, e = .returned (.bool b) ∧ (b = true → n1 = n0 ∧ n2 = n0 ∧ (∀ j, j < n0 → 0 ≤ D0 j ∧ 0 ≤ D1 j ∧ 0 ≤ D2 j) ∧ PFit n0 nb (fun j => (D0 j).toNat) (fun j => (D1 j).toNat) (fun j => (D2 j).toNat) LB X)
def POne (D0 D1 D2 : Nat → Int) (nb : Nat) (LB : Nat → Nat) (X : Nat → Nat → Nat) (j : Nat) : Prop :=
  (0 ≤ D0 j ∧ 0 ≤ D1 j ∧ 0 ≤ D2 j) ∧ (D0 j).toNat < nb ∧ (D1 j).toNat + (D2 j).toNat + sizeAt X (fun j => (D0 j).toNat) (fun j => (D1 j).toNat) (fun j => (D2 j).toNat) j ≤ LB (D0 j).toNat

set_option maxRecDepth 100000 in
set_option maxHeartbeats 2000000 in
theorem pfit_any (a0 a1 a2 a3 : Option Addr) (n0 c0 n1 c1 n2 c2 nb c3 : Nat) (D0 D1 D2 : Nat → Int) (AB : Nat → Option Addr) (LB CB : Nat → Nat) (X : Nat → Nat → Nat) (w : World) (hm0 : n0 ≤ 131072) (hm1 : n1 ≤ 131072) (hm2 : n2 ≤ 131072)
    (hr0 : ∀ i, -2147483648 ≤ D0 i ∧ D0 i ≤ 2147483647) (hr1 : ∀ i, -2147483648 ≤ D1 i ∧ D1 i ≤ 2147483647) (hr2 : ∀ i, -2147483648 ≤ D2 i ∧ D2 i ≤ 2147483647)
    (r0 : RowAt w a0 n0 fun i => .int .i32 (D0 i)) (r1 : RowAt w a1 n1 fun i => .int .i32 (D1 i)) (r2 : RowAt w a2 n2 fun i => .int .i32 (D2 i)) (hbl : BlocksAt w a3 nb AB LB CB X) :
    Calls Try.prog 19 #[.slice a0 n0 c0, .slice a1 n1 c1, .slice a2 n2 c2, .slice a3 nb c3] w fun e w' => PSaid D0 D1 D2 n0 n1 n2 nb LB X e ∧ w = w' := by
  have no : ∀ w' : World, w = w' → PSaid D0 D1 D2 n0 n1 n2 nb LB X (.returned (.bool false)) ∧ w = w' := fun w' h => ⟨⟨false, rfl, fun h => by cases h⟩, h⟩
  by_cases e1 : n0 = n1
  rotate_left
  · have hne : ((n1 : Int) != (n0 : Int)) = true := by simp; omega
    go_enter Try.func19, Try.ntmps19
    go_wp2
    go_ret
    exact no _ rfl
  subst e1
  by_cases e2 : n0 = n2
  rotate_left
  · have hne : ((n2 : Int) != (n0 : Int)) = true := by simp; omega
    go_enter Try.func19, Try.ntmps19
    go_wp2
    go_ret
    exact no _ rfl
  subst e2
  have yes : (∀ j, j < n0 → POne D0 D1 D2 nb LB X j) → PSaid D0 D1 D2 n0 n0 n0 nb LB X (.returned (.bool true)) := fun h => ⟨true, rfl, fun _ => ⟨rfl, rfl, fun j hj => (h j hj).1, fun j hj => (h j hj).2⟩⟩
  have hnb := hbl.nbl
  go_enter Try.func19, Try.ntmps19
  go_wp2
  go_loop [9, 10] (fun z i => ∃ (k u : Nat), k ≤ n0 ∧ i = .int .i64 k ∧ z = .int .i64 u ∧ u ≤ 1048576 ∧ Hid (∀ j, j < k → POne D0 D1 D2 nb LB X j)) (fun _ i => n0 - (intOf i).toNat)
  case atStart => exact ⟨0, 0, by omega, rfl, rfl, by omega, fun _ h => by omega⟩
  case round =>
    obtain ⟨k, u, hk, rfl, rfl, hu, hall⟩ := hrel
    by_cases hlt : k < n0
    rotate_left
    · obtain rfl : k = n0 := by omega
      go_wp2
      go_ret
      exact ⟨yes fun j hj => hall.out j hj, rfl⟩
    obtain ⟨b0, o0, rfl, _, hc0⟩ := r0.pos (by omega)
    obtain ⟨b1, o1, rfl, _, hc1⟩ := r1.pos (by omega)
    obtain ⟨b2, o2, rfl, _, hc2⟩ := r2.pos (by omega)
    have g0 := hc0 k hlt
    have g1 := hc1 k hlt
    have g2 := hc2 k hlt
    have q0 := hr0 k
    have q1 := hr1 k
    have q2 := hr2 k
    clear hc0 hc1 hc2 r0 r1 r2 hr0 hr1 hr2
    by_cases hbad : D0 k < 0 ∨ (nb : Int) ≤ D0 k
    · rcases hbad with hbad | hbad
      · go_wp2
        go_ret
        exact no _ rfl
      · go_wp2
        go_ret
        exact no _ rfl
    have hB0 : 0 ≤ D0 k := by omega
    obtain ⟨bk, hbk⟩ := Int.eq_ofNat_of_zero_le hB0
    have hbk' : (D0 k).toNat = bk := by omega
    have hlb : bk < nb := by omega
    obtain ⟨b3, o3, rfl, _, hc3⟩ := hbl.rowB.pos (by omega)
    have g3 := hc3 bk hlb
    have hsm := hbl.small bk hlb
    have hrow := hbl.rows bk hlb
    have hwd := hbl.word bk
    rw [hbk] at g0 q0 hbad
    have HB : Hid (D0 k = bk) := hbk
    clear hc3 hbk hB0
    by_cases hbad1 : D1 k < 0
    · go_wp2
      go_ret
      exact no _ rfl
    by_cases hbad2 : D2 k < 0
    · go_wp2
      go_ret
      exact no _ rfl
    obtain ⟨f, hf⟩ := Int.eq_ofNat_of_zero_le (show 0 ≤ D1 k by omega)
    obtain ⟨r, hr⟩ := Int.eq_ofNat_of_zero_le (show 0 ≤ D2 k by omega)
    rw [hf] at g1 q1 hbad1
    rw [hr] at g2 q2 hbad2
    have HF : Hid (D1 k = f) := hf
    have HR : Hid (D2 k = r) := hr
    clear hf hr
    by_cases hbad3 : LB bk < f
    · go_wp2
      go_ret
      exact no _ rfl
    by_cases hbad4 : LB bk - f < r
    · go_wp2
      go_ret
      exact no _ rfl
    go_wp2
    go_loop [15, 16] (fun z i => ∃ q : Nat, q ≤ r ∧ i = .int .i64 q ∧ z = .int .u64 (sizeOf' (fun i => X bk (f + i)) q : Int) ∧ sizeOf' (fun i => X bk (f + i)) q ≤ LB bk) (fun _ i => r - (intOf i).toNat)
    case atStart => exact ⟨0, by omega, rfl, rfl, by simp [sizeOf']⟩
    case round =>
      obtain ⟨q, hq, rfl, rfl, hsz⟩ := hrel
      by_cases hlt2 : q < r
      · obtain ⟨bb, bo, hab, _, hcb⟩ := hrow.pos (by omega)
        rw [hab] at g3
        have gq := hcb (f + q) (by omega)
        have e1 : IntKind.i64.wrap ((f : Int) + (q : Int)) = ((f + q : Nat) : Int) := by rw [IntKind.wrap_i64]; omega
        have e2 : sizeOf' (fun i => X bk (f + i)) (q + 1) = X bk (f + q) / 4294967296 := by simp [sizeOf']
        have hxq := hwd (f + q)
        have e3 : (X bk (f + q) : Int) / 4294967296 = ((X bk (f + q) / 4294967296 : Nat) : Int) := by simp
        rw [← e2] at e3
        rw [hab]
        generalize hs1 : sizeOf' (fun i => X bk (f + i)) (q + 1) = sq at *
        generalize sizeOf' (fun i => X bk (f + i)) q = s0 at *
        have HX : Hid (∀ i, X bk i = X bk i) := fun _ => rfl
        clear hcb hwd hrow hbl e2
        by_cases t1 : sq ≤ s0
        · go_wp2
          go_ret
          exact no _ rfl
        by_cases t2 : LB bk < sq
        · go_wp2
          go_ret
          exact no _ rfl
        go_wp2
        go_round
        case rel => exact ⟨q + 1, by omega, by go_num, by rw [hs1], by rw [hs1]; omega⟩
        case measure => simp [intOf]; omega
      · obtain rfl : q = r := by omega
        have hpone : f + q + sizeOf' (fun i => X bk (f + i)) q ≤ LB bk → POne D0 D1 D2 nb LB X k := by
          intro hle
          have z1 : (D1 k).toNat = f := by rw [HF.out]; rfl
          have z2 : (D2 k).toNat = q := by rw [HR.out]; rfl
          refine ⟨⟨by rw [HB.out]; omega, by rw [HF.out]; omega, by rw [HR.out]; omega⟩, by rw [hbk']; exact hlb, ?_⟩
          unfold sizeAt wordsAt
          simp only [hbk', z1, z2]
          exact hle
        clear hbk'
        generalize sizeOf' (fun i => X bk (f + i)) q = sz at *
        have e0 : IntKind.i64.wrap (sz : Int) = (sz : Int) := i64N (by omega)
        by_cases t1 : LB bk - f - q < sz
        · go_wp2
          go_ret
          exact no _ rfl
        by_cases t2 : 1048576 < u + (q + sz)
        · go_wp2
          go_ret
          exact no _ rfl
        have HP : Hid (POne D0 D1 D2 nb LB X k) := hpone (by omega)
        clear hpone hbl
        go_wp2
        go_loop [19] (fun i => ∃ t : Nat, t ≤ sz ∧ i = .int .i64 t) (fun i => sz - (intOf i).toNat)
        case atStart => exact ⟨0, by omega, rfl⟩
        case round =>
          obtain ⟨t, ht, rfl⟩ := hrel
          by_cases hlt3 : t < sz
          · obtain ⟨bb, bo, hab, _, hcb⟩ := hrow.pos (by omega)
            rw [hab] at g3 ⊢
            have gq := hcb (f + q + t) (by omega)
            have e1 : IntKind.i64.wrap ((f : Int) + (q : Int)) = ((f + q : Nat) : Int) := by rw [IntKind.wrap_i64]; omega
            have e2 : IntKind.i64.wrap (((f + q : Nat) : Int) + (t : Int)) = ((f + q + t : Nat) : Int) := by rw [IntKind.wrap_i64]; omega
            clear hcb hrow
            by_cases t3 : X bk (f + q + t) = 0
            · go_wp2
              go_ret
              exact no _ rfl
            have t4 : ((X bk (f + q + t) : Int) == 0) = false := by simp; omega
            go_wp2
            go_round
            case rel => exact ⟨t + 1, by omega, by go_num⟩
            case measure => simp [intOf]; omega
          · obtain rfl : t = sz := by omega
            go_wp2
            go_round
            case rel => exact ⟨k + 1, u + (q + t), by omega, by go_num, by go_num, by omega, fun j hj => by
                          by_cases e : j = k
                          · subst e; exact HP.out
                          · exact hall.out j (by omega)⟩
            case measure => simp [intOf]; omega
end Go.Proofs.Qxb6614810a

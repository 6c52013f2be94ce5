/-
  WALKS: zzBytes, zzNamedSetsFit, zzSameNames, namedSets.len, namedSets.set.
-/
import Derived.Test.Qxb6614810aProg
import Derived.Test.Qxb6614810aBase
namespace Go.Proofs.Qxb6614810a
open Go.RowKit

set_option maxHeartbeats 400000 in
theorem same_any (a b : Option Addr) (ca cb n : Nat) (S : Nat → ByteArray) (w : World) (hm : n ≤ 1048576) (hA : RowAt w a n fun i => .string (S i)) (hB : RowAt w b n fun i => .string (S i)) :
    Calls Try.prog 17 #[.slice a n ca, .slice b n cb] w fun e w' => e = .returned (.bool true) ∧ ∃ q, w' = w.drewN q := by
  have hne : ((n : Int) != (n : Int)) = false := by simp
  go_enter Try.func17, Try.ntmps17
  go_wp2
  go_loopw [5] (fun i wr => ∃ k q : Nat, k ≤ n ∧ i = .int .i64 k ∧ wr = w.drewN q) (fun i _ => n - (intOf i).toNat)
  case atStart => exact ⟨0, 0, by omega, rfl, rfl⟩
  case round =>
    obtain ⟨k, q, hk, rfl, rfl⟩ := hrel
    by_cases hlt : k < n
    · obtain ⟨b0, o0, rfl, _, hc0⟩ := hA.pos (by omega)
      obtain ⟨b1, o1, rfl, _, hc1⟩ := hB.pos (by omega)
      have h0 := hc0 k hlt
      have h1 := hc1 k hlt
      clear hc0 hc1
      go_wp2
      go_quiet (fail)
      go_wp2
      go_roundw
      case rel => exact ⟨k + 1, _, by omega, by go_num, rfl⟩
      case measure => simp [intOf]; omega
    · go_wp2
      go_ret
      exact ⟨rfl, _, rfl⟩

def BytesSaid (N : Nat → ByteArray) (n : Nat) (e : Ending) : Prop := ∃ b, e = .returned (.bool b) ∧ (b = true → ∀ i, i < n → (N i).size ≤ 1048576)

set_option maxHeartbeats 400000 in
theorem bytes_writes (a0 a1 a2 : Option Addr) (n c0 l1 c1 l2 c2 : Nat) (c : Int) (N : Nat → ByteArray) (w : World) (h0 : n ≤ maxLen) (h1 : l1 ≤ maxLen) (h2 : l2 ≤ maxLen) (hN : ∀ i, i < n → (N i).size ≤ maxLen) (hA : RowAt w a0 n fun i => .string (N i)) :
    Calls Try.prog 13 #[.slice a0 n c0, .slice a1 l1 c1, .slice a2 l2 c2, .int .i64 c] w fun e w' => BytesSaid N n e ∧ w = w' := by
  unfold maxLen at h0 h1 h2 hN
  by_cases hn : 1048576 < n
  · go_enter Try.func13, Try.ntmps13
    go_wp2
    go_ret
    exact ⟨⟨false, rfl, fun h => by cases h⟩, rfl⟩
  go_enter Try.func13, Try.ntmps13
  go_wp2
  go_loop [9, 10] (fun z i => ∃ (k : Nat) (s : Int), k ≤ n ∧ i = .int .i64 k ∧ z = .int .i64 s ∧ 0 ≤ s ∧ s ≤ 1048576 ∧ Hid (∀ j, j < k → (N j).size ≤ 1048576)) (fun _ i => n - (intOf i).toNat)
  case atStart => exact ⟨0, n, by omega, rfl, rfl, by omega, by omega, fun _ h => by omega⟩
  case round =>
    obtain ⟨k, s, hk, rfl, rfl, hs0, hs1, hall⟩ := hrel
    by_cases hlt : k < n
    · obtain ⟨b0, o0, rfl, _, hc0⟩ := hA.pos (by omega)
      have hc := hc0 k hlt
      have hsz := hN k hlt
      clear hc0
      by_cases hb : 1048576 < (N k).size
      · go_wp2
        go_ret
        exact ⟨⟨false, rfl, fun h => by cases h⟩, rfl⟩
      by_cases hb2 : 1048576 < s + (N k).size
      · go_wp2
        go_ret
        exact ⟨⟨false, rfl, fun h => by cases h⟩, rfl⟩
      go_wp2
      go_round
      case rel => exact ⟨k + 1, s + (N k).size, by omega, by go_num, by go_num, by omega, by omega, fun j hj => by
                      by_cases e : j = k
                      · subst e; omega
                      · exact hall.out j (by omega)⟩
      case measure => simp [intOf]; omega
    · go_wp2
      all_goals
        go_ret
        exact ⟨⟨_, rfl, fun _ i hi => hall.out i (by omega)⟩, rfl⟩

/-- Where set j begins. -/
def startOf (E : Nat → Int) : Nat → Int
  | 0 => 0
  | j + 1 => E j
structure Fit (D E : Nat → Int) (nn nd ne : Nat) : Prop where
  mono : ∀ j, j < ne → startOf E j ≤ E j
  last : startOf E ne = nd
  ids : ∀ p, p < nd → 0 ≤ D p ∧ D p < nn

def FitSaid (D E : Nat → Int) (nn nd ne : Nat) (e : Ending) : Prop := ∃ b, e = .returned (.bool b) ∧ (b = true → Fit D E nn nd ne)

set_option maxHeartbeats 400000 in
theorem fit_any (a0 a1 a2 : Option Addr) (nn c0 nd c1 ne c2 : Nat) (D E : Nat → Int) (w : World) (hm1 : nd ≤ 131072) (hm2 : ne ≤ 131072)
    (hD : ∀ i, i < nd → -2147483648 ≤ D i ∧ D i ≤ 2147483647) (hA : RowAt w a1 nd fun i => .int .i32 (D i)) (hB : RowAt w a2 ne fun i => .int .i64 (E i)) :
    Calls Try.prog 14 #[.slice a0 nn c0, .slice a1 nd c1, .slice a2 ne c2] w fun e w' => FitSaid D E nn nd ne e ∧ w = w' := by
  go_enter Try.func14, Try.ntmps14
  go_wp2
  go_loop [7, 8] (fun z i => ∃ k : Nat, k ≤ ne ∧ i = .int .i64 k ∧ z = .int .i64 (startOf E k) ∧ Hid (∀ j, j < k → startOf E j ≤ E j)) (fun _ i => ne - (intOf i).toNat)
  case atStart => exact ⟨0, by omega, rfl, rfl, fun _ h => by omega⟩
  case round =>
    obtain ⟨k, hk, rfl, rfl, hmono⟩ := hrel
    by_cases hlt : k < ne
    · obtain ⟨b0, o0, rfl, _, hc0⟩ := hB.pos (by omega)
      have hc := hc0 k hlt
      clear hc0
      by_cases hb : E k < startOf E k
      · go_wp2
        go_ret
        exact ⟨⟨false, rfl, fun h => by cases h⟩, rfl⟩
      go_wp2
      go_round
      case rel => exact ⟨k + 1, by omega, by go_num, rfl, fun j hj => by
                      by_cases e : j = k
                      · subst e; omega
                      · exact hmono.out j (by omega)⟩
      case measure => simp [intOf]; omega
    · obtain rfl : k = ne := by omega
      by_cases hl : startOf E k = nd
      · have hne : (startOf E k != (nd : Int)) = false := by simp [hl]
        have HL : Hid (startOf E k = nd) := hl
        clear hl
        go_wp2
        go_loop [9] (fun i => ∃ p : Nat, p ≤ nd ∧ i = .int .i64 p ∧ Hid (∀ q, q < p → 0 ≤ D q ∧ D q < nn)) (fun i => nd - (intOf i).toNat)
        case atStart => exact ⟨0, by omega, rfl, fun _ h => by omega⟩
        case round =>
          obtain ⟨p, hp, rfl, hids⟩ := hrel
          by_cases hlt2 : p < nd
          · obtain ⟨b1, o1, rfl, _, hc0⟩ := hA.pos (by omega)
            have hc := hc0 p hlt2
            obtain ⟨hd1, hd2⟩ := hD p hlt2
            clear hc0
            by_cases h1 : D p < 0
            · go_wp2
              go_ret
              exact ⟨⟨false, rfl, fun h => by cases h⟩, rfl⟩
            by_cases h2 : (nn : Int) ≤ D p
            · go_wp2
              go_ret
              exact ⟨⟨false, rfl, fun h => by cases h⟩, rfl⟩
            go_wp2
            go_round
            case rel => exact ⟨p + 1, by omega, by go_num, fun q hq => by
                          by_cases e : q = p
                          · subst e; omega
                          · exact hids.out q (by omega)⟩
            case measure => simp [intOf]; omega
          · obtain rfl : p = nd := by omega
            go_wp2
            go_ret
            exact ⟨⟨true, rfl, fun _ => ⟨hmono.out, HL.out, hids.out⟩⟩, rfl⟩
      · have hne : (startOf E k != (nd : Int)) = true := by simp [hl]
        clear hl
        go_wp2
        go_ret
        exact ⟨⟨false, rfl, fun h => by cases h⟩, rfl⟩
end Go.Proofs.Qxb6614810a

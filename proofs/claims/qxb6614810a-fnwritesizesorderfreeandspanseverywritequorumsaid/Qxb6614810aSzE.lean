/-
  WALKS: zzBytes of the two laws.
-/
import Derived.Test.Qxb6614810aSzD
namespace Go.Proofs.Qxb6614810a
open Go.RowKit

def BSaid (N : Nat → ByteArray) (n : Nat) (LB : Nat → Nat) (nb : Nat) (e : Ending) : Prop := ∃ b, e = .returned (.bool b) ∧ (b = true → (∀ i, i < n → (N i).size ≤ 1048576) ∧ ∀ i, i < nb → LB i ≤ 1048576)

set_option maxRecDepth 100000 in
set_option maxHeartbeats 1000000 in
theorem bytes_one (a0 a1 a2 a3 a4 a6 : Option Addr) (n c0 l1 c1 l2 c2 l3 c3 nb c4 l6 c6 : Nat) (c : Int) (N : Nat → ByteArray) (AB : Nat → Option Addr) (LB CB : Nat → Nat) (w : World) (h0 : n ≤ maxLen) (h1 : l1 ≤ maxLen) (h2 : l2 ≤ maxLen) (h3 : l3 ≤ maxLen) (h4 : nb ≤ maxLen) (h6 : l6 ≤ maxLen)
    (hN : ∀ i, i < n → (N i).size ≤ maxLen) (hLB : ∀ i, i < nb → LB i ≤ maxLen) (hA : RowAt w a0 n fun i => .string (N i)) (hB : RowAt w a4 nb fun i => .slice (AB i) (LB i) (CB i)) :
    Calls Try.prog 18 #[.slice a0 n c0, .slice a1 l1 c1, .slice a2 l2 c2, .slice a3 l3 c3, .slice a4 nb c4, .int .i64 c, .slice a6 l6 c6] w fun e w' => BSaid N n LB nb e ∧ w = w' := by
  unfold maxLen at h0 h1 h2 h3 h4 h6 hN hLB
  by_cases hn : 1048576 < n
  · go_enter Try.func18, Try.ntmps18
    go_wp2
    go_ret
    exact ⟨⟨false, rfl, fun h => by cases h⟩, rfl⟩
  go_enter Try.func18, Try.ntmps18
  go_wp2
  go_loop [15, 16] (fun z i => ∃ (k : Nat) (s : Int), k ≤ n ∧ i = .int .i64 k ∧ z = .int .i64 s ∧ 0 ≤ s ∧ s ≤ 1048576 ∧ Hid (∀ j, j < k → (N j).size ≤ 1048576)) (fun _ i => n - (intOf i).toNat)
  case atStart => exact ⟨0, n, by omega, rfl, rfl, by omega, by omega, fun _ h => by omega⟩
  case round =>
    obtain ⟨k, s, hk, rfl, rfl, hs0, hs1, hall⟩ := hrel
    by_cases hlt : k < n
    · obtain ⟨b0, o0, rfl, _, hc0⟩ := hA.pos (by omega)
      have hc := hc0 k hlt
      have hsz := hN k hlt
      clear hc0
      by_cases hb : 1048576 < (N k).size
      · go_wp2
        go_ret
        exact ⟨⟨false, rfl, fun h => by cases h⟩, rfl⟩
      by_cases hb2 : 1048576 < s + (N k).size
      · go_wp2
        go_ret
        exact ⟨⟨false, rfl, fun h => by cases h⟩, rfl⟩
      go_wp2
      go_round
      case rel => exact ⟨k + 1, s + (N k).size, by omega, by go_num, by go_num, by omega, by omega, fun j hj => by
                      by_cases e : j = k
                      · subst e; omega
                      · exact hall.out j (by omega)⟩
      case measure => simp [intOf]; omega
    · obtain rfl : k = n := by omega
      by_cases hsum : s + l1 + l2 + l3 + nb ≤ 1048576
      · go_wp2
        go_loop [15, 17] (fun z i => ∃ (k : Nat) (s : Int), k ≤ nb ∧ i = .int .i64 k ∧ z = .int .i64 s ∧ 0 ≤ s ∧ s ≤ 1048576 ∧ Hid (∀ j, j < k → LB j ≤ 1048576)) (fun _ i => nb - (intOf i).toNat)
        case atStart => exact ⟨0, _, by omega, rfl, rfl, by omega, by omega, fun _ h => by omega⟩
        case round =>
          obtain ⟨q, t, hq, rfl, rfl, ht0, ht1, hall2⟩ := hrel
          by_cases hlt2 : q < nb
          · obtain ⟨b4, o4, rfl, _, hc4⟩ := hB.pos (by omega)
            have hc := hc4 q hlt2
            have hsz := hLB q hlt2
            clear hc4
            by_cases hb : 1048576 < LB q
            · go_wp2
              go_ret
              exact ⟨⟨false, rfl, fun h => by cases h⟩, rfl⟩
            by_cases hb2 : 1048576 < t + LB q
            · go_wp2
              go_ret
              exact ⟨⟨false, rfl, fun h => by cases h⟩, rfl⟩
            go_wp2
            go_round
            case rel => exact ⟨q + 1, t + LB q, by omega, by go_num, by go_num, by omega, by omega, fun j hj => by
                            by_cases e : j = q
                            · subst e; omega
                            · exact hall2.out j (by omega)⟩
            case measure => simp [intOf]; omega
          · obtain rfl : q = nb := by omega
            go_wp2
            all_goals
              go_ret
              exact ⟨⟨_, rfl, fun _ => ⟨fun i hi => hall.out i hi, fun i hi => hall2.out i hi⟩⟩, rfl⟩
      · go_wp2
        all_goals
          go_ret
          exact ⟨⟨false, rfl, fun h => by cases h⟩, rfl⟩

set_option maxRecDepth 100000 in
set_option maxHeartbeats 1000000 in
theorem bytes_two (a0 a1 a2 a3 a4 : Option Addr) (n c0 l1 c1 l2 c2 l3 c3 nb c4 : Nat) (c d : Int) (N : Nat → ByteArray) (AB : Nat → Option Addr) (LB CB : Nat → Nat) (w : World) (h0 : n ≤ maxLen) (h1 : l1 ≤ maxLen) (h2 : l2 ≤ maxLen) (h3 : l3 ≤ maxLen) (h4 : nb ≤ maxLen)
    (hN : ∀ i, i < n → (N i).size ≤ maxLen) (hLB : ∀ i, i < nb → LB i ≤ maxLen) (hA : RowAt w a0 n fun i => .string (N i)) (hB : RowAt w a4 nb fun i => .slice (AB i) (LB i) (CB i)) :
    Calls Try.prog 25 #[.slice a0 n c0, .slice a1 l1 c1, .slice a2 l2 c2, .slice a3 l3 c3, .slice a4 nb c4, .int .i64 c, .int .i64 d] w fun e w' => BSaid N n LB nb e ∧ w = w' := by
  unfold maxLen at h0 h1 h2 h3 h4 hN hLB
  by_cases hn : 1048576 < n
  · go_enter Try.func25, Try.ntmps25
    go_wp2
    go_ret
    exact ⟨⟨false, rfl, fun h => by cases h⟩, rfl⟩
  go_enter Try.func25, Try.ntmps25
  go_wp2
  go_loop [15, 16] (fun z i => ∃ (k : Nat) (s : Int), k ≤ n ∧ i = .int .i64 k ∧ z = .int .i64 s ∧ 0 ≤ s ∧ s ≤ 1048576 ∧ Hid (∀ j, j < k → (N j).size ≤ 1048576)) (fun _ i => n - (intOf i).toNat)
  case atStart => exact ⟨0, n, by omega, rfl, rfl, by omega, by omega, fun _ h => by omega⟩
  case round =>
    obtain ⟨k, s, hk, rfl, rfl, hs0, hs1, hall⟩ := hrel
    by_cases hlt : k < n
    · obtain ⟨b0, o0, rfl, _, hc0⟩ := hA.pos (by omega)
      have hc := hc0 k hlt
      have hsz := hN k hlt
      clear hc0
      by_cases hb : 1048576 < (N k).size
      · go_wp2
        go_ret
        exact ⟨⟨false, rfl, fun h => by cases h⟩, rfl⟩
      by_cases hb2 : 1048576 < s + (N k).size
      · go_wp2
        go_ret
        exact ⟨⟨false, rfl, fun h => by cases h⟩, rfl⟩
      go_wp2
      go_round
      case rel => exact ⟨k + 1, s + (N k).size, by omega, by go_num, by go_num, by omega, by omega, fun j hj => by
                      by_cases e : j = k
                      · subst e; omega
                      · exact hall.out j (by omega)⟩
      case measure => simp [intOf]; omega
    · obtain rfl : k = n := by omega
      by_cases hsum : s + l1 + l2 + l3 + nb ≤ 1048576
      · go_wp2
        go_loop [15, 17] (fun z i => ∃ (k : Nat) (s : Int), k ≤ nb ∧ i = .int .i64 k ∧ z = .int .i64 s ∧ 0 ≤ s ∧ s ≤ 1048576 ∧ Hid (∀ j, j < k → LB j ≤ 1048576)) (fun _ i => nb - (intOf i).toNat)
        case atStart => exact ⟨0, _, by omega, rfl, rfl, by omega, by omega, fun _ h => by omega⟩
        case round =>
          obtain ⟨q, t, hq, rfl, rfl, ht0, ht1, hall2⟩ := hrel
          by_cases hlt2 : q < nb
          · obtain ⟨b4, o4, rfl, _, hc4⟩ := hB.pos (by omega)
            have hc := hc4 q hlt2
            have hsz := hLB q hlt2
            clear hc4
            by_cases hb : 1048576 < LB q
            · go_wp2
              go_ret
              exact ⟨⟨false, rfl, fun h => by cases h⟩, rfl⟩
            by_cases hb2 : 1048576 < t + LB q
            · go_wp2
              go_ret
              exact ⟨⟨false, rfl, fun h => by cases h⟩, rfl⟩
            go_wp2
            go_round
            case rel => exact ⟨q + 1, t + LB q, by omega, by go_num, by go_num, by omega, by omega, fun j hj => by
                            by_cases e : j = q
                            · subst e; omega
                            · exact hall2.out j (by omega)⟩
            case measure => simp [intOf]; omega
          · obtain rfl : q = nb := by omega
            go_wp2
            all_goals
              go_ret
              exact ⟨⟨_, rfl, fun _ => ⟨fun i hi => hall.out i hi, fun i hi => hall2.out i hi⟩⟩, rfl⟩
      · go_wp2
        all_goals
          go_ret
          exact ⟨⟨false, rfl, fun h => by cases h⟩, rfl⟩

end Go.Proofs.Qxb6614810a

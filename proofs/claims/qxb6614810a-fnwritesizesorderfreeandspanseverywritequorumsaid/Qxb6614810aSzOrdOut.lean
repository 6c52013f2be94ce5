/-
  THE LAW OrderFree WHERE A LENGTH REFUSES.
-/
import Derived.Test.Qxb6614810aSzI
namespace Go.Proofs.Qxb6614810a
open Go.RowKit

set_option maxRecDepth 100000 in
set_option maxHeartbeats 2000000 in
theorem order_out (a0 a1 a2 a3 a4 : Option Addr) (n0 c0 n1 c1 n2 c2 n3 c3 nb c4 : Nat) (c d : Int) (N : Nat → ByteArray) (AB : Nat → Option Addr) (LB CB : Nat → Nat) (w : World)
    (h0 : n0 ≤ maxLen) (h1 : n1 ≤ maxLen) (h2 : n2 ≤ maxLen) (h3 : n3 ≤ maxLen) (h4 : nb ≤ maxLen)
    (hN : ∀ i, i < n0 → (N i).size ≤ maxLen) (hLB : ∀ i, i < nb → LB i ≤ maxLen)
    (hA : RowAt w a0 n0 fun i => .string (N i)) (hE : RowAt w a4 nb fun i => .slice (AB i) (LB i) (CB i)) (h : 131072 < n0 ∨ 131072 < n1 ∨ 131072 < n2 ∨ 131072 < n3 ∨ 131072 < nb) :
    Calls Try.prog 7 #[.slice a0 n0 c0, .slice a1 n1 c1, .slice a2 n2 c2, .slice a3 n3 c3, .slice a4 nb c4, .int .i64 c, .int .i64 d] w fun e w' => e = .returned (.bool true) ∧ Below w.heap.size w w' := by
  have hcall := bytes_two a0 a1 a2 a3 a4 n0 c0 n1 c1 n2 c2 n3 c3 nb c4 c d N AB LB CB w h0 h1 h2 h3 h4 hN hLB hA hE
  unfold maxLen at h0 h1 h2 h3 h4
  clear hA hE hN hLB
  by_cases x0 : 131072 < n0
  · go_enter Try.func7, Try.ntmps7
    go_wp2_with (go_at_call 25; refine hcall.mono ?_; rintro e w' ⟨⟨b, rfl, hbs⟩, rfl⟩)
    all_goals
      go_ret
      exact ⟨rfl, Below.refl _ _⟩
  by_cases x1 : 131072 < n1
  · go_enter Try.func7, Try.ntmps7
    go_wp2_with (go_at_call 25; refine hcall.mono ?_; rintro e w' ⟨⟨b, rfl, hbs⟩, rfl⟩)
    all_goals
      go_ret
      exact ⟨rfl, Below.refl _ _⟩
  by_cases x2 : 131072 < n2
  · go_enter Try.func7, Try.ntmps7
    go_wp2_with (go_at_call 25; refine hcall.mono ?_; rintro e w' ⟨⟨b, rfl, hbs⟩, rfl⟩)
    all_goals
      go_ret
      exact ⟨rfl, Below.refl _ _⟩
  by_cases x3 : 131072 < n3
  · go_enter Try.func7, Try.ntmps7
    go_wp2_with (go_at_call 25; refine hcall.mono ?_; rintro e w' ⟨⟨b, rfl, hbs⟩, rfl⟩)
    all_goals
      go_ret
      exact ⟨rfl, Below.refl _ _⟩
  have x4 : 131072 < nb := by omega
  clear h
  go_enter Try.func7, Try.ntmps7
  go_wp2_with (go_at_call 25; refine hcall.mono ?_; rintro e w' ⟨⟨b, rfl, hbs⟩, rfl⟩)
  all_goals
    go_ret
    exact ⟨rfl, Below.refl _ _⟩
end Go.Proofs.Qxb6614810a

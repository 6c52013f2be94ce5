/-
  WALKS: zzCloneInt32s, zzQuorumOnes.
-/
import Derived.Test.Qxb6614810aSzG
namespace Go.Proofs.Qxb6614810a
open Go.RowKit

set_option maxHeartbeats 1000000 in
theorem clone_any (a : Option Addr) (n c : Nat) (V : Nat → Nat) (w : World) (hn : n ≤ 131072) (hr : RowAt w a n fun i => .int .i32 (V i : Int)) :
    Calls Try.prog 26 #[.slice a n c] w fun e w' => ∃ a' c', e = .returned (.slice a' n c') ∧ RowAt w' a' n (fun i => .int .i32 (V i : Int)) ∧ (a = none → a' = none ∧ w = w') ∧ (a ≠ none → a' = some ⟨w.heap.size, 0, none⟩ ∧ LaidG w' w.heap.size 21 n n (fun i => .int .i32 (V i : Int))) ∧ Below w.heap.size w w' := by
  obtain ⟨i21, gi, gz0, gz1, gz2⟩ := info_parts info21
  have qT : ∀ (w : World) (a : Option Addr) (n c : Nat), (binOp .eql 32 (.slice a n c) (.slice none 0 0)).run Try.prog w = .ok (.bool a.isNone) w := fun w a n c => Lib.run_eql_slice_nil w 32 21 a n c 0 0 Try.underlying32
  rcases a with _ | x
  · obtain rfl : n = 0 := by
      rcases hr with h | ⟨b, o, h, _⟩
      · exact h
      · cases h
    go_enter Try.func26, Try.ntmps26
    go_wp2
    go_ret
    exact ⟨none, 0, rfl, .inl rfl, fun _ => ⟨rfl, rfl⟩, fun h => absurd rfl h, Below.refl _ _⟩
  · go_enter Try.func26, Try.ntmps26
    go_wp2_with (at_make; refine wpList_make_row _ rfl (.tmp 8) 32 rfl 21 i21 _ Try.underlying32 gi gz0 gz1 .i64 _ n rfl rfl (by rw [gz2]; omega) (by unfold maxLen; omega) w.heap.size w (by exact Below.refl _ _) (Nat.le_refl _) ?_; intro w1 cur1 hl1 hg1 hb1 _ hs1)
    go_loopw [4] (fun i wi => ∃ t : Nat, t ≤ n ∧ i = .int .i64 t ∧ LaidG wi w.heap.size 21 n t (fun i => .int .i32 (V i : Int)) ∧ Below w.heap.size w wi) (fun i _ => n - (intOf i).toNat)
    case atStart => exact ⟨0, Nat.zero_le _, rfl, ⟨cur1, hl1, hg1.out, fun _ h => by omega⟩, hb1⟩
    case round =>
      obtain ⟨t, ht, rfl, hL, hbx⟩ := hrel
      by_cases hlt : t < n
      · obtain ⟨b, o, hx, hb, hc⟩ := hr.pos (by omega)
        cases hx
        have g1 := (hbx.cell (p := ⟨b, o + t, none⟩) hb).trans (hc t hlt)
        obtain ⟨⟨u, hc5⟩, hf5⟩ := hL.cell hlt
        have hstep := hL.step hlt
        clear hc
        go_wp2
        go_roundw
        case rel => exact ⟨t + 1, by omega, by go_num, hstep, hbx.setCell (Nat.le_refl _) _⟩
        case measure => simp [intOf]; omega
      · obtain rfl : t = n := by omega
        go_wp2
        go_ret
        exact ⟨_, _, rfl, hL.all, fun h => (by cases h), fun _ => ⟨rfl, hL⟩, hbx⟩

set_option maxHeartbeats 1000000 in
theorem qones_any (a : Option Addr) (n c f r : Nat) (x : Nat → Nat) (w : World) (hn : n ≤ 1048576) (hx : ∀ i, x i < 18446744073709551616) (hr : RowAt w a n fun i => .int .u64 (x i : Int)) (hfit : f + r + szx x f r ≤ n) :
    Calls Try.prog 27 #[.slice a n c, .int .i64 f, .int .i64 r] w fun e w' => e = .returned (.int .i64 (ctx' x f r : Int)) ∧ w = w' := by
  have hpl := popS_le (fun i => x (f + (r + i))) (szx x f r)
  have e0 : ctx' x f r = popS (fun i => x (f + (r + i))) (szx x f r) := rfl
  rw [e0]
  clear e0
  go_enter Try.func27, Try.ntmps27
  go_upto_if 11 with fail
  go_cut [7] from 10 to 20 (fun s7 wc => s7 = .int .i64 (szx x f r : Int) ∧ wc = w)
  case first =>
    by_cases h0 : r = 0
    · have hd : decide (0 < r) = false := by simp [h0]
      have hd2 : decide ((0 : Int) < (r : Int)) = false := by simp [h0]
      have hnp : ¬ (0 < r) := by omega
      have hv : szx x f r = 0 := by unfold szx sizeOf'; rw [if_pos h0]
      clear h0
      go_wp2
      go_meet
      case rel => exact ⟨by rw [hv]; rfl, rfl⟩
    · have hmp : 0 < r := by omega
      obtain ⟨b, o, rfl, _, hc⟩ := hr.pos (by omega)
      have hcc := hc (f + r - 1) (by omega)
      have hv : szx x f r = x (f + r - 1) / 4294967296 := by unfold szx sizeOf'; rw [if_neg h0]; show x (f + (r - 1)) / 4294967296 = _; rw [show f + (r - 1) = f + r - 1 by omega]
      have e1 : IntKind.i64.wrap ((f : Int) + (r : Int)) = ((f + r : Nat) : Int) := by rw [IntKind.wrap_i64]; omega
      have e2 : IntKind.i64.wrap (((f + r : Nat) : Int) - 1) = ((f + r - 1 : Nat) : Int) := by rw [IntKind.wrap_i64]; omega
      have hxx := hx (f + r - 1)
      clear hc
      go_wp2
      go_meet
      case rel => exact ⟨by rw [hv]; simp, rfl⟩
  obtain ⟨rfl, rfl⟩ := hcut
  generalize hsz : szx x f r = sz at *
  go_wp2_with fail
  go_loopw [8, 9] (fun z i wi => ∃ t : Nat, t ≤ sz ∧ wi = wc ∧ i = .int .i64 t ∧ z = .int .i64 (popS (fun i => x (f + (r + i))) t : Int)) (fun _ i _ => sz - (intOf i).toNat)
  case atStart => exact ⟨0, by omega, rfl, rfl, rfl⟩
  case round =>
    obtain ⟨t, ht, rfl, rfl, rfl⟩ := hrel
    by_cases hlt : t < sz
    · obtain ⟨b, o, rfl, _, hc⟩ := hr.pos (by omega)
      have hcc : wr.cell? ⟨b, o + (f + r + t), none⟩ = some (.int .u64 (x (f + (r + t)) : Int)) := by rw [hc (f + r + t) (by omega), Nat.add_assoc f r t]
      have hps := popS_le (fun i => x (f + (r + i))) t
      have hp1 := pop_le (x (f + (r + t)))
      have e1 : IntKind.i64.wrap ((f : Int) + (r : Int)) = ((f + r : Nat) : Int) := by rw [IntKind.wrap_i64]; omega
      have e2 : IntKind.i64.wrap (((f + r : Nat) : Int) + (t : Int)) = ((f + r + t : Nat) : Int) := by rw [IntKind.wrap_i64]; omega
      have hsum : IntKind.i64.wrap ((popS (fun i => x (f + (r + i))) t : Int) + (pop (x (f + (r + t))) : Int)) = (popS (fun i => x (f + (r + i))) (t + 1) : Int) := by rw [IntKind.wrap_i64]; simp only [popS]; omega
      clear hc
      have hcall := zones_any (x (f + (r + t))) (hx _) wr
      generalize x (f + (r + t)) = xw at *
      generalize popS (fun i => x (f + (r + i))) t = pa at *
      generalize hpb : popS (fun i => x (f + (r + i))) (t + 1) = pb at *
      go_wp2_with (go_at_call 22; refine hcall.mono ?_; rintro e w' ⟨rfl, rfl⟩)
      go_roundw
      case rel => exact ⟨t + 1, by omega, by first | rfl | trivial, by go_num, by rw [hpb]⟩
      case measure => simp [intOf]; omega
    · obtain rfl : t = sz := by omega
      go_wp2
      go_ret
      exact ⟨by rw [hsz]; rfl, rfl⟩
end Go.Proofs.Qxb6614810a

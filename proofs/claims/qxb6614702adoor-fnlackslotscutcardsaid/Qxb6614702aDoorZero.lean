/-
  THE WALK of FnLackSlotsCut where there is no chunk, and where a length refuses.
-/
import Derived.Test.Qxb6614702aDoorMain
namespace Go.Proofs.Qxb6614702aDoor
open Go.RowKit

theorem newLack_zero (aa ab : Option Addr) (ca cb : Nat) (w : World) :
    Calls Tryd.prog 18 #[.slice aa 0 ca, .slice ab 0 cb] w fun e w' => e = .returned (.agg #[.slice (some ⟨w.heap.size + 1, 0, none⟩) 0 0]) ∧ ChunkRow w' (w.heap.size + 1) 0 (fun _ => 0) (fun _ => 0) ∧ Below w.heap.size w w' ∧ w.heap.size + 1 < w'.heap.size :=
  newLack_any aa ab ca cb 0 (fun _ => 0) (fun _ => 0) w (by omega) (.inl rfl) (.inl rfl)
theorem allSlots_zero (g : Nat) (w : World) (hT : TabAt w) (hrow : ChunkRow w g 0 (fun _ => 0) (fun _ => 0)) :
    Calls Tryd.prog 17 #[.agg #[.slice (some ⟨g, 0, none⟩) 0 0]] w fun e w' => ∃ ao c, e = .returned (.slice ao 0 c) ∧ Below w.heap.size w w' := by
  refine (allSlots_any g 0 (fun _ => 0) (fun _ => 0) w (by omega) (fun i hi => by omega) (by simp [chunks, slots]) hT hrow).mono ?_
  rintro e w' ⟨ao, c, rfl, _, hb⟩
  exact ⟨ao, c, rfl, hb⟩

set_option maxRecDepth 100000 in
set_option maxHeartbeats 1000000 in
theorem cut_out (a0 a1 : Option Addr) (l0 c0 l1 c1 : Nat) (a2 : Int) (w : World) (h0 : l0 ≤ maxLen) (h1 : l1 ≤ maxLen) (h : 4096 < l0 ∨ 4096 < l1 ∨ l0 ≠ l1) :
    Calls Tryd.prog 5 #[.slice a0 l0 c0, .slice a1 l1 c1, .int .i64 a2] w fun e w' => e = .returned (.bool true) ∧ Below w.heap.size w w' := by
  have g0 := h0
  have g1 := h1
  unfold maxLen at g0 g1
  by_cases ha : 4096 < l0
  · go_enter Tryd.func5, Tryd.ntmps5
    go_wp2_with (go_at_call 14; refine (bytes_cut _ _ _ _ _ _ _ _ h0 h1).mono ?_; rintro e w' ⟨b, rfl, rfl⟩)
    all_goals
      go_ret
      exact ⟨rfl, Below.refl _ _⟩
  by_cases hb : 4096 < l1
  · go_enter Tryd.func5, Tryd.ntmps5
    go_wp2_with (go_at_call 14; refine (bytes_cut _ _ _ _ _ _ _ _ h0 h1).mono ?_; rintro e w' ⟨b, rfl, rfl⟩)
    all_goals
      go_ret
      exact ⟨rfl, Below.refl _ _⟩
  have hne : ((l0 : Int) != (l1 : Int)) = true := by simp; omega
  clear h
  go_enter Tryd.func5, Tryd.ntmps5
  go_wp2_with (go_at_call 14; refine (bytes_cut _ _ _ _ _ _ _ _ h0 h1).mono ?_; rintro e w' ⟨b, rfl, rfl⟩)
  all_goals
    go_ret
    exact ⟨rfl, Below.refl _ _⟩

set_option maxRecDepth 100000 in
set_option maxHeartbeats 4000000 in
theorem cut_zero (a0 a1 : Option Addr) (c0 c1 : Nat) (a2 : Int) (w : World) (hT : TabAt w) :
    Calls Tryd.prog 5 #[.slice a0 0 c0, .slice a1 0 c1, .int .i64 a2] w fun e w' => e = .returned (.bool true) ∧ Below w.heap.size w w' := by
  obtain ⟨i3, hi, hz0, hz1, hz2⟩ := info_parts info3
  obtain ⟨i40, gi, gz0, gz1, gz2⟩ := info_parts info40
  have hvz : validB (fun _ => 0) (fun _ => 0) 0 = true := rfl
  go_enter Tryd.func5, Tryd.ntmps5
  go_upto_if 40 with (go_at_call 14; refine (bytes_cut _ _ _ _ _ _ _ _ (by unfold maxLen; omega) (by unfold maxLen; omega)).mono ?_; rintro e w' ⟨b, rfl, rfl⟩)
  · go_wp2
    go_ret
    exact ⟨rfl, Below.refl _ _⟩
  go_cut [0] (fun s0 wc => ∃ aa ca, s0 = .slice aa 0 ca ∧ Below w.heap.size w wc)
  case first =>
    rcases a0 with _ | x0
    · go_wp2
      go_meet
      case rel => exact ⟨_, _, rfl, Below.refl _ _⟩
    · go_wp2_with (at_make; refine wpList_make_row _ rfl (.tmp 42) 36 rfl 3 i3 _ Tryd.underlying36 hi hz0 hz1 .i64 _ 0 rfl rfl (by rw [hz2]; omega) (by unfold maxLen; omega) w.heap.size w (by exact Below.refl _ _) (Nat.le_refl _) ?_; intro w1 cur1 hl1 hg1 hb1 _ hs1; obtain ⟨w2, hcp, hg2, hb2, hs2⟩ := copy_first (P := Tryd.prog) 36 3 3 w.heap.size 0 c0 w.heap.size w (some x0) cur1 [] Tryd.underlying36 size3 hg1 hl1 rfl (fun h => by omega) (fun v hv => by cases hv) hb1 (Nat.le_refl _))
      go_meet
      case rel => exact ⟨_, _, rfl, hb2⟩
  obtain ⟨aa, ca, rfl, hb⟩ := hcut
  go_upto_if 49 with fail
  go_cut [1] (fun s1 wd => ∃ ab cb, s1 = .slice ab 0 cb ∧ Below w.heap.size w wd)
  case first =>
    rcases a1 with _ | x1
    · go_wp2
      go_meet
      case rel => exact ⟨_, _, rfl, hb⟩
    · go_wp2_with (at_make; refine wpList_make_row _ rfl (.tmp 51) 37 rfl 40 i40 _ Tryd.underlying37 gi gz0 gz1 .i64 _ 0 rfl rfl (by rw [gz2]; omega) (by unfold maxLen; omega) w.heap.size w hb hb.size ?_; intro w1 cur1 hl1 hg1 hb1 _ hs1; obtain ⟨w2, hcp, hg2, hb2, hs2⟩ := copy_first (P := Tryd.prog) 37 3 40 wc.heap.size 0 c1 w.heap.size w (some x1) cur1 [] Tryd.underlying37 size40 hg1 hl1 rfl (fun h => by omega) (fun v hv => by cases hv) hb1 hb.size)
      go_meet
      case rel => exact ⟨_, _, rfl, hb2⟩
  obtain ⟨ab, cb, rfl, hb'⟩ := hcut
  clear hb hi hz0 hz1 hz2 gi gz0 gz1 gz2
  go_wp2_with fail
  refine wp_loop_rounds 1 ?_
  rw [rounds_succ]
  by_cases hc0 : a2 < 0 ∨ 0 < a2
  · go_wp2_with (go_at_call 16; refine (chunksValid_none _ _ _ _ (fun _ => 0) (fun _ => 0) _).mono ?_; rintro e w' ⟨rfl, q, rfl⟩)
    all_goals
      go_ret
      exact ⟨rfl, below_drewN hb' q⟩
  obtain rfl : a2 = 0 := by omega
  clear hc0
  go_wp2_with (go_at_call 16; refine (chunksValid_none _ _ _ _ (fun _ => 0) (fun _ => 0) _).mono ?_; rintro e w' ⟨rfl, q, rfl⟩)
  refine (newLack_zero _ _ _ _ _).mono ?_
  rintro e w5 ⟨rfl, hrow5, hb5, _⟩
  have hB5 : Below w.heap.size w w5 := (below_drewN hb' q).trans (hb5.mono hb'.size)
  go_wp2_with fail
  refine (allSlots_zero _ w5 (hT.below hT.pos hB5) hrow5).mono ?_
  rintro e w6 ⟨ao, ca6, rfl, hb6⟩
  have hB6 : Below w.heap.size w w6 := hB5.trans (hb6.mono hB5.size)
  clear hb5 hb6 hrow5 hB5 hb'
  go_wp2_with fail
  go_cut [14] (fun s wx => ∃ ax cx, s = .slice ax 0 cx ∧ Below w.heap.size w wx)
  case first =>
    have hT6 := hT.below hT.pos hB6
    go_region_with (first
      | (go_at_call 18; refine (newLack_zero _ _ _ _ _).mono ?_; rintro e w7 ⟨rfl, hrow7, hb7, hs7⟩)
      | (go_at_call 17; refine (allSlots_zero _ w7 (TabAt.below (w := w6.drew) hT6 hT6.pos hb7) hrow7).mono ?_; rintro e w8 ⟨ao1, ca1, rfl, hb8⟩))
    have hB7 : Below w.heap.size w w7 := hB6.drew.trans (hb7.mono hB6.size)
    have hB8 : Below w.heap.size w w8 := hB7.trans (hb8.mono hB7.size)
    go_wp2
    go_meet
    case rel => exact ⟨_, _, rfl, hB8⟩
  obtain ⟨ao1, ca1, rfl, hB8⟩ := hcut
  go_wp2_with fail
  go_cut [15] (fun s wy => ∃ ax cx, s = .slice ax 0 cx ∧ Below w.heap.size w wy)
  case first =>
    have hT6 := hT.below hT.pos hB8
    go_region_with (first
      | (go_at_call 18; refine (newLack_zero _ _ _ _ _).mono ?_; rintro e w7 ⟨rfl, hrow7, hb7, hs7⟩)
      | (go_at_call 17; refine (allSlots_zero _ w7 (TabAt.below (w := wc.drew) hT6 hT6.pos hb7) hrow7).mono ?_; rintro e w8 ⟨ao2, ca2, rfl, hb8⟩))
    have hB7 : Below w.heap.size w w7 := hB8.drew.trans (hb7.mono hB8.size)
    have hB9 : Below w.heap.size w w8 := hB7.trans (hb8.mono hB7.size)
    go_wp2
    go_meet
    case rel => exact ⟨_, _, rfl, hB9⟩
  obtain ⟨ao2, ca2, rfl, hB9⟩ := hcut
  go_wp2_with fail
  refine wp_loop_rounds 1 ?_
  rw [rounds_succ]
  go_wp2_with fail
  refine wp_loop_rounds 1 ?_
  rw [rounds_succ]
  go_wp2_with fail
  refine wp_loop_rounds 1 ?_
  rw [rounds_succ]
  go_wp2_with fail
  go_ret
  exact ⟨rfl, hB9⟩
end Go.Proofs.Qxb6614702aDoor

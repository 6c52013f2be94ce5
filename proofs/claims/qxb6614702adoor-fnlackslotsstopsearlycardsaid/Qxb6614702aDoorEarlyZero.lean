/-
  THE WALK of FnLackSlotsStopsEarly where there is no chunk, and where a length refuses.
-/
import Derived.Test.Qxb6614702aDoorEarly
namespace Go.Proofs.Qxb6614702aDoor.early
open Go.RowKit

theorem newLack_zero (aa ab : Option Addr) (ca cb : Nat) (w : World) :
    Calls Tryd.prog 18 #[.slice aa 0 ca, .slice ab 0 cb] w fun e w' => e = .returned (.agg #[.slice (some ⟨w.heap.size + 1, 0, none⟩) 0 0]) ∧ ChunkRow w' (w.heap.size + 1) 0 (fun _ => 0) (fun _ => 0) ∧ Below w.heap.size w w' ∧ w.heap.size + 1 < w'.heap.size :=
  newLack_any aa ab ca cb 0 (fun _ => 0) (fun _ => 0) w (by omega) (.inl rfl) (.inl rfl)
theorem allSlots_zero (g : Nat) (w : World) (hT : TabAt w) (hrow : ChunkRow w g 0 (fun _ => 0) (fun _ => 0)) :
    Calls Tryd.prog 17 #[.agg #[.slice (some ⟨g, 0, none⟩) 0 0]] w fun e w' => ∃ ao c, e = .returned (.slice ao 0 c) ∧ Below w.heap.size w w' := by
  refine (allSlots_any g 0 (fun _ => 0) (fun _ => 0) w (by omega) (fun i hi => by omega) (by simp [chunks, slots]) hT hrow).mono ?_
  rintro e w' ⟨ao, c, rfl, _, hb⟩
  exact ⟨ao, c, rfl, hb⟩

theorem firstSlots_zero (g : Nat) (lim : Int) (w : World) (hl : 1 ≤ lim) (hT : TabAt w) (hrow : ChunkRow w g 0 (fun _ => 0) (fun _ => 0)) :
    Calls Tryd.prog 20 #[.agg #[.slice (some ⟨g, 0, none⟩) 0 0], .int .i64 lim] w fun e w' => ∃ ao c, e = .returned (.slice ao 0 c) ∧ Below w.heap.size w w' := by
  refine (firstSlots_any g 0 lim (fun _ => 0) (fun _ => 0) w (by omega) (fun i hi => by omega) (by simp [chunks, slots]) hl hT hrow).mono ?_
  rintro e w' ⟨ao, c, rfl, _, hb⟩
  exact ⟨ao, c, by simp [chunks, slots], hb⟩

set_option maxRecDepth 100000 in
set_option maxHeartbeats 1000000 in
theorem early_out (a0 a1 : Option Addr) (l0 c0 l1 c1 : Nat) (a2 : Int) (w : World) (h0 : l0 ≤ maxLen) (h1 : l1 ≤ maxLen) (h : 4096 < l0 ∨ 4096 < l1 ∨ l0 ≠ l1) :
    Calls Tryd.prog 6 #[.slice a0 l0 c0, .slice a1 l1 c1, .int .i64 a2] w fun e w' => e = .returned (.bool true) ∧ Below w.heap.size w w' := by
  have g0 := h0
  have g1 := h1
  unfold maxLen at g0 g1
  by_cases ha : 4096 < l0
  · go_enter Tryd.func6, Tryd.ntmps6
    go_wp2_with (go_at_call 19; refine (bytes_early _ _ _ _ _ _ _ _ h0 h1).mono ?_; rintro e w' ⟨b, rfl, rfl⟩)
    all_goals
      go_ret
      exact ⟨rfl, Below.refl _ _⟩
  by_cases hb : 4096 < l1
  · go_enter Tryd.func6, Tryd.ntmps6
    go_wp2_with (go_at_call 19; refine (bytes_early _ _ _ _ _ _ _ _ h0 h1).mono ?_; rintro e w' ⟨b, rfl, rfl⟩)
    all_goals
      go_ret
      exact ⟨rfl, Below.refl _ _⟩
  have hne : ((l0 : Int) != (l1 : Int)) = true := by simp; omega
  clear h
  go_enter Tryd.func6, Tryd.ntmps6
  go_wp2_with (go_at_call 19; refine (bytes_early _ _ _ _ _ _ _ _ h0 h1).mono ?_; rintro e w' ⟨b, rfl, rfl⟩)
  all_goals
    go_ret
    exact ⟨rfl, Below.refl _ _⟩

set_option maxRecDepth 100000 in
set_option maxHeartbeats 4000000 in
theorem early_zero (a0 a1 : Option Addr) (c0 c1 : Nat) (a2 : Int) (w : World) (hT : TabAt w) (h2 : a2 ≤ 9223372036854775807) :
    Calls Tryd.prog 6 #[.slice a0 0 c0, .slice a1 0 c1, .int .i64 a2] w fun e w' => e = .returned (.bool true) ∧ Below w.heap.size w w' := by
  obtain ⟨i3, hi, hz0, hz1, hz2⟩ := info_parts info3
  obtain ⟨i40, gi, gz0, gz1, gz2⟩ := info_parts info40
  have hvz : validB (fun _ => 0) (fun _ => 0) 0 = true := rfl
  go_enter Tryd.func6, Tryd.ntmps6
  go_upto_if 37 with (go_at_call 19; refine (bytes_early _ _ _ _ _ _ _ _ (by unfold maxLen; omega) (by unfold maxLen; omega)).mono ?_; rintro e w' ⟨b, rfl, rfl⟩)
  · go_wp2
    go_ret
    exact ⟨rfl, Below.refl _ _⟩
  go_cut [0] (fun s0 wc => ∃ aa ca, s0 = .slice aa 0 ca ∧ Below w.heap.size w wc)
  case first =>
    rcases a0 with _ | x0
    · go_wp2
      go_meet
      case rel => exact ⟨_, _, rfl, Below.refl _ _⟩
    · go_wp2_with (at_make; refine wpList_make_row _ rfl (.tmp 39) 36 rfl 3 i3 _ Tryd.underlying36 hi hz0 hz1 .i64 _ 0 rfl rfl (by rw [hz2]; omega) (by unfold maxLen; omega) w.heap.size w (by exact Below.refl _ _) (Nat.le_refl _) ?_; intro w1 cur1 hl1 hg1 hb1 _ hs1; obtain ⟨w2, hcp, hg2, hb2, hs2⟩ := copy_first (P := Tryd.prog) 36 3 3 w.heap.size 0 c0 w.heap.size w (some x0) cur1 [] Tryd.underlying36 size3 hg1 hl1 rfl (fun h => by omega) (fun v hv => by cases hv) hb1 (Nat.le_refl _))
      go_meet
      case rel => exact ⟨_, _, rfl, hb2⟩
  obtain ⟨aa, ca, rfl, hb⟩ := hcut
  go_upto_if 46 with fail
  go_cut [1] (fun s1 wd => ∃ ab cb, s1 = .slice ab 0 cb ∧ Below w.heap.size w wd)
  case first =>
    rcases a1 with _ | x1
    · go_wp2
      go_meet
      case rel => exact ⟨_, _, rfl, hb⟩
    · go_wp2_with (at_make; refine wpList_make_row _ rfl (.tmp 48) 37 rfl 40 i40 _ Tryd.underlying37 gi gz0 gz1 .i64 _ 0 rfl rfl (by rw [gz2]; omega) (by unfold maxLen; omega) w.heap.size w hb hb.size ?_; intro w1 cur1 hl1 hg1 hb1 _ hs1; obtain ⟨w2, hcp, hg2, hb2, hs2⟩ := copy_first (P := Tryd.prog) 37 3 40 wc.heap.size 0 c1 w.heap.size w (some x1) cur1 [] Tryd.underlying37 size40 hg1 hl1 rfl (fun h => by omega) (fun v hv => by cases hv) hb1 hb.size)
      go_meet
      case rel => exact ⟨_, _, rfl, hb2⟩
  obtain ⟨ab, cb, rfl, hb'⟩ := hcut
  clear hb hi hz0 hz1 hz2 gi gz0 gz1 gz2
  go_wp2_with fail
  refine wp_loop_rounds 1 ?_
  rw [rounds_succ]
  by_cases hc0 : a2 < 1
  · go_wp2_with (go_at_call 16; refine (chunksValid_none _ _ _ _ (fun _ => 0) (fun _ => 0) _).mono ?_; rintro e w' ⟨rfl, q, rfl⟩)
    go_ret
    exact ⟨rfl, below_drewN hb' q⟩
  go_wp2_with (go_at_call 16; refine (chunksValid_none _ _ _ _ (fun _ => 0) (fun _ => 0) _).mono ?_; rintro e w' ⟨rfl, q, rfl⟩)
  refine (newLack_zero _ _ _ _ _).mono ?_
  rintro e w5 ⟨rfl, hrow5, hb5, hs5⟩
  have hB5 : Below w.heap.size w w5 := (below_drewN hb' q).trans (hb5.mono hb'.size)
  have hsz5 : wc.heap.size + 1 < w5.heap.size := hs5
  go_wp2_with fail
  have hW5 : Below w.heap.size w (w5.alloc (.cells #[.slice (some ⟨wc.heap.size + 1, 0, none⟩) 0 0] 45)) := hB5.alloc hB5.size _
  have hbox := World.cell?_alloc_at (w := w5) #[.slice (some ⟨wc.heap.size + 1, 0, none⟩) 0 0] 45 w5.heap.size 0 rfl
  have hrow := hrow5.keep (KeepT.alloc 56 w5 (.cells #[.slice (some ⟨wc.heap.size + 1, 0, none⟩) 0 0] 45))
  have hsz : w5.heap.size < (w5.alloc (.cells #[.slice (some ⟨wc.heap.size + 1, 0, none⟩) 0 0] 45)).heap.size := by simp
  generalize w5.alloc (.cells #[.slice (some ⟨wc.heap.size + 1, 0, none⟩) 0 0] 45) = W5 at hW5 hbox hrow hsz ⊢
  clear hb5 hrow5 hs5 hB5 hb'
  refine (firstSlots_zero _ a2 W5 (by omega) (hT.below hT.pos hW5) hrow).mono ?_
  rintro e w6 ⟨ao, ca6, rfl, hb6⟩
  have hW6 : Below w.heap.size w w6 := hW5.trans (hb6.mono hW5.size)
  have hbox6 : w6.cell? ⟨w5.heap.size, 0, none⟩ = some (.slice (some ⟨wc.heap.size + 1, 0, none⟩) 0 0) := (hb6.cell (p := ⟨w5.heap.size, 0, none⟩) hsz).trans hbox
  have hrow6 : ChunkRow w6 (wc.heap.size + 1) 0 (fun _ => 0) (fun _ => 0) := by
    obtain ⟨cur, h1, h3⟩ := hrow
    exact ⟨cur, (hb6.block _ (by omega)).trans h1, h3⟩
  clear hrow hbox hW5 hb6
  go_wp2_with fail
  refine (allSlots_zero _ w6 (hT.below hT.pos hW6) hrow6).mono ?_
  rintro e w7 ⟨ao1, ca1, rfl, hb7⟩
  have hW7 : Below w.heap.size w w7 := hW6.trans (hb7.mono hW6.size)
  clear hb7 hbox6 hrow6 hW6
  go_wp2_with fail
  refine wp_loop_rounds 1 ?_
  rw [rounds_succ]
  go_wp2_with fail
  go_quiet (fail)
  go_wp2
  go_ret
  exact ⟨rfl, below_drewN hW7 _⟩
end Go.Proofs.Qxb6614702aDoor.early

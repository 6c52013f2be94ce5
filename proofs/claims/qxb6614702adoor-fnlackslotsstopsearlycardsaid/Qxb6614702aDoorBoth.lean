/-
  WALKS: ZZallSlots, ZZfirstSlots.
-/
import Derived.Test.Qxb6614702aDoorSlots
namespace Go.Proofs.Qxb6614702aDoor
open Go.RowKit

theorem TabAt.below {B : Nat} {w w' : World} (h : TabAt w) (hB : 0 < B) (hb : Below B w w') : TabAt w' := fun j hj => (hb.cell (p := ⟨0, j, none⟩) hB).trans (h j hj)
theorem TabAt.pos {w : World} (h : TabAt w) : 0 < w.heap.size := block_lt_of_cell (h 0 (by omega))

theorem Collected.alloc {n₀ Bx : Nat} {l : List Int} {W : World} (h : Collected n₀ Bx l W) (o : Obj) : Collected n₀ Bx l (W.alloc o) := by
  obtain ⟨v, h1, h2, h3, h4⟩ := h
  exact ⟨v, h1.alloc o, h2.alloc o, by simp; omega, h4⟩
theorem Collected.drewN {n₀ Bx : Nat} {l : List Int} {W : World} (h : Collected n₀ Bx l W) (q : Nat) : Collected n₀ Bx l (W.drewN q) := h

theorem start_all (w : World) (o : Obj) : Collected (w.heap.size + 1) (w.heap.size + 1 + 1) [] (((w.alloc o).alloc (.cells #[] 3)).alloc (.cells #[.slice (some ⟨w.heap.size + 1, 0, none⟩) 0 0] 36)) := by
  refine ⟨_, by have h := Boxed.new ((w.alloc o).alloc (.cells #[] 3)) 36 (.slice (some ⟨w.heap.size + 1, 0, none⟩) 0 0); simpa using h, ?_, by simp, by omega⟩
  have h := (World.ownsRow_lit (base := w.heap.size + 1) (e := 3) (size := 1) (w.alloc o) #[] 0 (by simp) (by unfold maxLen; omega) (by simp)).alloc (.cells #[.slice (some ⟨w.heap.size + 1, 0, none⟩) 0 0] 36)
  simpa using h
theorem start_first (w : World) (o o2 : Obj) : Collected (w.heap.size + 1 + 1) (w.heap.size + 1 + 1 + 1) [] ((((w.alloc o).alloc o2).alloc (.cells #[] 3)).alloc (.cells #[.slice (some ⟨w.heap.size + 1 + 1, 0, none⟩) 0 0] 36)) := by
  have h := start_all (w.alloc o) o2
  simpa using h

set_option maxHeartbeats 400000 in
theorem allSlots_any (g n : Nat) (A : Nat → Int) (B : Nat → Nat) (w : World) (hn : n ≤ 4096) (hva : ∀ i, i < n → 0 ≤ A i ∧ A i < 16777216 ∧ B i < 18446744073709551616)
    (hlen : (slots (chunks A B n)).length ≤ 1048576) (hT : TabAt w) (hrow : ChunkRow w g n A B) :
    Calls Tryd.prog 17 #[.agg #[.slice (some ⟨g, 0, none⟩) n n]] w fun e w' => ∃ ao c, e = .returned (.slice ao (slots (chunks A B n)).length c) ∧
      IntsAt w' .i64 ao (slots (chunks A B n)).length (fun i => (slots (chunks A B n)).getD i 0) ∧ Below w.heap.size w w' := by
  go_enter Tryd.func17, Tryd.ntmps17
  go_wp2_with fail
  refine (slots_all (fun l W => Collected (w.heap.size + 1) (w.heap.size + 1 + 1) l W ∧ Below w.heap.size w W) (fun _ _ => False) (w.heap.size + 1 + 1) g n A B _ hn hva ?_ ?_ ?_ ?_ ?_ ?_).mono ?_
  · exact fun l W o h => ⟨h.1.alloc o, h.2.alloc h.2.size o⟩
  · exact fun l W q h => ⟨h.1.drewN q, below_drewN h.2 q⟩
  · exact fun l W h => hT.below hT.pos h.2
  · intro l x W h hp
    have hl : l.length ≤ 1048576 := by have := hp.length_le; simp at this; omega
    refine (yieldAll_any _ _ x l W h.1 hl).mono ?_
    rintro e W' ⟨rfl, hc, hk, hb⟩
    exact ⟨true, rfl, fun _ => ⟨⟨hc, h.2.trans (hb.mono (by omega))⟩, hk⟩, fun h => by cases h⟩
  · exact hrow.keep (((KeepT.alloc 56 w _).trans (KeepT.alloc 56 _ _)).trans (KeepT.alloc 56 _ _))
  · exact ⟨start_all w _, (((Below.refl _ _).alloc (Nat.le_refl _) _).alloc (by simp) _).alloc (by simp; omega) _⟩
  rintro e W' ⟨rfl, ⟨⟨v, hv, hr, _, _⟩, hb⟩ | ⟨_, _, h⟩⟩
  · obtain ⟨ao, c, rfl, hints⟩ := intsAt_ownsRow hr
    have hc := hv.cell
    go_wp2
    go_ret
    exact ⟨ao, c, rfl, hints, hb⟩
  · exact h.elim

set_option maxHeartbeats 400000 in
theorem firstSlots_any (g n : Nat) (lim : Int) (A : Nat → Int) (B : Nat → Nat) (w : World) (hn : n ≤ 4096) (hva : ∀ i, i < n → 0 ≤ A i ∧ A i < 16777216 ∧ B i < 18446744073709551616)
    (hlen : (slots (chunks A B n)).length ≤ 1048576) (hlim : 1 ≤ lim) (hT : TabAt w) (hrow : ChunkRow w g n A B) :
    Calls Tryd.prog 20 #[.agg #[.slice (some ⟨g, 0, none⟩) n n], .int .i64 lim] w fun e w' => ∃ ao c, e = .returned (.slice ao ((slots (chunks A B n)).take lim.toNat).length c) ∧
      IntsAt w' .i64 ao ((slots (chunks A B n)).take lim.toNat).length (fun i => ((slots (chunks A B n)).take lim.toNat).getD i 0) ∧ Below w.heap.size w w' := by
  go_enter Tryd.func20, Tryd.ntmps20
  go_wp2_with fail
  refine (slots_first (fun l W => Collected (w.heap.size + 1 + 1) (w.heap.size + 1 + 1 + 1) l W ∧ Below w.heap.size w W ∧ W.cell? ⟨w.heap.size + 1, 0, none⟩ = some (.int .i64 lim) ∧ (l.length : Int) < lim)
    (fun l W => Collected (w.heap.size + 1 + 1) (w.heap.size + 1 + 1 + 1) l W ∧ Below w.heap.size w W ∧ (l.length : Int) = lim) (w.heap.size + 1 + 1 + 1) (w.heap.size + 1) g n A B _ hn hva ?_ ?_ ?_ ?_ ?_ ?_).mono ?_
  · rintro l W o ⟨h1, h2, h3, h4⟩
    refine ⟨h1.alloc o, h2.alloc h2.size o, ?_, h4⟩
    rw [World.cell?_alloc_past _ _ _ (by obtain ⟨_, _, _, h, _⟩ := h1; omega)]
    exact h3
  · rintro l W q ⟨h1, h2, h3, h4⟩
    exact ⟨h1.drewN q, below_drewN h2 q, h3, h4⟩
  · rintro l W ⟨h1, h2, h3, h4⟩
    exact hT.below hT.pos h2
  · rintro l x W ⟨h1, h2, h3, h4⟩ hp
    have hl : l.length ≤ 1048576 := by have := hp.length_le; simp at this; omega
    refine (yieldFirst_any _ _ _ x lim l W h1 h3 (by omega) hl).mono ?_
    rintro e W' ⟨rfl, hc, hk, hb⟩
    refine ⟨_, rfl, fun h => ?_, fun h => ?_⟩
    · simp only [decide_eq_true_eq] at h
      exact ⟨⟨hc, h2.trans (hb.mono (by omega)), (hb.cell (p := ⟨w.heap.size + 1, 0, none⟩) (by simp)).trans h3, by simpa using h⟩, hk⟩
    · simp only [decide_eq_false_iff_not] at h
      exact ⟨hc, h2.trans (hb.mono (by omega)), by simp; omega⟩
  · exact hrow.keep ((((KeepT.alloc 56 w _).trans (KeepT.alloc 56 _ _)).trans (KeepT.alloc 56 _ _)).trans (KeepT.alloc 56 _ _))
  · refine ⟨start_first w _ _, ((((Below.refl _ _).alloc (Nat.le_refl _) _).alloc (by simp) _).alloc (by simp; omega) _).alloc (by simp; omega) _, ?_, by simp; omega⟩
    rw [World.cell?_alloc_past _ _ _ (by simp), World.cell?_alloc_past _ _ _ (by simp), World.cell?_alloc_at _ _ _ _ (by simp)]
    rfl
  rintro e W' ⟨rfl, ⟨⟨v, hv, hr, _, _⟩, hb, _, hlt⟩ | ⟨pre, hpre, ⟨v, hv, hr, _, _⟩, hb, heq⟩⟩
  · obtain ⟨ao, c, rfl, hints⟩ := intsAt_ownsRow hr
    have hc := hv.cell
    have ht : (slots (chunks A B n)).take lim.toNat = slots (chunks A B n) := List.take_of_length_le (by omega)
    have Ht : Hid ((slots (chunks A B n)).take lim.toNat = slots (chunks A B n)) := ht
    clear ht
    go_wp2
    go_ret
    rw [Ht.out]
    exact ⟨ao, c, rfl, hints, hb⟩
  · obtain ⟨ao, c, rfl, hints⟩ := intsAt_ownsRow hr
    have hc := hv.cell
    have ht : pre = (slots (chunks A B n)).take lim.toNat := by
      have h := List.prefix_iff_eq_take.1 hpre
      have : pre.length = lim.toNat := by omega
      rw [← this]; exact h
    have Ht : Hid (pre = (slots (chunks A B n)).take lim.toNat) := ht
    clear ht heq
    go_wp2
    go_ret
    rw [← Ht.out]
    exact ⟨ao, c, rfl, hints, hb⟩
end Go.Proofs.Qxb6614702aDoor

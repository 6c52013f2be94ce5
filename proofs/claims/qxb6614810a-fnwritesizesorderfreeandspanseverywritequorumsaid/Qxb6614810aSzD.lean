/-
  WALKS: ZZreadWriteWithWrites, ReadWrite.WriteSizes.
-/
import Derived.Test.Qxb6614810aSzC
namespace Go.Proofs.Qxb6614810a
open Go.RowKit

theorem info67 : (Try.prog.info? 67).map (fun i => (i.zero, i.size, i.bytes)) = some (some (.agg #[.int .i32 0, .int .i32 0, .int .i32 0]), 3, 12) := by kernel_rfl

theorem wpList_make_row3 {P : Program} (w : World) {ops : Array Oper} {rest : List Oper} {o : Oper} {a : Act} {Q : Exit → Act → World → Prop}
    (hg : o.guard = none) (l : Operand) (t : TypeId) (hop : o.op = Op.makeSlice t l l)
    (e : TypeId) (i : TypeInfo) (z : Value) (h1 : P.underlying t = some (.slice e)) (h2 : P.info? e = some i) (h3 : i.zero = some z) (h4 : i.size = 3)
    (kl : IntKind) (L : Int) (n : Nat) (hl : a.eval l = .int kl L) (hL : L = (n : Int)) (b2 : i.bytes * n ≤ 281474976710656) (b3 : n ≤ maxLen)
    (hK : ∀ (w' : World) (cur : List Value), cur.length = n * 3 → Hid (w'.heap[w.heap.size]? = some (.cells cur.toArray e (0, 0))) → Below w.heap.size w w' → w.heap.size < w'.heap.size →
      wpList P ops Q rest (a.put o.dst (.slice (some ⟨w.heap.size, 0, none⟩) n n)) w') :
    wpList P ops Q (o :: rest) a w := by
  refine wpList_make_full w hg l l t hop w.heap.size e i z 3 h1 h2 h3 h4 kl kl L L n hl hl hL hL b2 b3 (Nat.le_refl _) ?_
  intro w' hown hgrow
  have hbel : Below w.heap.size w w' := (Below.refl _ _).grown hgrow (Nat.le_refl _) (fun _ h => by cases h)
  rcases hown.2 with ⟨h, _⟩ | ⟨g, cap, cur, h, _, hgg, _, _, hcs, _⟩
  · cases h
  · simp only [Value.slice.injEq, Option.some.injEq, Addr.mk.injEq, and_true, true_and] at h
    obtain ⟨rfl, rfl⟩ := h
    exact hK w' cur.toList (by simpa using hcs) (show _ = _ by simpa using hgg) hbel (lt_of_block hgg)

/-- A row of places of which the first t have been laid. -/
def Laid3 (w : World) (g n t : Nat) (Bk F R : Nat → Nat) : Prop := ∃ c : List Value, c.length = n * 3 ∧ w.heap[g]? = some (.cells c.toArray 67 (0, 0)) ∧
  ∀ j, j < t → c[j * 3]? = some (.int .i32 (Bk j : Int)) ∧ c[j * 3 + 1]? = some (.int .i32 (F j : Int)) ∧ c[j * 3 + 2]? = some (.int .i32 (R j : Int))
theorem Laid3.step {w : World} {g n t : Nat} {Bk F R : Nat → Nat} (h : Laid3 w g n t Bk F R) (ht : t < n) :
    Laid3 (((w.setCell ⟨g, t * 3, none⟩ (.int .i32 (Bk t : Int))).setCell ⟨g, t * 3 + 1, none⟩ (.int .i32 (F t : Int))).setCell ⟨g, t * 3 + 2, none⟩ (.int .i32 (R t : Int))) g n (t + 1) Bk F R := by
  obtain ⟨c, h1, h2, h3⟩ := h
  have e1 := heap_setCell_same w g (t * 3) c.toArray 67 (.int .i32 (Bk t : Int)) h2
  have e2 := heap_setCell_same _ g (t * 3 + 1) _ 67 (.int .i32 (F t : Int)) e1
  have e3 := heap_setCell_same _ g (t * 3 + 2) _ 67 (.int .i32 (R t : Int)) e2
  refine ⟨((c.set (t * 3) (.int .i32 (Bk t : Int))).set (t * 3 + 1) (.int .i32 (F t : Int))).set (t * 3 + 2) (.int .i32 (R t : Int)), by simpa using h1, by rw [e3]; simp, fun j hj => ?_⟩
  by_cases e : j = t
  · subst e
    simp only [List.getElem?_set, List.length_set]
    refine ⟨?_, ?_, ?_⟩
    · rw [if_neg (by omega), if_neg (by omega), if_pos trivial, if_pos (by omega)]
    · rw [if_neg (by omega), if_pos trivial, if_pos (by omega)]
    · rw [if_pos trivial, if_pos (by omega)]
  · have := h3 j (by omega)
    simp only [List.getElem?_set, List.length_set]
    refine ⟨?_, ?_, ?_⟩
    · rw [if_neg (by omega), if_neg (by omega), if_neg (by omega)]; exact this.1
    · rw [if_neg (by omega), if_neg (by omega), if_neg (by omega)]; exact this.2.1
    · rw [if_neg (by omega), if_neg (by omega), if_neg (by omega)]; exact this.2.2
theorem Laid3.cell {w : World} {g n t : Nat} {Bk F R : Nat → Nat} (h : Laid3 w g n t Bk F R) {i : Nat} (hi : i < n * 3) : (∃ u, w.cell? ⟨g, i, none⟩ = some u) ∧ w.frozen? ⟨g, i, none⟩ = false := by
  obtain ⟨c, h1, h2, h3⟩ := h
  rw [cell_of_row _ _ _ _ _ _ h2, List.getElem?_toArray, List.getElem?_eq_getElem (by omega)]
  exact ⟨⟨_, rfl⟩, frozen_of_row _ _ _ _ _ h2⟩

/-- What a slice of blocks holds. -/
structure BlocksAt (w : World) (ab : Option Addr) (nb : Nat) (AB : Nat → Option Addr) (LB CB : Nat → Nat) (X : Nat → Nat → Nat) : Prop where
  rowB : RowAt w ab nb fun i => .slice (AB i) (LB i) (CB i)
  rows : ∀ i, i < nb → RowAt w (AB i) (LB i) fun c => .int .u64 (X i c : Int)
  cap : ∀ i, i < nb → LB i ≤ CB i
  small : ∀ i, i < nb → LB i ≤ 1048576
  word : ∀ i c, X i c < 18446744073709551616
  nbl : nb ≤ 1048576
theorem BlocksAt.below {B : Nat} {w w' : World} {ab : Option Addr} {nb : Nat} {AB : Nat → Option Addr} {LB CB : Nat → Nat} {X : Nat → Nat → Nat}
    (h : BlocksAt w ab nb AB LB CB X) (hB : w.heap.size ≤ B) (hb : Below B w w') : BlocksAt w' ab nb AB LB CB X :=
  { h with
    rowB := h.rowB.below hB hb
    rows := fun i hi => (h.rows i hi).below hB hb }

set_option maxRecDepth 100000 in
set_option maxHeartbeats 1000000 in
theorem rw_any (ae a1 a2 a3 ab : Option Addr) (ne ce np c1 c2 c3 nb cb : Nat) (Bk F R : Nat → Nat) (AB : Nat → Option Addr) (LB CB : Nat → Nat) (X : Nat → Nat → Nat) (w : World) (hnp : np ≤ 1048576)
    (r1 : RowAt w a1 np fun i => .int .i32 (Bk i : Int)) (r2 : RowAt w a2 np fun i => .int .i32 (F i : Int)) (r3 : RowAt w a3 np fun i => .int .i32 (R i : Int)) (hbl : BlocksAt w ab nb AB LB CB X) (hfit : PFit np nb Bk F R LB X) :
    Calls Try.prog 20 #[.slice ae ne ce, .slice a1 np c1, .slice a2 np c2, .slice a3 np c3, .slice ab nb cb] w fun e w' => ∃ p, e = .returned (.pointer (some ⟨p, 0, none⟩)) ∧ w'.cell? ⟨p, 0, none⟩ = some (.slice ae ne ce) ∧
      SetsAt w' p 4 w.heap.size np ab nb cb Bk F R AB LB CB X ∧ Below w.heap.size w w' := by
  obtain ⟨i67, hi67, z67, s67, y67⟩ := info_parts info67
  go_enter Try.func20, Try.ntmps20
  go_wp2_with (refine wpList_make_row3 w rfl _ 65 rfl 67 i67 _ Try.underlying65 hi67 z67 s67 .i64 (np : Int) np rfl rfl (by rw [y67]; omega) (by unfold maxLen; omega) ?_; intro w1 cur hcl hblk hbel hlt)
  go_loopw [18] (fun i wx => ∃ k : Nat, k ≤ np ∧ i = .int .i64 k ∧ Laid3 wx w.heap.size np k Bk F R ∧ Below w.heap.size w wx) (fun i _ => np - (intOf i).toNat)
  case atStart => exact ⟨0, Nat.zero_le _, rfl, ⟨cur, hcl, hblk, fun _ h => by omega⟩, hbel⟩
  case round =>
    obtain ⟨k, hk, rfl, hL, hbx⟩ := hrel
    by_cases hlt' : k < np
    · obtain ⟨b1, o1, rfl, hb1, hc1⟩ := r1.pos (by omega)
      obtain ⟨b2, o2, rfl, hb2, hc2⟩ := r2.pos (by omega)
      obtain ⟨b3, o3, rfl, hb3, hc3⟩ := r3.pos (by omega)
      have g1 := (hbx.cell (p := ⟨b1, o1 + k, none⟩) hb1).trans (hc1 k hlt')
      have g2 := (hbx.cell (p := ⟨b2, o2 + k, none⟩) hb2).trans (hc2 k hlt')
      have g3 := (hbx.cell (p := ⟨b3, o3 + k, none⟩) hb3).trans (hc3 k hlt')
      obtain ⟨⟨u0, q0⟩, p0⟩ := hL.cell (i := k * 3) (by omega)
      obtain ⟨⟨u1, q1⟩, p1⟩ := hL.cell (i := k * 3 + 1) (by omega)
      obtain ⟨⟨u2, q2⟩, p2⟩ := hL.cell (i := k * 3 + 2) (by omega)
      have hst := hL.step hlt'
      have hbb := ((hbx.setCell (p := ⟨w.heap.size, k * 3, none⟩) (Nat.le_refl _) (.int .i32 (Bk k : Int))).setCell (p := ⟨w.heap.size, k * 3 + 1, none⟩) (Nat.le_refl _) (.int .i32 (F k : Int))).setCell (p := ⟨w.heap.size, k * 3 + 2, none⟩) (Nat.le_refl _) (.int .i32 (R k : Int))
      clear hL r1 r2 r3 hc1 hc2 hc3 hblk hbel hlt
      go_wp2
      go_region
      all_goals
        go_wp2
        exact ⟨⟨k + 1, by omega, by simp, hst, ⟨hbb.os, hbb.tape, hbb.output, hbb.size, hbb.block⟩⟩, by simp [intOf]; omega⟩
    · obtain rfl : k = np := by omega
      clear r1 r2 r3 hblk hbel hlt
      go_wp2
      go_ret
      have hb2 : Below w.heap.size w (wr.alloc (.cells #[.slice ae ne ce, .slice none 0 0, .slice none 0 0, .bool false, .slice (some ⟨w.heap.size, 0, none⟩) k k, .slice ab nb cb, .bool true, .slice none 0 0] 72)) := hbx.alloc hbx.size _
      have hb1 := hbl.below (Nat.le_refl _) hb2
      have hnew := World.alloc_heap_new wr (.cells #[.slice ae ne ce, .slice none 0 0, .slice none 0 0, .bool false, .slice (some ⟨w.heap.size, 0, none⟩) k k, .slice ab nb cb, .bool true, .slice none 0 0] 72)
      have hll : w.heap.size < wr.heap.size := by obtain ⟨c, _, h2, _⟩ := hL; exact lt_of_block h2
      have hL2 : Laid3 (wr.alloc (.cells #[.slice ae ne ce, .slice none 0 0, .slice none 0 0, .bool false, .slice (some ⟨w.heap.size, 0, none⟩) k k, .slice ab nb cb, .bool true, .slice none 0 0] 72)) w.heap.size k k Bk F R := by
        obtain ⟨c, h1, h2, h3⟩ := hL
        exact ⟨c, h1, (Below.heap_alloc wr _ _ hll).trans h2, h3⟩
      generalize wr.alloc (.cells #[.slice ae ne ce, .slice none 0 0, .slice none 0 0, .bool false, .slice (some ⟨w.heap.size, 0, none⟩) k k, .slice ab nb cb, .bool true, .slice none 0 0] 72) = w4 at hb2 hb1 hnew hL2 ⊢
      obtain ⟨c, h1, h2, h3⟩ := hL2
      refine ⟨wr.heap.size, rfl, by rw [cell_of_row _ _ _ _ _ _ hnew]; rfl, ⟨by rw [cell_of_row _ _ _ _ _ _ hnew]; rfl, by rw [cell_of_row _ _ _ _ _ _ hnew]; rfl, ?_, ?_, ?_, lt_of_block h2, lt_of_block hnew, hb1.rowB, hb1.rows, hb1.cap, hb1.small, hb1.word, hnp, hb1.nbl, hfit⟩, hb2⟩
      · intro j hj; rw [cell_of_row _ _ _ _ _ _ h2, List.getElem?_toArray]; exact (h3 j hj).1
      · intro j hj; rw [cell_of_row _ _ _ _ _ _ h2, List.getElem?_toArray]; exact (h3 j hj).2.1
      · intro j hj; rw [cell_of_row _ _ _ _ _ _ h2, List.getElem?_toArray]; exact (h3 j hj).2.2

set_option maxRecDepth 100000 in
set_option maxHeartbeats 1000000 in
theorem ws_any (ae ab : Option Addr) (p pg ne ce np nb cb : Nat) (Bk F R : Nat → Nat) (AB : Nat → Option Addr) (LB CB : Nat → Nat) (X : Nat → Nat → Nat) (w : World) (he : w.cell? ⟨p, 0, none⟩ = some (.slice ae ne ce)) (h : SetsAt w p 4 pg np ab nb cb Bk F R AB LB CB X) :
    Calls Try.prog 21 #[.pointer (some ⟨p, 0, none⟩)] w fun e w' => e = .returned (.tuple #[.int .i64 (mnS (cntAt X Bk F R) ne np : Int), .int .i64 (mxS (cntAt X Bk F R) np : Int)]) ∧ Below w.heap.size w w' := by
  have hcall := sizes_any ne p 4 pg np ab nb cb Bk F R AB LB CB X w.drew (h.below (Nat.le_refl _) ⟨rfl, rfl, rfl, Nat.le_refl _, fun _ _ => rfl⟩)
  go_enter Try.func21, Try.ntmps21
  go_wp2
  go_region_with (go_at_call 30; refine hcall.mono ?_; rintro e w' ⟨rfl, hb⟩)
  all_goals
    go_wp2
    refine bodyPost_ret (results_tmp2 rfl _ _ _) rfl ⟨rfl, ⟨hb.os, hb.tape, hb.output, hb.size, hb.block⟩⟩
end Go.Proofs.Qxb6614810a

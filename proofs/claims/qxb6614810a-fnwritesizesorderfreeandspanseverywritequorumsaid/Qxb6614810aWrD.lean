/-
  THE WALK of FnWritesCutAtAnySetJoins.
-/
import Derived.Test.Qxb6614810aWrC
namespace Go.Proofs.Qxb6614810a
open Go.RowKit

theorem info3 : (Try.prog.info? 3).map (fun i => (i.zero, i.size, i.bytes)) = some (some (.int .i64 0), 1, 8) := by kernel_rfl
theorem info21 : (Try.prog.info? 21).map (fun i => (i.zero, i.size, i.bytes)) = some (some (.int .i32 0), 1, 4) := by kernel_rfl
theorem size9 : (Try.prog.info? 9).map (·.size) = some 1 := by kernel_rfl
theorem size21 : (Try.prog.info? 21).map (·.size) = some 1 := by kernel_rfl
theorem size3 : (Try.prog.info? 3).map (·.size) = some 1 := by kernel_rfl

theorem start_nonneg {D E : Nat → Int} {nn nd ne : Nat} (F : Fit D E nn nd ne) : ∀ j, j ≤ ne → 0 ≤ startOf E j
  | 0, _ => by simp [startOf]
  | j + 1, hj => by
    have h1 := start_nonneg F j (by omega)
    have h2 := F.mono j (by omega)
    show 0 ≤ E j
    omega
theorem rows_of {w : World} {aa ab ac : Option Addr} {nn nd cb ne : Nat} {N : Nat → ByteArray} {D E : Nat → Int} (F : Fit D E nn nd ne) (hcb : nd ≤ cb)
    (hA : RowAt w aa nn fun i => .string (N i)) (hB : RowAt w ab nd fun i => .int .i32 (D i)) (hC : RowAt w ac ne fun i => .int .i64 (E i)) :
    ∃ D' P : Nat → Nat, Rows3 w aa ab ac nn nd cb ne N D' P := by
  refine ⟨fun p => (D p).toNat, fun j => (startOf E j).toNat, hA, ?_, ?_, hcb, rfl, ?_, ?_, ?_⟩
  · rcases hB with h | ⟨b, o, h1, h2, h3⟩
    · exact .inl h
    · refine .inr ⟨b, o, h1, h2, fun i hi => ?_⟩
      rw [h3 i hi]
      show some (Value.int .i32 (D i)) = some (Value.int .i32 ((D i).toNat : Int))
      rw [Int.toNat_of_nonneg (F.ids i hi).1]
  · rcases hC with h | ⟨b, o, h1, h2, h3⟩
    · exact .inl h
    · refine .inr ⟨b, o, h1, h2, fun i hi => ?_⟩
      have this : 0 ≤ E i := start_nonneg F (i + 1) (by omega)
      rw [h3 i hi]
      show some (Value.int .i64 (E i)) = some (Value.int .i64 ((E i).toNat : Int))
      rw [Int.toNat_of_nonneg this]
  · intro j hj
    have := F.mono j hj
    show (startOf E j).toNat ≤ (E j).toNat
    omega
  · have := F.last
    show (startOf E ne).toNat = nd
    omega
  · intro p hp
    have := F.ids p hp
    show (D p).toNat < nn
    omega

theorem Rows3.below {w w' : World} {an ai ae : Option Addr} {nn nd cd ne : Nat} {N : Nat → ByteArray} {D P : Nat → Nat} (h : Rows3 w an ai ae nn nd cd ne N D P) (hb : Below w.heap.size w w') : Rows3 w' an ai ae nn nd cd ne N D P :=
  ⟨h.rowN.below (Nat.le_refl _) hb, h.rowD.below (Nat.le_refl _) hb, h.rowE.below (Nat.le_refl _) hb, h.cap, h.zero, h.mono, h.last, h.within⟩
theorem Rows3.rise {w : World} {an ai ae : Option Addr} {nn nd cd ne : Nat} {N : Nat → ByteArray} {D P : Nat → Nat} (h : Rows3 w an ai ae nn nd cd ne N D P) (i : Nat) : ∀ k, i + k ≤ ne → P i ≤ P (i + k)
  | 0, _ => Nat.le_refl _
  | k + 1, hk => Nat.le_trans (h.rise i k (by omega)) (h.mono (i + k) (by omega))
theorem ListsAt.below {w w' : World} {ao : Option Addr} {n : Nat} {ln : Nat → Nat} {S : Nat → Nat → ByteArray} (h : ListsAt w ao n ln S) (hb : Below w.heap.size w w') : ListsAt w' ao n ln S := by
  obtain ⟨g, h1, h2⟩ := h
  exact ⟨g, h1.below (Nat.le_refl _) hb, fun j hj => (h2 j hj).below (Nat.le_refl _) hb⟩

/-- A row of which the first t elements have been laid. -/
def LaidG (w : World) (g : Nat) (e : TypeId) (n t : Nat) (v : Nat → Value) : Prop := ∃ c : List Value, c.length = n ∧ w.heap[g]? = some (.cells c.toArray e (0, 0)) ∧ ∀ i, i < t → c[i]? = some (v i)
theorem LaidG.all {w : World} {g n : Nat} {e : TypeId} {v : Nat → Value} (h : LaidG w g e n n v) : RowAt w (some ⟨g, 0, none⟩) n v := by
  obtain ⟨c, h1, h2, h3⟩ := h
  refine .inr ⟨g, 0, rfl, lt_of_block h2, fun i hi => ?_⟩
  rw [Nat.zero_add, cell_of_row _ _ _ _ _ _ h2, List.getElem?_toArray]
  exact h3 i hi
theorem LaidG.step {w : World} {g n t : Nat} {e : TypeId} {v : Nat → Value} (h : LaidG w g e n t v) (ht : t < n) : LaidG (w.setCell ⟨g, t, none⟩ (v t)) g e n (t + 1) v := by
  obtain ⟨c, h1, h2, h3⟩ := h
  refine ⟨c.set t (v t), by simpa using h1, by rw [heap_setCell_same w g t c.toArray e _ h2]; simp, fun i hi => ?_⟩
  rw [List.getElem?_set]
  by_cases e : t = i
  · subst e; rw [if_pos rfl, if_pos (by omega)]
  · rw [if_neg e]; exact h3 i (by omega)
theorem LaidG.cell {w : World} {g n t : Nat} {e : TypeId} {v : Nat → Value} (h : LaidG w g e n t v) {i : Nat} (hi : i < n) : (∃ u, w.cell? ⟨g, i, none⟩ = some u) ∧ w.frozen? ⟨g, i, none⟩ = false := by
  obtain ⟨c, h1, h2, h3⟩ := h
  rw [cell_of_row _ _ _ _ _ _ h2, List.getElem?_toArray, List.getElem?_eq_getElem (by omega)]
  exact ⟨⟨_, rfl⟩, frozen_of_row _ _ _ _ _ h2⟩

/-- The first t sets: the ids cut there. -/
theorem Rows3.head {w : World} {an ai ae ae' : Option Addr} {nn nd cd ne t : Nat} {N : Nat → ByteArray} {D P : Nat → Nat} (h : Rows3 w an ai ae nn nd cd ne N D P) (ht : t ≤ ne) (hE : RowAt w ae' t (fun j => .int .i64 (P (j + 1) : Int))) : Rows3 w an ai ae' nn (P t) cd t N D P := by
  have hle : P t ≤ nd := by have := h.rise t (ne - t) (by omega); rw [show t + (ne - t) = ne by omega, h.last] at this; exact this
  exact ⟨h.rowN, h.rowD.less hle, hE, Nat.le_trans hle h.cap, h.zero, fun j hj => h.mono j (by omega), rfl, fun p hp => h.within p (by omega)⟩
/-- The other sets: the ids from there on. -/
theorem Rows3.tail {w : World} {an ai ai' ae ae' : Option Addr} {nn nd cd cd' ne t : Nat} {N : Nat → ByteArray} {D P : Nat → Nat} (h : Rows3 w an ai ae nn nd cd ne N D P) (ht : t ≤ ne) (hcd : nd - P t ≤ cd')
    (hD : RowAt w ai' (nd - P t) (fun i => .int .i32 (D (P t + i) : Int))) (hE : RowAt w ae' (ne - t) (fun j => .int .i64 ((P (t + j + 1) - P t : Nat) : Int))) :
    Rows3 w an ai' ae' nn (nd - P t) cd' (ne - t) N (fun i => D (P t + i)) (fun j => P (t + j) - P t) := by
  have hle : P t ≤ nd := by have := h.rise t (ne - t) (by omega); rw [show t + (ne - t) = ne by omega, h.last] at this; exact this
  refine ⟨h.rowN, hD, hE, hcd, by simp, fun j hj => ?_, ?_, fun p hp => h.within _ (by omega)⟩
  · have := h.mono (t + j) (by omega)
    show P (t + j) - P t ≤ P (t + j + 1) - P t
    omega
  · show P (t + (ne - t)) - P t = nd - P t
    rw [show t + (ne - t) = ne by omega, h.last]

theorem RowAt.at {w : World} {g n : Nat} {v : Nat → Value} (h : RowAt w (some ⟨g, 0, none⟩) n v) {i : Nat} (hi : i < n) : w.cell? ⟨g, i, none⟩ = some (v i) := by
  obtain ⟨b, o, e, _, hc⟩ := h.pos (by omega)
  simp only [Option.some.injEq, Addr.mk.injEq, and_true] at e
  obtain ⟨rfl, rfl⟩ := e
  have := hc i hi
  rwa [Nat.zero_add] at this
theorem ListsAt.drewN {w : World} {ao : Option Addr} {n : Nat} {ln : Nat → Nat} {S : Nat → Nat → ByteArray} (h : ListsAt w ao n ln S) (q : Nat) : ListsAt (w.drewN q) ao n ln S := h
theorem ListsAt.same {w : World} {ao : Option Addr} {n : Nat} {ln ln' : Nat → Nat} {S S' : Nat → Nat → ByteArray} (h : ListsAt w ao n ln S) (h1 : ∀ j, j < n → ln j = ln' j) (h2 : ∀ j i, j < n → i < ln j → S j i = S' j i) : ListsAt w ao n ln' S' := by
  obtain ⟨g, r, s⟩ := h
  refine ⟨g, ?_, fun j hj => ?_⟩
  · rcases r with r | ⟨b, o, r1, r2, r3⟩
    · exact .inl r
    · refine .inr ⟨b, o, r1, r2, fun i hi => ?_⟩
      have e := h1 i hi
      rw [r3 i hi]
      show some (Value.slice (some ⟨g i, 0, none⟩) (ln i) (ln i)) = some (Value.slice (some ⟨g i, 0, none⟩) (ln' i) (ln' i))
      rw [e]
  · rcases s j hj with r | ⟨b, o, r1, r2, r3⟩
    · exact .inl (by rw [← h1 j hj]; exact r)
    · refine .inr ⟨b, o, r1, r2, fun i hi => ?_⟩
      rw [← h1 j hj] at hi
      have e := h2 j i hj hi
      rw [r3 i hi]
      show some (Value.string (S j i)) = some (Value.string (S' j i))
      rw [e]

set_option maxRecDepth 100000 in
set_option maxHeartbeats 8000000 in
theorem writes_walk (a0 a1 a2 : Option Addr) (n0 c0 n1 c1 n2 c2 : Nat) (c : Int) (N : Nat → ByteArray) (D E : Nat → Int) (w : World)
    (h0 : n0 ≤ 131072) (h1 : n1 ≤ 131072) (h2 : n2 ≤ 131072) (hcap : n1 ≤ c1) (hN : ∀ i, i < n0 → (N i).size ≤ maxLen) (hD : ∀ i, i < n1 → -2147483648 ≤ D i ∧ D i ≤ 2147483647)
    (hA : RowAt w a0 n0 fun i => .string (N i)) (hB : RowAt w a1 n1 fun i => .int .i32 (D i)) (hC : RowAt w a2 n2 fun i => .int .i64 (E i))
    (hc1 : -9223372036854775808 ≤ c) (hc2 : c ≤ 9223372036854775807) :
    Calls Try.prog 5 #[.slice a0 n0 c0, .slice a1 n1 c1, .slice a2 n2 c2, .int .i64 c] w fun e w' => e = .returned (.bool true) ∧ Below w.heap.size w w' := by
  obtain ⟨i9, hi, hz0, hz1, hz2⟩ := info_parts info9
  obtain ⟨i21, gi, gz0, gz1, gz2⟩ := info_parts info21
  obtain ⟨i3, ki, kz0, kz1, kz2⟩ := info_parts info3
  go_enter Try.func5, Try.ntmps5
  go_upto_if 48 with (go_at_call 13; refine (bytes_writes a0 a1 a2 n0 c0 n1 c1 n2 c2 c N w (by unfold maxLen; omega) (by unfold maxLen; omega) (by unfold maxLen; omega) hN hA).mono ?_; rintro e w' ⟨⟨b, rfl, hbs⟩, rfl⟩)
  · go_wp2
    go_ret
    exact ⟨rfl, Below.refl _ _⟩
  have hbt : (!b) = false := by assumption
  have hN2 := hbs (by simpa using hbt)
  clear hbt
  clear hbs hN
  go_cut [0] from 28 to 55 (fun s0 wc => ∃ aa ca, s0 = .slice aa n0 ca ∧ RowAt wc aa n0 (fun i => .string (N i)) ∧ Below w.heap.size w wc)
  case first =>
    rcases a0 with _ | x0
    · go_wp2
      go_meet
      case rel => exact ⟨_, _, rfl, hA, Below.refl _ _⟩
    · go_wp2_with (at_make; refine wpList_make_row _ rfl (.tmp 50) 31 rfl 9 i9 _ Try.underlying31 hi hz0 hz1 .i64 _ n0 rfl rfl (by rw [hz2]; omega) (by unfold maxLen; omega) w.heap.size w (by exact Below.refl _ _) (Nat.le_refl _) ?_; intro w1 cur1 hl1 hg1 hb1 _ hs1; obtain ⟨w2, hcp, hg2, hb2, hs2⟩ := copy_first (P := Try.prog) 31 3 9 w.heap.size n0 c0 w.heap.size w (some x0) cur1 ((List.range n0).map fun i => .string (N i)) Try.underlying31 size9 hg1 hl1 (by simp) (hA.src (Nat.le_refl _) hb1) (one_of _ (fun _ => rfl) _) hb1 (Nat.le_refl _))
      go_meet
      case rel => exact ⟨_, _, rfl, RowAt.made hg2.out, hb2⟩
  obtain ⟨aa, ca, rfl, hA1, hbA⟩ := hcut
  go_upto_if 57 with fail
  go_cut [1] from 28 to 64 (fun s0 wd => ∃ ab cb, s0 = .slice ab n1 cb ∧ n1 ≤ cb ∧ RowAt wd ab n1 (fun i => .int .i32 (D i)) ∧ Below wc.heap.size wc wd)
  case first =>
    have hB1 := hB.below (Nat.le_refl _) hbA
    rcases a1 with _ | x0
    · go_wp2
      go_meet
      case rel => exact ⟨_, _, rfl, hcap, hB1, Below.refl _ _⟩
    · go_wp2_with (at_make; refine wpList_make_row _ rfl (.tmp 59) 32 rfl 21 i21 _ Try.underlying32 gi gz0 gz1 .i64 _ n1 rfl rfl (by rw [gz2]; omega) (by unfold maxLen; omega) wc.heap.size wc (by exact Below.refl _ _) (Nat.le_refl _) ?_; intro w1 cur1 hl1 hg1 hb1 _ hs1; obtain ⟨w2, hcp, hg2, hb2, hs2⟩ := copy_first (P := Try.prog) 32 3 21 wc.heap.size n1 c1 wc.heap.size wc (some x0) cur1 ((List.range n1).map fun i => .int .i32 (D i)) Try.underlying32 size21 hg1 hl1 (by simp) (hB1.src (Nat.le_refl _) hb1) (one_of _ (fun _ => rfl) _) hb1 (Nat.le_refl _))
      go_meet
      case rel => exact ⟨_, _, rfl, Nat.le_refl _, RowAt.made hg2.out, hb2⟩
  obtain ⟨ab, cb, rfl, hcb, hB1, hbB⟩ := hcut
  have hA2 := hA1.below (Nat.le_refl _) hbB
  have hbB' : Below w.heap.size w wc := hbA.trans (hbB.mono hbA.size)
  clear hA1 hbA hbB hA hB hcap
  go_upto_if 66 with fail
  go_cut [2] from 28 to 73 (fun s0 wd => ∃ ac cc, s0 = .slice ac n2 cc ∧ RowAt wd ac n2 (fun i => .int .i64 (E i)) ∧ Below wc.heap.size wc wd)
  case first =>
    have hC1 := hC.below (Nat.le_refl _) hbB'
    rcases a2 with _ | x0
    · go_wp2
      go_meet
      case rel => exact ⟨_, _, rfl, hC1, Below.refl _ _⟩
    · go_wp2_with (at_make; refine wpList_make_row _ rfl (.tmp 68) 23 rfl 3 i3 _ Try.underlying23 ki kz0 kz1 .i64 _ n2 rfl rfl (by rw [kz2]; omega) (by unfold maxLen; omega) wc.heap.size wc (by exact Below.refl _ _) (Nat.le_refl _) ?_; intro w1 cur1 hl1 hg1 hb1 _ hs1; obtain ⟨w2, hcp, hg2, hb2, hs2⟩ := copy_first (P := Try.prog) 23 3 3 wc.heap.size n2 c2 wc.heap.size wc (some x0) cur1 ((List.range n2).map fun i => .int .i64 (E i)) Try.underlying23 size3 hg1 hl1 (by simp) (hC1.src (Nat.le_refl _) hb1) (one_of _ (fun _ => rfl) _) hb1 (Nat.le_refl _))
      go_meet
      case rel => exact ⟨_, _, rfl, RowAt.made hg2.out, hb2⟩
  obtain ⟨ac, cc, rfl, hC1, hbC⟩ := hcut
  have hA3 := hA2.below (Nat.le_refl _) hbC
  have hB3 := hB1.below (Nat.le_refl _) hbC
  have hb3 : Below w.heap.size w wc := hbB'.trans (hbC.mono hbB'.size)
  clear hA2 hB1 hbB' hbC hC hi hz0 hz1 hz2 gi gz0 gz1 gz2
  by_cases h8 : 1048576 < 8 * (n0 + n1 + n2)
  · go_wp2
    go_ret
    exact ⟨rfl, hb3⟩
  go_wp2_with fail
  go_loopw [12, 13] (fun z i wx => ∃ (k : Nat) (s : Int), k ≤ n0 ∧ wx = wc ∧ i = .int .i64 k ∧ z = .int .i64 s ∧ 0 ≤ s ∧ s ≤ 1048576) (fun _ i _ => n0 - (intOf i).toNat)
  case atStart => exact ⟨0, _, by omega, rfl, rfl, rfl, by omega, by omega⟩
  case round =>
    obtain ⟨k, s, hk, rfl, rfl, rfl, hs0, hs1⟩ := hrel
    by_cases hlt : k < n0
    · obtain ⟨bn, on, rfl, _, hcn⟩ := hA3.pos (by omega)
      have hc := hcn k hlt
      have hsz := hN2 k hlt
      clear hcn
      by_cases hb2 : 1048576 < s + (N k).size
      · go_wp2
        go_ret
        exact ⟨rfl, hb3⟩
      go_wp2
      go_roundw
      case rel => exact ⟨k + 1, s + (N k).size, by omega, by first | rfl | trivial, by go_num, by go_num, by omega, by omega⟩
      case measure => simp [intOf]; omega
    · by_cases hc0 : c < 0 ∨ n2 < c
      · go_wp2
        all_goals
          go_ret
          exact ⟨rfl, hb3⟩
      obtain ⟨m, rfl⟩ := Int.eq_ofNat_of_zero_le (show 0 ≤ c by omega)
      have hmn : m ≤ n2 := by omega
      clear hc0
      go_wp2_with (go_at_call 14; refine (fit_any _ _ _ n0 _ n1 _ n2 _ D E wr h1 h2 hD hB3 hC1).mono ?_; rintro e w' ⟨⟨b2, rfl, hfit⟩, rfl⟩)
      · go_ret
        exact ⟨rfl, hb3⟩
      have hbt : (!b2) = false := by assumption
      obtain ⟨D', P, R⟩ := rows_of (hfit (by simpa using hbt)) hcb hA3 hB3 hC1
      clear hbt hfit hA3 hB3 hC1 hD hN2
      refine (desc_any _ _ _ _ _ _ _ _ _ _).mono ?_
      rintro e w1 ⟨rfl, e8, e9, e10, hbd, hsd⟩
      have hS := sets_of R e8 e9 e10 hbd
      go_wp2_with fail
      refine (writes_any _ _ _ _ _ _ _ _ _ _ N D' P w1 hS h0 h1 h2 hsd).mono ?_
      rintro e w2 ⟨rfl, hLw, hbw⟩
      have hbr : Below wr.heap.size wr w2 := hbd.trans (hbw.mono hbd.size)
      have R2 := R.below hbr
      have hb4 : Below w.heap.size w w2 := hb3.trans (hbr.mono hb3.size)
      clear hS e8 e9 e10 hbd hbw hsd hbr R hb3
      generalize w1.heap.size = gW at hLw ⊢
      have hPm : P m ≤ n1 := by have := R2.rise m (n2 - m) (by omega); rw [show m + (n2 - m) = n2 by omega, R2.last] at this; exact this
      go_upto_if 119 with fail
      go_cut [15] from 100 to 124 (fun s15 wd => s15 = .int .i64 (P m : Int) ∧ wd = w2)
      case first =>
        by_cases hm0 : m = 0
        · have HM : Hid (P m = 0) := by rw [hm0]; exact R2.zero
          have hd : decide (0 < m) = false := by simp [hm0]
          have hd2 : decide ((0 : Int) < (m : Int)) = false := by simp [hm0]
          have hnp : ¬ (0 < m) := by omega
          clear hm0
          go_wp2
          go_meet
          case rel => exact ⟨by rw [HM.out]; rfl, rfl⟩
        · have hd : decide (0 < m) = true := by simp; omega
          have hmp : 0 < m := by omega
          obtain ⟨be, oe, rfl, _, hce⟩ := R2.rowE.pos (by omega)
          have hcc : w2.cell? ⟨be, oe + (m - 1), none⟩ = some (.int .i64 (P m : Int)) := by have := hce (m - 1) (by omega); simp only [show m - 1 + 1 = m by omega] at this; exact this
          clear hce
          go_wp2
          go_meet
          case rel => exact ⟨rfl, rfl⟩
      obtain ⟨rfl, rfl⟩ := hcut
      go_wp2_with (at_make; refine wpList_make_row _ rfl (.tmp 125) 23 rfl 3 i3 _ Try.underlying23 ki kz0 kz1 .i64 _ m rfl rfl (by rw [kz2]; omega) (by unfold maxLen; omega) wc.heap.size wc (by exact Below.refl _ _) (Nat.le_refl _) ?_; intro w3 cur3 hl3 hg3 hb3 _ hs3)
      have hlaid : LaidG w3 wc.heap.size 3 m 0 (fun j => .int .i64 (P (j + 1) : Int)) := ⟨cur3, hl3, hg3.out, fun _ h => by omega⟩
      have R3 := R2.below hb3
      have hL3 := hLw.below hb3
      have hb5 : Below w.heap.size w w3 := hb4.trans (hb3.mono hb4.size)
      have hgA : wc.heap.size < w3.heap.size := hs3
      have hgw : w.heap.size ≤ wc.heap.size := hb4.size
      have hR3 : ∀ wi, Below wc.heap.size w3 wi → Rows3 wi aa ab ac n0 n1 cb n2 N D' P := fun wi hb => R2.below (hb3.trans hb)
      have hL3' : ∀ wi, Below wc.heap.size w3 wi → ListsAt wi (some ⟨gW, 0, none⟩) n2 (fun j => P (j + 1) - P j) (fun j i => N (D' (P j + i))) := fun wi hb => hLw.below (hb3.trans hb)
      have HR3 : Hid (∀ wi, Below wc.heap.size w3 wi → Rows3 wi aa ab ac n0 n1 cb n2 N D' P) := hR3
      have HL3 : Hid (∀ wi, Below wc.heap.size w3 wi → ListsAt wi (some ⟨gW, 0, none⟩) n2 (fun j => P (j + 1) - P j) (fun j i => N (D' (P j + i)))) := hL3'
      clear hR3 hL3' hL3 R3 hb3 hg3 hl3 hs3 hLw hb4
      generalize wc.heap.size = gA at hlaid hgA hgw HR3 HL3 ⊢
      go_loopw [17] (fun i wi => ∃ t : Nat, t ≤ m ∧ i = .int .i64 t ∧ LaidG wi gA 3 m t (fun j => .int .i64 (P (j + 1) : Int)) ∧ Below gA w3 wi) (fun i _ => m - (intOf i).toNat)
      case atStart => exact ⟨0, by omega, rfl, hlaid, Below.refl _ _⟩
      case round =>
        obtain ⟨t, ht, rfl, hlt2, hbi⟩ := hrel
        by_cases htm : t < m
        · obtain ⟨be, oe, rfl, _, hce⟩ := (HR3.out wr hbi).rowE.pos (by omega)
          have hcc := hce t (by omega)
          obtain ⟨⟨u, hc5⟩, hf5⟩ := hlt2.cell htm
          have hstep := hlt2.step htm
          clear hce
          go_wp2
          go_roundw
          case rel => exact ⟨t + 1, by omega, by go_num, hstep, hbi.setCell (Nat.le_refl _) _⟩
          case measure => simp [intOf]; omega
        · obtain rfl : t = m := by omega
          have hbW : Below w.heap.size w wr := hb5.trans (hbi.mono (by omega))
          have RW := HR3.out wr hbi
          have LW := HL3.out wr hbi
          have hEA := hlt2.all
          clear hlt2 hlaid HR3 HL3 hbi hb5 hgA hgw R2
          go_wp2_with (at_make; refine wpList_make_row _ rfl (.tmp 142) 23 rfl 3 i3 _ Try.underlying23 ki kz0 kz1 .i64 _ (n2 - t) rfl (by omega) (by rw [kz2]; omega) (by unfold maxLen; omega) wr.heap.size wr (by exact Below.refl _ _) (Nat.le_refl _) ?_; intro w4 cur4 hl4 hg4 hb4 _ hs4)
          have hlaid : LaidG w4 wr.heap.size 3 (n2 - t) 0 (fun j => .int .i64 ((P (t + j + 1) - P t : Nat) : Int)) := ⟨cur4, hl4, hg4.out, fun _ h => by omega⟩
          have hb5 : Below w.heap.size w w4 := hbW.trans (hb4.mono hbW.size)
          have hgB : wr.heap.size < w4.heap.size := hs4
          have hgw : w.heap.size ≤ wr.heap.size := hbW.size
          have HR3 : Hid (∀ wi, Below wr.heap.size w4 wi → Rows3 wi aa ab ac n0 n1 cb n2 N D' P) := fun wi hb => RW.below (hb4.trans hb)
          have HL3 : Hid (∀ wi, Below wr.heap.size w4 wi → ListsAt wi (some ⟨gW, 0, none⟩) n2 (fun j => P (j + 1) - P j) (fun j i => N (D' (P j + i)))) := fun wi hb => LW.below (hb4.trans hb)
          have HE3 : Hid (∀ wi, Below wr.heap.size w4 wi → RowAt wi (some ⟨gA, 0, none⟩) t (fun j => .int .i64 (P (j + 1) : Int))) := fun wi hb => hEA.below (Nat.le_refl _) (hb4.trans hb)
          have hrise : ∀ j, j < n2 - t → P t ≤ P (t + j + 1) := fun j hj => RW.rise t (j + 1) (by omega)
          have hrise2 : ∀ j, j < n2 - t → P (t + j + 1) ≤ n1 := fun j hj => by have := RW.rise (t + j + 1) (n2 - (t + j + 1)) (by omega); rw [show t + j + 1 + (n2 - (t + j + 1)) = n2 by omega, RW.last] at this; exact this
          clear hb4 hg4 hl4 hs4 RW LW hEA hbW
          generalize wr.heap.size = gB at hlaid hgB hgw HR3 HL3 HE3 ⊢
          go_loopw [19] (fun i wi => ∃ u : Nat, u ≤ n2 - t ∧ i = .int .i64 u ∧ LaidG wi gB 3 (n2 - t) u (fun j => .int .i64 ((P (t + j + 1) - P t : Nat) : Int)) ∧ Below gB w4 wi) (fun i _ => n2 - t - (intOf i).toNat)
          case atStart => exact ⟨0, by omega, rfl, hlaid, Below.refl _ _⟩
          case round =>
            obtain ⟨u, hu, rfl, hlt2, hbi⟩ := hrel
            by_cases hut : u < n2 - t
            · obtain ⟨be, oe, rfl, _, hce⟩ := (HR3.out wr hbi).rowE.pos (by omega)
              have hcc := hce (t + u) (by omega)
              obtain ⟨⟨x, hc5⟩, hf5⟩ := hlt2.cell hut
              have hr1 := hrise u hut
              have hr2 := hrise2 u hut
              have hstep : LaidG (wr.setCell ⟨gB, u, none⟩ (.int .i64 ((P (t + u + 1) : Int) - (P t : Int)))) gB 3 (n2 - t) (u + 1) (fun j => .int .i64 ((P (t + j + 1) - P t : Nat) : Int)) := by
                have h := hlt2.step hut
                simp only [show ((P (t + u + 1) - P t : Nat) : Int) = (P (t + u + 1) : Int) - (P t : Int) by omega] at h
                exact h
              clear hce
              go_wp2
              go_roundw
              case rel => exact ⟨u + 1, by omega, by go_num, hstep, hbi.setCell (Nat.le_refl _) _⟩
              case measure => simp [intOf]; omega
            · obtain rfl : u = n2 - t := by omega
              have hbW : Below w.heap.size w wr := hb5.trans (hbi.mono (by omega))
              have RW := HR3.out wr hbi
              have LW := HL3.out wr hbi
              have EW := HE3.out wr hbi
              have FW := hlt2.all
              clear hlt2 hlaid HR3 HL3 HE3 hbi hb5 hgB hgw hrise hrise2
              go_wp2_with fail
              refine (desc_any _ _ _ _ _ _ _ _ _ _).mono ?_
              rintro e w5 ⟨rfl, e8, e9, e10, hbd, hsd⟩
              have hS := sets_of (RW.head hmn EW) e8 e9 e10 hbd
              go_wp2_with fail
              refine (writes_any _ _ _ _ _ _ _ _ _ _ N D' P w5 hS h0 (by omega) (by omega) hsd).mono ?_
              rintro e w6 ⟨rfl, hLa, hba⟩
              have hbr : Below wr.heap.size wr w6 := hbd.trans (hba.mono hbd.size)
              have R6 := RW.below hbr
              have L6 := LW.below hbr
              have F6 := FW.below (Nat.le_refl _) hbr
              have hb6 : Below w.heap.size w w6 := hbW.trans (hbr.mono hbW.size)
              clear hS e8 e9 e10 hbd hba hsd hbr RW LW EW FW hbW
              generalize w5.heap.size = gL at hLa ⊢
              go_upto_region 45 with fail
              go_cut [1, 76, 21] from 161 to 174 (fun s1 _ s wd => s1 = .slice ab n1 cb ∧ ∃ gM, s = .slice (some ⟨gM, 0, none⟩) (n2 - t) (n2 - t) ∧ ListsAt wd (some ⟨gM, 0, none⟩) (n2 - t) (fun j => P (t + (j + 1)) - P t - (P (t + j) - P t)) (fun j i => N (D' (P t + (P (t + j) - P t + i)))) ∧ Below w6.heap.size w6 wd)
              case first =>
                have hD1 : RowAt w6 (Option.map (fun x => x.add (P t)) ab) (n1 - P t) (fun i => .int .i32 (D' (P t + i) : Int)) := R6.rowD.drop (by omega)
                have hcap := R6.cap
                by_cases hcp : cb = P t
                · have hn1 : n1 - P t = 0 := by omega
                  have hD2 : RowAt w6 ab (n1 - P t) (fun i => .int .i32 (D' (P t + i) : Int)) := .inl hn1
                  have HCP : Hid (cb = P t) := hcp
                  clear hn1
                  go_wp2_with fail
                  refine (desc_any _ _ _ _ _ _ _ _ _ _).mono ?_
                  rintro e w7 ⟨rfl, e8, e9, e10, hbd, hsd⟩
                  have hS := sets_of (R6.tail hmn (by omega) hD2 F6) e8 e9 e10 hbd
                  go_wp2_with fail
                  refine (writes_any _ _ _ _ _ _ _ _ _ _ N _ _ w7 hS h0 (by omega) (by omega) hsd).mono ?_
                  rintro e w8 ⟨rfl, hLb, hbb⟩
                  have hbr : Below w6.heap.size w6 w8 := hbd.trans (hbb.mono hbd.size)
                  clear hS e8 e9 e10 hbd hbb hsd
                  go_wp2
                  go_meet
                  case rel => exact ⟨by rw [HCP.out], _, rfl, hLb, hbr⟩
                · go_wp2_with fail
                  refine (desc_any _ _ _ _ _ _ _ _ _ _).mono ?_
                  rintro e w7 ⟨rfl, e8, e9, e10, hbd, hsd⟩
                  have hS := sets_of (R6.tail hmn (by omega) hD1 F6) e8 e9 e10 hbd
                  go_wp2_with fail
                  refine (writes_any _ _ _ _ _ _ _ _ _ _ N _ _ w7 hS h0 (by omega) (by omega) hsd).mono ?_
                  rintro e w8 ⟨rfl, hLb, hbb⟩
                  have hbr : Below w6.heap.size w6 w8 := hbd.trans (hbb.mono hbd.size)
                  clear hS e8 e9 e10 hbd hbb hsd
                  go_wp2
                  go_meet
                  case rel => exact ⟨rfl, _, rfl, hLb, hbr⟩
              obtain ⟨rfl, gM, rfl, hLb, hb7⟩ := hcut
              have R := R6.below hb7
              have LW := L6.below hb7
              have LA := hLa.below hb7
              have hbW : Below w.heap.size w wc := hb6.trans (hb7.mono hb6.size)
              have hup : ∀ j, j < n2 - t → P t ≤ P (t + j) := fun j hj => R.rise t j (by omega)
              have hmo : ∀ j, j < n2 → P j ≤ P (j + 1) ∧ P (j + 1) ≤ n1 := fun j hj => ⟨R.mono j hj, by have := R.rise (j + 1) (n2 - (j + 1)) (by omega); rw [show j + 1 + (n2 - (j + 1)) = n2 by omega, R.last] at this; exact this⟩
              have LB : ListsAt wc (some ⟨gM, 0, none⟩) (n2 - t) (fun j => P (t + j + 1) - P (t + j)) (fun j i => N (D' (P (t + j) + i))) := by
                refine hLb.same (fun j hj => ?_) (fun j i hj _ => ?_)
                · have := hup j hj
                  have := (hmo (t + j) (by omega)).1
                  show P (t + (j + 1)) - P t - (P (t + j) - P t) = P (t + j + 1) - P (t + j)
                  rw [← Nat.add_assoc]
                  omega
                · have := hup j hj
                  show N (D' (P t + (P (t + j) - P t + i))) = N (D' (P (t + j) + i))
                  rw [show P t + (P (t + j) - P t + i) = P (t + j) + i by omega]
              clear hLb hb7 hb6 hLa L6 R6 F6 hup ki kz0 kz1 kz2
              have e1 : ((n2 : Int) != (n2 : Int)) = false := by simp
              have e2 : ((t : Int) != (t : Int)) = false := by simp
              have e3 : (((n2 - t : Nat) : Int) != (n2 : Int) - (t : Int)) = false := by simp; omega
              go_wp2_with fail
              go_loopw [22] (fun i wx => ∃ j q : Nat, j ≤ t ∧ i = .int .i64 j ∧ Hid (wx = wc.drewN q)) (fun i _ => t - (intOf i).toNat)
              case atStart => exact ⟨0, 0, by omega, rfl, rfl⟩
              case round =>
                obtain ⟨j, q, hj, rfl, HW⟩ := hrel
                have LW1 : ListsAt wr (some ⟨gW, 0, none⟩) n2 (fun j => P (j + 1) - P j) (fun j i => N (D' (P j + i))) := by rw [HW.out]; exact LW
                have LA1 : ListsAt wr (some ⟨gL, 0, none⟩) t (fun j => P (j + 1) - P j) (fun j i => N (D' (P j + i))) := by rw [HW.out]; exact LA
                by_cases hjt : j < t
                · obtain ⟨gw, hgw, hsw⟩ := LW1
                  obtain ⟨ga, hga, hsa⟩ := LA1
                  have hx1 := hgw.at (i := j) (by omega)
                  have hx2 := hga.at (i := j) hjt
                  have hx3 := hsw j (by omega)
                  have hx4 := hsa j hjt
                  have hlen := hmo j (by omega)
                  have hjn : (j : Int) < (n2 : Int) := by omega
                  clear hgw hsw hga hsa
                  go_wp2
                  go_quiet ((go_at_call 17; exact Calls.quiet_of (same_any _ _ _ _ _ (fun i => N (D' (P j + i))) _ (by omega) (hx3.drewN _) (hx4.drewN _))))
                  go_wp2
                  go_roundw
                  case rel => exact ⟨j + 1, q + nq, by omega, by go_num, by rw [HW.out]; exact World.drewN_drewN _ _ _⟩
                  case measure => simp [intOf]; omega
                · clear LW1 LA1
                  go_wp2_with fail
                  go_loopw [23] (fun i wx => ∃ j q : Nat, j ≤ n2 - t ∧ i = .int .i64 j ∧ Hid (wx = wc.drewN q)) (fun i _ => n2 - t - (intOf i).toNat)
                  case atStart => exact ⟨0, q, by omega, rfl, HW⟩
                  case round =>
                    obtain ⟨j2, q2, hj2, rfl, HW2⟩ := hrel
                    have LW1 : ListsAt wr (some ⟨gW, 0, none⟩) n2 (fun j => P (j + 1) - P j) (fun j i => N (D' (P j + i))) := by rw [HW2.out]; exact LW
                    have LB1 : ListsAt wr (some ⟨gM, 0, none⟩) (n2 - t) (fun j => P (t + j + 1) - P (t + j)) (fun j i => N (D' (P (t + j) + i))) := by rw [HW2.out]; exact LB
                    by_cases hjt2 : j2 < n2 - t
                    · obtain ⟨gw, hgw, hsw⟩ := LW1
                      obtain ⟨ga, hga, hsa⟩ := LB1
                      have hx1 := hgw.at (i := t + j2) (by omega)
                      have hx2 := hga.at (i := j2) hjt2
                      have hx3 := hsw (t + j2) (by omega)
                      have hx4 := hsa j2 hjt2
                      have hlen := hmo (t + j2) (by omega)
                      have hjn : (t : Int) + (j2 : Int) < (n2 : Int) := by omega
                      have hjm : (j2 : Int) < ((n2 - t : Nat) : Int) := by omega
                      clear hgw hsw hga hsa
                      go_wp2
                      go_quiet ((go_at_call 17; exact Calls.quiet_of (same_any _ _ _ _ _ (fun i => N (D' (P (t + j2) + i))) _ (by omega) (hx3.drewN _) (hx4.drewN _))))
                      go_wp2
                      go_roundw
                      case rel => exact ⟨j2 + 1, q2 + nq, by omega, by go_num, by rw [HW2.out]; exact World.drewN_drewN _ _ _⟩
                      case measure => simp [intOf]; omega
                    · clear LW1 LB1
                      go_wp2_with fail
                      go_loopw [24, 25, 26, 27] (fun p z i _ wx => ∃ J q : Nat, J ≤ n2 ∧ i = .int .i64 J ∧ p = .int .i64 (P J : Int) ∧ z = .int .i64 (P J : Int) ∧ Hid (wx = wc.drewN q)) (fun _ _ i _ _ => n2 - (intOf i).toNat)
                      case atStart => exact ⟨0, q2, by omega, rfl, by rw [R.zero]; rfl, by rw [R.zero]; rfl, HW2⟩
                      case round =>
                        obtain ⟨J, q3, hJ, rfl, rfl, rfl, HW3⟩ := hrel
                        by_cases hJn : J < n2
                        · have LW1 : ListsAt wr (some ⟨gW, 0, none⟩) n2 (fun j => P (j + 1) - P j) (fun j i => N (D' (P j + i))) := by rw [HW3.out]; exact LW
                          obtain ⟨gw, hgw, hsw⟩ := LW1
                          have hx1 := hgw.at (i := J) hJn
                          have hx3 := hsw J hJn
                          obtain ⟨hlen1, hlen2⟩ := hmo J hJn
                          have R1 : Rows3 wr aa ab ac n0 n1 cb n2 N D' P := by rw [HW3.out]; exact ⟨R.rowN, R.rowD, R.rowE, R.cap, R.zero, R.mono, R.last, R.within⟩
                          obtain ⟨be, oe, rfl, _, hce⟩ := R1.rowE.pos (by omega)
                          have hx2 := hce J hJn
                          have hJi : (J : Int) < (n2 : Int) := by omega
                          have e4 : (((P (J + 1) - P J : Nat) : Int) != (P (J + 1) : Int) - (P J : Int)) = false := by simp; omega
                          clear hgw hsw hce
                          go_wp2
                          go_quiet (fail)
                          go_wp2_with fail
                          have hx1c : wc.cell? ⟨gW, J, none⟩ = some (.slice (some ⟨gw J, 0, none⟩) (P (J + 1) - P J) (P (J + 1) - P J)) := by have h := hx1; rw [HW3.out] at h; exact h
                          have hx2c : wc.cell? ⟨be, oe + J, none⟩ = some (.int .i64 (P (J + 1) : Int)) := by have h := hx2; rw [HW3.out] at h; exact h
                          have hx3c : RowAt wc (some ⟨gw J, 0, none⟩) (P (J + 1) - P J) (fun i => .string (N (D' (P J + i)))) := by have h := hx3; rw [HW3.out] at h; exact h
                          have HWn : Hid (wr.drewN nq = wc.drewN (q3 + nq)) := by rw [HW3.out]; exact World.drewN_drewN _ _ _
                          clear hx1 hx2 hx3 R1 HW3 e4
                          generalize wr.drewN nq = wn at HWn ⊢
                          go_loopw [24, 27] (fun p i wx => ∃ Q q : Nat, Q ≤ P (J + 1) - P J ∧ i = .int .i64 Q ∧ p = .int .i64 ((P J + Q : Nat) : Int) ∧ Hid (wx = wc.drewN q)) (fun _ i _ => P (J + 1) - P J - (intOf i).toNat)
                          case atStart => exact ⟨0, _, by omega, rfl, rfl, HWn⟩
                          case round =>
                            obtain ⟨Q, q4, hQ, rfl, rfl, HW4⟩ := hrel
                            have hy1 : wr.cell? ⟨gW, J, none⟩ = some (.slice (some ⟨gw J, 0, none⟩) (P (J + 1) - P J) (P (J + 1) - P J)) := by rw [HW4.out]; exact hx1c
                            by_cases hQl : Q < P (J + 1) - P J
                            · have hy2 : wr.cell? ⟨gw J, Q, none⟩ = some (.string (N (D' (P J + Q)))) := by rw [HW4.out]; exact hx3c.at hQl
                              obtain ⟨bi, oi, rfl, _, hci⟩ := R.rowD.pos (by omega)
                              have hy3 : wr.cell? ⟨bi, oi + (P J + Q), none⟩ = some (.int .i32 (D' (P J + Q) : Int)) := by rw [HW4.out]; exact hci (P J + Q) (by omega)
                              have hwi := R.within (P J + Q) (by omega)
                              obtain ⟨bn, on, rfl, _, hcn⟩ := R.rowN.pos (by omega)
                              have hy4 : wr.cell? ⟨bn, on + D' (P J + Q), none⟩ = some (.string (N (D' (P J + Q)))) := by rw [HW4.out]; exact hcn (D' (P J + Q)) hwi
                              have hq1 : (Q : Int) < ((P (J + 1) - P J : Nat) : Int) := by omega
                              have hq2 : ((P J + Q : Nat) : Int) < (n1 : Int) := by omega
                              have hq3 : (D' (P J + Q) : Int) < (n0 : Int) := by omega
                              clear hci hcn
                              go_wp2
                              go_quiet (fail)
                              go_wp2
                              go_roundw
                              case rel => exact ⟨Q + 1, q4 + nq, by omega, by go_num, by go_num, by rw [HW4.out]; exact World.drewN_drewN _ _ _⟩
                              case measure => simp [intOf]; omega
                            · obtain rfl : Q = P (J + 1) - P J := by omega
                              have hy2 : wr.cell? ⟨be, oe + J, none⟩ = some (.int .i64 (P (J + 1) : Int)) := by rw [HW4.out]; exact hx2c
                              go_wp2
                              go_roundw
                              case rel => exact ⟨J + 1, q4, by omega, by go_num, by rw [show P J + (P (J + 1) - P J) = P (J + 1) by omega], rfl, HW4⟩
                              case measure => simp [intOf]; omega
                        · go_wp2
                          go_ret
                          exact ⟨rfl, by rw [HW3.out]; exact below_drewN hbW _⟩

set_option maxRecDepth 100000 in
set_option maxHeartbeats 1000000 in
theorem writes_out (a0 a1 a2 : Option Addr) (n0 c0 n1 c1 n2 c2 : Nat) (c : Int) (N : Nat → ByteArray) (w : World) (h0 : n0 ≤ maxLen) (h1 : n1 ≤ maxLen) (h2 : n2 ≤ maxLen) (hN : ∀ i, i < n0 → (N i).size ≤ maxLen)
    (hA : RowAt w a0 n0 fun i => .string (N i)) (h : 131072 < n0 ∨ 131072 < n1 ∨ 131072 < n2) :
    Calls Try.prog 5 #[.slice a0 n0 c0, .slice a1 n1 c1, .slice a2 n2 c2, .int .i64 c] w fun e w' => e = .returned (.bool true) ∧ Below w.heap.size w w' := by
  have g0 := h0
  have g1 := h1
  have g2 := h2
  unfold maxLen at g0 g1 g2
  by_cases hx : 131072 < n0
  · go_enter Try.func5, Try.ntmps5
    go_wp2_with (go_at_call 13; refine (bytes_writes a0 a1 a2 n0 c0 n1 c1 n2 c2 c N w h0 h1 h2 hN hA).mono ?_; rintro e w' ⟨⟨b, rfl, hbs⟩, rfl⟩)
    all_goals
      go_ret
      exact ⟨rfl, Below.refl _ _⟩
  by_cases hy : 131072 < n1
  · go_enter Try.func5, Try.ntmps5
    go_wp2_with (go_at_call 13; refine (bytes_writes a0 a1 a2 n0 c0 n1 c1 n2 c2 c N w h0 h1 h2 hN hA).mono ?_; rintro e w' ⟨⟨b, rfl, hbs⟩, rfl⟩)
    all_goals
      go_ret
      exact ⟨rfl, Below.refl _ _⟩
  have hz : 131072 < n2 := by omega
  clear h
  go_enter Try.func5, Try.ntmps5
  go_wp2_with (go_at_call 13; refine (bytes_writes a0 a1 a2 n0 c0 n1 c1 n2 c2 c N w h0 h1 h2 hN hA).mono ?_; rintro e w' ⟨⟨b, rfl, hbs⟩, rfl⟩)
  all_goals
    go_ret
    exact ⟨rfl, Below.refl _ _⟩
end Go.Proofs.Qxb6614810a

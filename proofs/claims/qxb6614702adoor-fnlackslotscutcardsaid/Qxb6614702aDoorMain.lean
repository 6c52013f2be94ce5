/-
  THE WALK of FnLackSlotsCut.
-/
import Derived.Test.Qxb6614702aDoorBoth
import Derived.Test.Qxb6614702aDoorCopy
import Derived.Test.Qxb6614702aDoorFin
import Derived.Deep.DeepCutAuto
namespace Go.Proofs.Qxb6614702aDoor
open Go.RowKit

theorem info40 : (Tryd.prog.info? 40).map (fun i => (i.zero, i.size, i.bytes)) = some (some (.int .u64 0), 1, 8) := by kernel_rfl
theorem size3 : (Tryd.prog.info? 3).map (·.size) = some 1 := by kernel_rfl
theorem size40 : (Tryd.prog.info? 40).map (·.size) = some 1 := by kernel_rfl

theorem bytes_cut (a0 a1 : Option Addr) (l0 c0 l1 c1 : Nat) (a2 : Int) (w : World) (h0 : l0 ≤ maxLen) (h1 : l1 ≤ maxLen) :
    Calls Tryd.prog 14 #[.slice a0 l0 c0, .slice a1 l1 c1, .int .i64 a2] w fun e w' => ∃ b, e = .returned (.bool b) ∧ w = w' := by
  unfold maxLen at h0 h1
  go_enter Tryd.func14, Tryd.ntmps14
  go_wp2
  all_goals
    go_ret
    exact ⟨_, rfl, rfl⟩

theorem add_none (b o j : Nat) : (⟨b, o, none⟩ : Addr).add j = ⟨b, o + j, none⟩ := by unfold Addr.add; split <;> simp_all
theorem src_of {B : Nat} {w w' : World} {b o n : Nat} {f : Nat → Value} (hb : Below B w w') (hlt : b < B) (h : ∀ i, i < n → w.cell? ⟨b, o + i, none⟩ = some (f i)) :
    ∀ j v, ((List.range n).map f)[j]? = some v → w'.cell? ((⟨b, o, none⟩ : Addr).add j) = some v := by
  intro j v hj
  rw [List.getElem?_map, Option.map_eq_some_iff] at hj
  obtain ⟨a, ha, rfl⟩ := hj
  obtain ⟨hj, rfl⟩ := List.getElem?_eq_some_iff.1 ha
  simp only [List.length_range] at hj
  simp only [List.getElem_range]
  rw [add_none, hb.cell hlt]
  exact h j hj
theorem one_of (kd : IntKind) (f : Nat → Int) (n : Nat) : ∀ v ∈ (List.range n).map (fun i => Value.int kd (f i)), v.oneCell' = true := by
  intro v hv
  simp only [List.mem_map] at hv
  obtain ⟨i, _, rfl⟩ := hv
  rfl

theorem row_cell {w : World} {g n : Nat} {t : TypeId} {L : List Value} {f : Nat → Value} (h : w.heap[g]? = some (.cells L.toArray t (0, 0))) (hL : L = (List.range n).map f) {i : Nat} (hi : i < n) :
    w.cell? ⟨g, i, none⟩ = some (f i) := by
  subst hL
  rw [cell_of_row _ _ _ _ _ _ h]
  simp [hi]

theorem bit_test0 (x k : Nat) (hx : x < 18446744073709551616) (h : x.testBit k = true) : (bits BinOp.and IntKind.u64 ((x : Int) / 2 ^ k) 1 == 0) = false := by
  have e : ((x : Int) / 2 ^ k) = ((x / 2 ^ k : Nat) : Int) := by simp
  have hl : x / 2 ^ k < 18446744073709551616 := Nat.lt_of_le_of_lt (Nat.div_le_self _ _) hx
  rw [Nat.testBit_eq_decide_div_mod_eq] at h
  rw [e, show (1 : Int) = ((1 : Nat) : Int) from rfl, bits_and_u64_nat _ 1 hl (by decide), Nat.and_one_is_mod]
  simp only [decide_eq_true_eq] at h
  rw [h]
  rfl

def popsTo (B : Nat → Nat) : Nat → Nat
  | 0 => 0
  | k + 1 => popsTo B k + pop (B k)
theorem popsTo_eq (A : Nat → Int) (B : Nat → Nat) (k : Nat) : popsTo B k = (slots (chunks A B k)).length := by
  induction k with
  | zero => rfl
  | succ k ih => rw [popsTo, slots_succ, List.length_append, ih, slotsOf, List.length_map, pop_eq]

set_option maxRecDepth 100000 in
set_option maxHeartbeats 16000000 in
theorem cut_pos (ba oa bb ob c0 c1 n : Nat) (a2 : Int) (A : Nat → Int) (B : Nat → Nat) (w : World) (hn0 : 0 < n) (hn : n ≤ 4096) (hba : ba < w.heap.size) (hbb : bb < w.heap.size)
    (hA : ∀ i, i < n → w.cell? ⟨ba, oa + i, none⟩ = some (.int .i64 (A i))) (hB : ∀ i, i < n → w.cell? ⟨bb, ob + i, none⟩ = some (.int .u64 (B i : Int)))
    (hBw : ∀ i, i < n → B i < 18446744073709551616) (hT : TabAt w) (h2 : -9223372036854775808 ≤ a2) (h2' : a2 ≤ 9223372036854775807) :
    Calls Tryd.prog 5 #[.slice (some ⟨ba, oa, none⟩) n c0, .slice (some ⟨bb, ob, none⟩) n c1, .int .i64 a2] w fun e w' => e = .returned (.bool true) ∧ Below w.heap.size w w' := by
  obtain ⟨i3, hi, hz0, hz1, hz2⟩ := info_parts info3
  obtain ⟨i40, gi, gz0, gz1, gz2⟩ := info_parts info40
  go_enter Tryd.func5, Tryd.ntmps5
  go_wp2_with (first
    | (go_at_call 14; refine (bytes_cut _ _ _ _ _ _ _ _ (by unfold maxLen; omega) (by unfold maxLen; omega)).mono ?_; rintro e w' ⟨b, rfl, rfl⟩)
    | (at_make; refine wpList_make_row _ rfl (.tmp 42) 36 rfl 3 i3 _ Tryd.underlying36 hi hz0 hz1 .i64 _ n rfl rfl (by rw [hz2]; omega) (by unfold maxLen; omega) w.heap.size w (by exact Below.refl _ _) (Nat.le_refl _) ?_; intro w1 cur1 hl1 hg1 hb1 _ hs1; obtain ⟨w2, hcp, hg2, hb2, hs2⟩ := copy_first (P := Tryd.prog) 36 3 3 w.heap.size n c0 w.heap.size w _ cur1 ((List.range n).map fun i => .int .i64 (A i)) Tryd.underlying36 size3 hg1 hl1 (by simp) (fun _ => ⟨_, rfl, src_of hb1 hba hA⟩) (one_of _ _ _) hb1 (Nat.le_refl _))
    | (at_make; refine wpList_make_row _ rfl (.tmp 51) 37 rfl 40 i40 _ Tryd.underlying37 gi gz0 gz1 .i64 _ n rfl rfl (by rw [gz2]; omega) (by unfold maxLen; omega) w2.heap.size w2 (by exact Below.refl _ _) (Nat.le_refl _) ?_; intro w3 cur3 hl3 hg3 hb3 _ hs3; obtain ⟨w4, hcp4, hg4, hb4, hs4⟩ := copy_first (P := Tryd.prog) 37 3 40 w2.heap.size n c1 w2.heap.size w2 _ cur3 ((List.range n).map fun i => .int .u64 (B i : Int)) Tryd.underlying37 size40 hg3 hl3 (by simp) (fun _ => ⟨_, rfl, src_of (hb2.trans (hb3.mono (Nat.le_of_lt hs2))) hbb hB⟩) (one_of _ _ _) hb3 (Nat.le_refl _)))
  · go_ret
    exact ⟨rfl, Below.refl _ _⟩
  have hbel : Below w.heap.size w w4 := hb2.trans (hb4.mono (Nat.le_of_lt hs2))
  have hcA : ∀ i, i < n → w4.cell? ⟨w.heap.size, i, none⟩ = some (.int .i64 (A i)) := fun i hi => (hb4.cell hs2).trans (row_cell hg2.out rfl hi)
  have hcB : ∀ i, i < n → w4.cell? ⟨w2.heap.size, i, none⟩ = some (.int .u64 (B i : Int)) := fun i hi => row_cell hg4.out rfl hi
  clear hcp hcp4 hg1 hb1 hs1 hg2 hb2 hg3 hb3 hs3 hg4 hb4 hl1 hl3 hA hB
  generalize w2.heap.size = Bb at *
  clear hz0 hz1 hz2 hi gz0 gz1 gz2 gi
  go_loopw [9, 10, 11, 12] (fun m p i _ wr => ∃ k : Nat, k ≤ n ∧ wr = w4 ∧ i = .int .i64 k ∧ p = .int .i64 (popsTo B k) ∧ m = .int .i64 (16 * n + 8 * popsTo B k : Nat) ∧ 16 * n + 8 * popsTo B k ≤ 1048576) (fun _ _ i _ _ => n - (intOf i).toNat)
  case atStart => exact ⟨0, by omega, rfl, rfl, rfl, by simp [popsTo], by simp [popsTo]; omega⟩
  case round =>
    obtain ⟨k, hk, rfl, rfl, rfl, rfl, hle⟩ := hrel
    by_cases hlt : k < n
    · have hcell := hcB k hlt
      have hp := pop_le (B k)
      have hw := hBw k hlt
      go_wp2_with (go_at_call 15; refine (popcount_any (B k) hw _).mono ?_; rintro e w' ⟨rfl, hw'⟩; subst hw')
      · go_ret
        exact ⟨rfl, hbel⟩
      · go_roundw
        case rel =>
          refine ⟨k + 1, by omega, by first | rfl | trivial, by go_num, ?_, ?_, ?_⟩
          · simp [popsTo]
          · simp [popsTo]; omega
          · simp only [popsTo]; omega
        case measure => simp [intOf]; omega
    · obtain rfl : k = n := by omega
      have hiA : IntsAt wr .i64 (some ⟨w.heap.size, 0, none⟩) k A := .inr ⟨_, _, rfl, by omega, fun i hi => by rw [Nat.zero_add]; exact hcA i hi⟩
      have hiB : IntsAt wr .u64 (some ⟨Bb, 0, none⟩) k (fun i => (B i : Int)) := .inr ⟨_, _, rfl, hs4, fun i hi => by rw [Nat.zero_add]; exact hcB i hi⟩
      cases hv : validB A B k
      · go_wp2_with (go_at_call 16; refine (chunksValid_any _ _ _ _ _ A B _ hn hiA hiB).mono ?_; rintro e w' ⟨rfl, q, rfl⟩)
        go_ret
        exact ⟨rfl, below_drewN hbel q⟩
      by_cases hc0 : a2 < 0 ∨ k < a2
      · go_wp2_with (go_at_call 16; refine (chunksValid_any _ _ _ _ _ A B _ hn hiA hiB).mono ?_; rintro e w' ⟨rfl, q, rfl⟩)
        all_goals
          go_ret
          exact ⟨rfl, below_drewN hbel q⟩
      obtain ⟨c, rfl⟩ := Int.eq_ofNat_of_zero_le (show 0 ≤ a2 by omega)
      have hck : c ≤ k := by omega
      clear hc0
      have hva : ∀ i, i < k → 0 ≤ A i ∧ A i < 16777216 ∧ B i < 18446744073709551616 := fun i hi => by
        have := okB_iff.1 (validB_iff.1 hv i hi)
        exact ⟨this.1, this.2.1, hBw i hi⟩
      have hL : (slots (chunks A B k)).length = popsTo B k := (popsTo_eq A B k).symm
      have hcut : slots (chunks A B k) = slots (chunks A B c) ++ slots (chunks (fun i => A (c + i)) (fun i => B (c + i)) (k - c)) := by rw [chunks_cut A B k c hck, slots_append]
      have hl1 : (slots (chunks A B c)).length + (slots (chunks (fun i => A (c + i)) (fun i => B (c + i)) (k - c))).length = popsTo B k := by rw [← hL, hcut, List.length_append]
      have HC : Hid (slots (chunks A B k) = slots (chunks A B c) ++ slots (chunks (fun i => A (c + i)) (fun i => B (c + i)) (k - c))) := hcut
      have HL : Hid ((slots (chunks A B k)).length = popsTo B k) := hL
      have HL1 : Hid ((slots (chunks A B c)).length + (slots (chunks (fun i => A (c + i)) (fun i => B (c + i)) (k - c))).length = popsTo B k) := hl1
      have hbl : (slots (chunks A B k)).length ≤ 131072 := by omega
      have hbl1 : (slots (chunks A B c)).length ≤ 131072 := by omega
      have hbl2 : (slots (chunks (fun i => A (c + i)) (fun i => B (c + i)) (k - c))).length ≤ 131072 := by omega
      clear hL hcut hl1
      have HV : Hid (validB A B k = true) := hv
      go_wp2_with (go_at_call 16; refine (chunksValid_any _ _ _ _ _ A B _ hn hiA hiB).mono ?_; rintro e w' ⟨rfl, q, rfl⟩)
      clear hv
      refine (newLack_any _ _ _ _ _ A B _ hn (hiA.drewN q) (hiB.drewN q)).mono ?_
      rintro e w5 ⟨rfl, hrow5, hb5, hs5⟩
      have hb5w : Below wr.heap.size wr w5 := (below_drewN (Below.refl _ wr) q).trans hb5
      have hb5' : Below w.heap.size w w5 := hbel.trans (hb5w.mono hbel.size)
      clear hb5
      go_wp2_with fail
      refine (allSlots_any _ k A B w5 hn hva (by omega) (hT.below hT.pos hb5') hrow5).mono ?_
      rintro e w6 ⟨ao, ca, rfl, hia, hb6⟩
      have hb6w : Below wr.heap.size wr w6 := hb5w.trans (hb6.mono hb5w.size)
      have hb6' : Below w.heap.size w w6 := hbel.trans (hb6w.mono hbel.size)
      have hT6 : TabAt w6 := hT.below hT.pos hb6'
      have hiA1 : IntsAt w6 .i64 (some ⟨w.heap.size, 0, none⟩) c A := .inr ⟨_, _, rfl, by have := hb6w.size; omega, fun i hi => by rw [Nat.zero_add]; exact (hb6w.cell (p := ⟨w.heap.size, i, none⟩) (by simp; omega)).trans (hcA i (by omega))⟩
      have hiB1 : IntsAt w6 .u64 (some ⟨Bb, 0, none⟩) c (fun i => (B i : Int)) := .inr ⟨_, _, rfl, by have := hb6w.size; omega, fun i hi => by rw [Nat.zero_add]; exact (hb6w.cell (p := ⟨Bb, i, none⟩) (by simpa using hs4)).trans (hcB i (by omega))⟩
      clear hb5w hb5' hrow5 hs5 hb6
      go_wp2_with fail
      go_cut [14] (fun s14 wc => ∃ ao1 ca1, s14 = .slice ao1 (slots (chunks A B c)).length ca1 ∧ IntsAt wc .i64 ao1 (slots (chunks A B c)).length (fun i => (slots (chunks A B c)).getD i 0) ∧ Below w6.heap.size w6 wc)
      case first =>
        go_region_with (first
          | (go_at_call 18; refine (newLack_any _ _ _ _ c A B _ (by omega) (by exact hiA1) (by exact hiB1)).mono ?_; rintro e w7 ⟨rfl, hrow7, hb7, hs7⟩)
          | (go_at_call 17; refine (allSlots_any _ c A B w7 (by omega) (fun i hi => hva i (by omega)) (by omega) (TabAt.below (w := w6.drew) hT6 hT6.pos hb7) hrow7).mono ?_; rintro e w8 ⟨ao1, ca1, rfl, hia1, hb8⟩))
        have hb7w : Below w6.heap.size w6 w7 := (Below.refl _ w6).drew.trans hb7
        have hb8w : Below w6.heap.size w6 w8 := hb7w.trans (hb8.mono hb7w.size)
        go_wp2
        go_meet
        case rel => exact ⟨ao1, ca1, rfl, hia1, hb8w⟩
      obtain ⟨ao1, ca1, rfl, hia1, hb8w⟩ := hcut
      have hb8r : Below wr.heap.size wr wc := hb6w.trans (hb8w.mono hb6w.size)
      have hb8' : Below w.heap.size w wc := hbel.trans (hb8r.mono hbel.size)
      have hia8 := hia.below (Nat.le_refl _) hb8w
      have hT8 : TabAt wc := hT.below hT.pos hb8'
      clear hb8w hia hT6 hiA1 hiB1 hb6w hb6'
      go_wp2_with fail
      go_cut [15] (fun s15 wd => ∃ ao2 ca2, s15 = .slice ao2 (slots (chunks (fun i => A (c + i)) (fun i => B (c + i)) (k - c))).length ca2 ∧
        IntsAt wd .i64 ao2 (slots (chunks (fun i => A (c + i)) (fun i => B (c + i)) (k - c))).length (fun i => (slots (chunks (fun i => A (c + i)) (fun i => B (c + i)) (k - c))).getD i 0) ∧ Below wc.heap.size wc wd)
      case first =>
        by_cases hkc : c < k
        · have hiA2 : IntsAt wc .i64 (some ⟨w.heap.size, c, none⟩) (k - c) (fun i => A (c + i)) := .inr ⟨_, _, rfl, by have := hb8r.size; omega, fun i hi => (hb8r.cell (p := ⟨w.heap.size, c + i, none⟩) (by simp; omega)).trans (hcA (c + i) (by omega))⟩
          have hiB2 : IntsAt wc .u64 (some ⟨Bb, c, none⟩) (k - c) (fun i => (B (c + i) : Int)) := .inr ⟨_, _, rfl, by have := hb8r.size; omega, fun i hi => (hb8r.cell (p := ⟨Bb, c + i, none⟩) (by simpa using hs4)).trans (hcB (c + i) (by omega))⟩
          have hne : (k = c) = False := by simp; omega
          go_region_with (first
            | (go_at_call 18; refine (newLack_any _ _ _ _ (k - c) (fun i => A (c + i)) (fun i => B (c + i)) _ (by omega) (by exact hiA2) (by exact hiB2)).mono ?_; rintro e w7 ⟨rfl, hrow7, hb7, hs7⟩)
            | (go_at_call 17; refine (allSlots_any _ (k - c) (fun i => A (c + i)) (fun i => B (c + i)) w7 (by omega) (fun i hi => hva (c + i) (by omega)) (by omega) (TabAt.below (w := wc.drew) hT8 hT8.pos hb7) hrow7).mono ?_; rintro e w8 ⟨ao2, ca2, rfl, hia2, hb8⟩))
          have hb7w : Below wc.heap.size wc w7 := (Below.refl _ wc).drew.trans hb7
          have hb8w : Below wc.heap.size wc w8 := hb7w.trans (hb8.mono hb7w.size)
          go_wp2
          go_meet
          case rel => exact ⟨ao2, ca2, rfl, hia2, hb8w⟩
        · obtain rfl : c = k := by omega
          go_region_with (first
            | (go_at_call 18; refine (newLack_any _ _ _ _ 0 (fun i => A (c + i)) (fun i => B (c + i)) _ (by omega) (.inl rfl) (.inl rfl)).mono ?_; rintro e w7 ⟨rfl, hrow7, hb7, hs7⟩)
            | (go_at_call 17; refine (allSlots_any _ 0 (fun i => A (c + i)) (fun i => B (c + i)) w7 (by omega) (fun i hi => by omega) (by simp [chunks, slots]) (TabAt.below (w := wc.drew) hT8 hT8.pos hb7) hrow7).mono ?_; rintro e w8 ⟨ao2, ca2, rfl, hia2, hb8⟩))
          have hb7w : Below wc.heap.size wc w7 := (Below.refl _ wc).drew.trans hb7
          have hb8w : Below wc.heap.size wc w8 := hb7w.trans (hb8.mono hb7w.size)
          go_wp2
          go_meet
          case rel => rw [Nat.sub_self]; exact ⟨ao2, ca2, rfl, hia2, hb8w⟩
      obtain ⟨ao2, ca2, rfl, hia2, hb9w⟩ := hcut
      have hE : Below wr.heap.size wr wc := hb8r.trans (hb9w.mono hb8r.size)
      have hE' : Below w.heap.size w wc := hbel.trans (hE.mono hbel.size)
      have hia := hia8.below (Nat.le_refl _) hb9w
      have hia1' := hia1.below (Nat.le_refl _) hb9w
      have hA9 : ∀ i, i < k → wc.cell? ⟨w.heap.size, i, none⟩ = some (.int .i64 (A i)) := fun i hi => (hE.cell (p := ⟨w.heap.size, i, none⟩) (by simp; omega)).trans (hcA i hi)
      have hB9 : ∀ i, i < k → wc.cell? ⟨Bb, i, none⟩ = some (.int .u64 (B i : Int)) := fun i hi => (hE.cell (p := ⟨Bb, i, none⟩) (by simpa using hs4)).trans (hcB i hi)
      have F := found_of hn0 hck HV.out hBw
      have hLP : (slots (chunks A B k)).length = popsTo B k := HL.out
      clear hb9w hb8r hb8' hia8 hia1 hT8 HC HL HL1 HV hcA hcB hiA hiB hva hE hbel hT
      generalize (fun i => (slots (chunks A B k)).getD i 0) = f at hia F
      generalize (fun i => (slots (chunks A B c)).getD i 0) = f1 at hia1' F
      generalize (fun i => (slots (chunks (fun i => A (c + i)) (fun i => B (c + i)) (k - c))).getD i 0) = f2 at hia2 F
      generalize (slots (chunks A B k)).length = L at hia F hbl hLP ⊢
      generalize (slots (chunks A B c)).length = l1 at hia1' F hbl1 ⊢
      generalize (slots (chunks (fun i => A (c + i)) (fun i => B (c + i)) (k - c))).length = l2 at hia2 F hbl2 ⊢
      obtain ⟨b0, o0, rfl, hF⟩ : ∃ b o, ao = some ⟨b, o, none⟩ ∧ ∀ i, i < L → wc.cell? ⟨b, o + i, none⟩ = some (.int .i64 (f i)) := by
        rcases hia with h | ⟨b, o, h, _, hc⟩
        · exact absurd h (by have := F.pos; omega)
        · exact ⟨b, o, h, hc⟩
      clear hia
      have e1 : ((L : Int) != (popsTo B k : Int)) = false := by simp [hLP]
      have e2 : ((l1 : Int) + (l2 : Int) != (L : Int)) = false := by have := F.sum; simp; omega
      clear hLP
      go_wp2_with fail
      go_loopw [16] (fun i wx => ∃ j q : Nat, j ≤ l1 ∧ i = .int .i64 j ∧ wx = wc.drewN q) (fun i _ => l1 - (intOf i).toNat)
      case atStart => exact ⟨0, 0, by omega, rfl, rfl⟩
      case round =>
        obtain ⟨j, q2, hj, rfl, rfl⟩ := hrel
        by_cases hjl : j < l1
        · obtain ⟨b1, o1, rfl, hF1⟩ : ∃ b o, ao1 = some ⟨b, o, none⟩ ∧ wc.cell? ⟨b, o + j, none⟩ = some (.int .i64 (f1 j)) := by
            rcases hia1' with h | ⟨b, o, h, _, hc⟩
            · exact absurd h (by omega)
            · exact ⟨b, o, h, hc j hjl⟩
          have hF0 := hF j (by have := F.sum; omega)
          have hjL : (j : Int) < (L : Int) := by have := F.sum; omega
          have heq : (f j != f1 j) = false := by simp [F.one j hjl]
          go_wp2
          go_quiet (fail)
          go_wp2
          go_roundw
          case rel => exact ⟨j + 1, _, by omega, by go_num, rfl⟩
          case measure => simp [intOf]; omega
        · go_wp2_with fail
          go_loopw [17] (fun i wx => ∃ j q : Nat, j ≤ l2 ∧ i = .int .i64 j ∧ wx = wc.drewN q) (fun i _ => l2 - (intOf i).toNat)
          case atStart => exact ⟨0, _, by omega, rfl, rfl⟩
          case round =>
            obtain ⟨j2, q3, hj2, rfl, rfl⟩ := hrel
            by_cases hjl2 : j2 < l2
            · obtain ⟨b2, o2, rfl, hF2⟩ : ∃ b o, ao2 = some ⟨b, o, none⟩ ∧ wc.cell? ⟨b, o + j2, none⟩ = some (.int .i64 (f2 j2)) := by
                rcases hia2 with h | ⟨b, o, h, _, hc⟩
                · exact absurd h (by omega)
                · exact ⟨b, o, h, hc j2 hjl2⟩
              have hF0 := hF (l1 + j2) (by have := F.sum; omega)
              have hjL : (l1 : Int) + (j2 : Int) < (L : Int) := by have := F.sum; omega
              have heq : (f (l1 + j2) != f2 j2) = false := by simp [F.two j2 hjl2]
              go_wp2
              go_quiet (fail)
              go_wp2
              go_roundw
              case rel => exact ⟨j2 + 1, _, by omega, by go_num, rfl⟩
              case measure => simp [intOf]; omega
            · go_wp2_with fail
              go_loopw [18, 19, 20] (fun jj i _ wx => ∃ t m q : Nat, t ≤ L ∧ i = .int .i64 t ∧ m ≤ k ∧ jj = .int .i64 m ∧ wx = wc.drewN q ∧ ∀ t', t ≤ t' → t' < L → ∀ m', m' < k → A m' = f t' / 64 → m ≤ m') (fun _ i _ _ => L - (intOf i).toNat)
              case atStart => exact ⟨0, 0, _, by omega, rfl, by omega, rfl, rfl, fun _ _ _ _ _ _ => by omega⟩
              case round =>
                obtain ⟨t, m, q4, ht, rfl, hm, rfl, rfl, hnext⟩ := hrel
                by_cases htL : t < L
                · obtain ⟨M, hM, hAM, hbit⟩ := F.at' t htL
                  have hmM : m ≤ M := hnext t (Nat.le_refl _) htL M hM hAM
                  have hlow := F.low t htL
                  obtain ⟨hlow0, hlow1⟩ := hlow
                  have hFt := hF t htL
                  have HN : Hid (∀ t', t + 1 ≤ t' → t' < L → ∀ m', m' < k → A m' = f t' / 64 → M ≤ m') := fun t' h1 h2 m' h3 h4 => F.place hM hAM h1 h2 h4
                  have HAM : Hid (A M = f t / 64) := hAM
                  clear hnext hAM
                  have hup : t = 0 ∨ (0 < t ∧ f (t - 1) < f t ∧ wc.cell? ⟨b0, o0 + (t - 1), none⟩ = some (.int .i64 (f (t - 1)))) := by
                    by_cases h0 : t = 0
                    · exact .inl h0
                    · exact .inr ⟨by omega, F.asc _ _ (by omega) htL, hF _ (by omega)⟩
                  rcases hup with h0 | ⟨h0, hlt0, hFp⟩
                  · have H0 : Hid (t = 0) := h0
                    have hd : decide (0 < t) = false := by simp; omega
                    clear h0
                    go_wp2_with fail
                    go_loopw [18] (fun jj wx => ∃ m q : Nat, m ≤ M ∧ jj = .int .i64 m ∧ wx = wc.drewN q) (fun jj _ => M - (intOf jj).toNat)
                    case atStart => exact ⟨m, _, hmM, rfl, rfl⟩
                    case round =>
                      obtain ⟨m1, q5, hm1, rfl, rfl⟩ := hrel
                      by_cases hlt1 : m1 < M
                      · have hcm := hA9 m1 (by omega)
                        have hless : A m1 < f t / 64 := by rw [← HAM.out]; exact F.rise m1 M hlt1 hM
                        go_wp2
                        go_roundw
                        case rel => exact ⟨m1 + 1, _, by omega, by go_num, rfl⟩
                        case measure => simp [intOf]; omega
                      · obtain rfl : m1 = M := by omega
                        have hcm := hA9 m1 hM
                        have hcb := hB9 m1 hM
                        have hge : f t / 64 ≤ A m1 := by rw [HAM.out]; omega
                        have hne : (A m1 != f t / 64) = false := by simp [HAM.out]
                        have hbt : (bits BinOp.and IntKind.u64 (↑(B m1) / 2 ^ (f t % 64).toNat) 1 == 0) = false := bit_test0 (B m1) _ (hBw m1 hM) hbit
                        go_wp2
                        go_roundw
                        case rel => exact ⟨t + 1, m1, _, by omega, by go_num, by omega, rfl, rfl, HN.out⟩
                        case measure => simp [intOf]; omega
                  · go_wp2_with fail
                    go_loopw [18] (fun jj wx => ∃ m q : Nat, m ≤ M ∧ jj = .int .i64 m ∧ wx = wc.drewN q) (fun jj _ => M - (intOf jj).toNat)
                    case atStart => exact ⟨m, _, hmM, rfl, rfl⟩
                    case round =>
                      obtain ⟨m1, q5, hm1, rfl, rfl⟩ := hrel
                      by_cases hlt1 : m1 < M
                      · have hcm := hA9 m1 (by omega)
                        have hless : A m1 < f t / 64 := by rw [← HAM.out]; exact F.rise m1 M hlt1 hM
                        go_wp2
                        go_roundw
                        case rel => exact ⟨m1 + 1, _, by omega, by go_num, rfl⟩
                        case measure => simp [intOf]; omega
                      · obtain rfl : m1 = M := by omega
                        have hcm := hA9 m1 hM
                        have hcb := hB9 m1 hM
                        have hge : f t / 64 ≤ A m1 := by rw [HAM.out]; omega
                        have hne : (A m1 != f t / 64) = false := by simp [HAM.out]
                        have hbt : (bits BinOp.and IntKind.u64 (↑(B m1) / 2 ^ (f t % 64).toNat) 1 == 0) = false := bit_test0 (B m1) _ (hBw m1 hM) hbit
                        go_wp2
                        go_roundw
                        case rel => exact ⟨t + 1, m1, _, by omega, by go_num, by omega, rfl, rfl, HN.out⟩
                        case measure => simp [intOf]; omega
                · go_wp2
                  go_ret
                  exact ⟨rfl, below_drewN hE' _⟩
end Go.Proofs.Qxb6614702aDoor

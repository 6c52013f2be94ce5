/-
  THE WALK of FnLackSlotsStopsEarly, where there is a chunk.
-/
import Derived.Test.Qxb6614702aDoorBoth
import Derived.Test.Qxb6614702aDoorCopy
import Derived.Deep.DeepCutAuto
namespace Go.Proofs.Qxb6614702aDoor.early
open Go.RowKit

theorem info40 : (Tryd.prog.info? 40).map (fun i => (i.zero, i.size, i.bytes)) = some (some (.int .u64 0), 1, 8) := by kernel_rfl
theorem size3 : (Tryd.prog.info? 3).map (·.size) = some 1 := by kernel_rfl
theorem size40 : (Tryd.prog.info? 40).map (·.size) = some 1 := by kernel_rfl

theorem bytes_early (a0 a1 : Option Addr) (l0 c0 l1 c1 : Nat) (a2 : Int) (w : World) (h0 : l0 ≤ maxLen) (h1 : l1 ≤ maxLen) :
    Calls Tryd.prog 19 #[.slice a0 l0 c0, .slice a1 l1 c1, .int .i64 a2] w fun e w' => ∃ b, e = .returned (.bool b) ∧ w = w' := by
  unfold maxLen at h0 h1
  go_enter Tryd.func19, Tryd.ntmps19
  go_wp2
  all_goals
    go_ret
    exact ⟨_, rfl, rfl⟩

theorem add_none (b o j : Nat) : (⟨b, o, none⟩ : Addr).add j = ⟨b, o + j, none⟩ := by unfold Addr.add; split <;> simp_all
theorem src_of {B : Nat} {w w' : World} {b o n : Nat} {f : Nat → Value} (hb : Below B w w') (hlt : b < B) (h : ∀ i, i < n → w.cell? ⟨b, o + i, none⟩ = some (f i)) :
    ∀ j v, ((List.range n).map f)[j]? = some v → w'.cell? ((⟨b, o, none⟩ : Addr).add j) = some v := by
  intro j v hj
  rw [List.getElem?_map, Option.map_eq_some_iff] at hj
  obtain ⟨a, ha, rfl⟩ := hj
  obtain ⟨hj, rfl⟩ := List.getElem?_eq_some_iff.1 ha
  simp only [List.length_range] at hj
  simp only [List.getElem_range]
  rw [add_none, hb.cell hlt]
  exact h j hj
theorem one_of (kd : IntKind) (f : Nat → Int) (n : Nat) : ∀ v ∈ (List.range n).map (fun i => Value.int kd (f i)), v.oneCell' = true := by
  intro v hv
  simp only [List.mem_map] at hv
  obtain ⟨i, _, rfl⟩ := hv
  rfl

theorem row_cell {w : World} {g n : Nat} {t : TypeId} {L : List Value} {f : Nat → Value} (h : w.heap[g]? = some (.cells L.toArray t (0, 0))) (hL : L = (List.range n).map f) {i : Nat} (hi : i < n) :
    w.cell? ⟨g, i, none⟩ = some (f i) := by
  subst hL
  rw [cell_of_row _ _ _ _ _ _ h]
  simp [hi]

theorem bit_test0 (x k : Nat) (hx : x < 18446744073709551616) (h : x.testBit k = true) : (bits BinOp.and IntKind.u64 ((x : Int) / 2 ^ k) 1 == 0) = false := by
  have e : ((x : Int) / 2 ^ k) = ((x / 2 ^ k : Nat) : Int) := by simp
  have hl : x / 2 ^ k < 18446744073709551616 := Nat.lt_of_le_of_lt (Nat.div_le_self _ _) hx
  rw [Nat.testBit_eq_decide_div_mod_eq] at h
  rw [e, show (1 : Int) = ((1 : Nat) : Int) from rfl, bits_and_u64_nat _ 1 hl (by decide), Nat.and_one_is_mod]
  simp only [decide_eq_true_eq] at h
  rw [h]
  rfl

def popsTo (B : Nat → Nat) : Nat → Nat
  | 0 => 0
  | k + 1 => popsTo B k + pop (B k)
theorem popsTo_eq (A : Nat → Int) (B : Nat → Nat) (k : Nat) : popsTo B k = (slots (chunks A B k)).length := by
  induction k with
  | zero => rfl
  | succ k ih => rw [popsTo, slots_succ, List.length_append, ih, slotsOf, List.length_map, pop_eq]


/-! ### lowestBit -/
theorem ctz_of (x k : Nat) (hx : x < 18446744073709551616) (h0 : x ≠ 0) (h : x.testBit k = true) (hlo : ∀ i, i < k → x.testBit i = false) : k = Lib.ctz 64 x := by
  obtain ⟨_, h1, h2, _⟩ := low_bits x h0 hx
  rcases Nat.lt_trichotomy k (Lib.ctz 64 x) with hlt | heq | hgt
  · rw [h2 k hlt] at h; cases h
  · exact heq
  · rw [hlo _ hgt] at h1; cases h1

set_option maxHeartbeats 400000 in
theorem lowest_any (x : Nat) (hx : x < 18446744073709551616) (h0 : x ≠ 0) (w : World) :
    Calls Tryd.prog 21 #[.int .u64 x] w fun e w' => e = .returned (.int .i64 (Lib.ctz 64 x)) ∧ w' = w := by
  obtain ⟨hc, hb, _, _⟩ := low_bits x h0 hx
  go_enter Tryd.func21, Tryd.ntmps21
  go_wp2
  go_loop [3] (fun i => ∃ k : Nat, k ≤ Lib.ctz 64 x ∧ i = .int .i64 k ∧ Hid (∀ i, i < k → x.testBit i = false)) (fun i => 64 - (intOf i).toNat)
  case atStart => exact ⟨0, by omega, rfl, fun i hi => by omega⟩
  case round =>
    obtain ⟨k, hk, rfl, hlo⟩ := hrel
    by_cases hlt : k < Lib.ctz 64 x
    · have ht : (bits BinOp.and IntKind.u64 (↑x / 2 ^ k) 1 == 1) = false := by rw [bit_test x k hx]; exact (low_bits x h0 hx).2.2.1 k hlt
      have hk64 : k < 64 := by omega
      have HF : Hid (x.testBit k = false) := (low_bits x h0 hx).2.2.1 k hlt
      go_wp2
      go_round
      case rel => exact ⟨k + 1, by omega, by go_num, fun i hi => by
                      by_cases e : i = k
                      · subst e; exact HF.out
                      · exact hlo.out i (by omega)⟩
      case measure => simp [intOf]; omega
    · have hkc : k = Lib.ctz 64 x := by omega
      have ht : (bits BinOp.and IntKind.u64 (↑x / 2 ^ k) 1 == 1) = true := by rw [bit_test x k hx, hkc]; exact hb
      have hk64 : k < 64 := by omega
      have HK : Hid (k = Lib.ctz 64 x) := hkc
      clear hkc
      go_wp2
      go_ret
      exact ⟨ret_int (by rw [HK.out]), rfl⟩

/-- The first slot of all. -/
theorem first_slot {A : Nat → Int} {B : Nat → Nat} {n : Nat} (hn : 0 < n) (h0 : B 0 ≠ 0) (hB : B 0 < 18446744073709551616) : (slots (chunks A B n)).getD 0 0 = 64 * A 0 + (Lib.ctz 64 (B 0) : Int) := by
  rw [chunks_cut A B n 1 hn, slots_append, slots_succ]
  simp only [slotsOf, bitsOf_step (B 0) h0 hB]
  simp [chunks, slots]
theorem slots_pos {A : Nat → Int} {B : Nat → Nat} {n : Nat} (hn : 0 < n) (h0 : B 0 ≠ 0) (hB : B 0 < 18446744073709551616) : 0 < (slots (chunks A B n)).length := by
  rw [chunks_cut A B n 1 hn, slots_append, slots_succ]
  simp [slotsOf, bitsOf_step (B 0) h0 hB]
  omega

set_option maxRecDepth 100000 in
set_option maxHeartbeats 16000000 in
theorem early_pos (ba oa bb ob c0 c1 n : Nat) (a2 : Int) (A : Nat → Int) (B : Nat → Nat) (w : World) (hn0 : 0 < n) (hn : n ≤ 4096) (hba : ba < w.heap.size) (hbb : bb < w.heap.size)
    (hA : ∀ i, i < n → w.cell? ⟨ba, oa + i, none⟩ = some (.int .i64 (A i))) (hB : ∀ i, i < n → w.cell? ⟨bb, ob + i, none⟩ = some (.int .u64 (B i : Int)))
    (hBw : ∀ i, i < n → B i < 18446744073709551616) (hT : TabAt w) (h2 : -9223372036854775808 ≤ a2) (h2' : a2 ≤ 9223372036854775807) :
    Calls Tryd.prog 6 #[.slice (some ⟨ba, oa, none⟩) n c0, .slice (some ⟨bb, ob, none⟩) n c1, .int .i64 a2] w fun e w' => e = .returned (.bool true) ∧ Below w.heap.size w w' := by
  obtain ⟨i3, hi, hz0, hz1, hz2⟩ := info_parts info3
  obtain ⟨i40, gi, gz0, gz1, gz2⟩ := info_parts info40
  go_enter Tryd.func6, Tryd.ntmps6
  go_wp2_with (first
    | (go_at_call 19; refine (bytes_early _ _ _ _ _ _ _ _ (by unfold maxLen; omega) (by unfold maxLen; omega)).mono ?_; rintro e w' ⟨b, rfl, rfl⟩)
    | (at_make; refine wpList_make_row _ rfl (.tmp 39) 36 rfl 3 i3 _ Tryd.underlying36 hi hz0 hz1 .i64 _ n rfl rfl (by rw [hz2]; omega) (by unfold maxLen; omega) w.heap.size w (by exact Below.refl _ _) (Nat.le_refl _) ?_; intro w1 cur1 hl1 hg1 hb1 _ hs1; obtain ⟨w2, hcp, hg2, hb2, hs2⟩ := copy_first (P := Tryd.prog) 36 3 3 w.heap.size n c0 w.heap.size w _ cur1 ((List.range n).map fun i => .int .i64 (A i)) Tryd.underlying36 size3 hg1 hl1 (by simp) (fun _ => ⟨_, rfl, src_of hb1 hba hA⟩) (one_of _ _ _) hb1 (Nat.le_refl _))
    | (at_make; refine wpList_make_row _ rfl (.tmp 48) 37 rfl 40 i40 _ Tryd.underlying37 gi gz0 gz1 .i64 _ n rfl rfl (by rw [gz2]; omega) (by unfold maxLen; omega) w2.heap.size w2 (by exact Below.refl _ _) (Nat.le_refl _) ?_; intro w3 cur3 hl3 hg3 hb3 _ hs3; obtain ⟨w4, hcp4, hg4, hb4, hs4⟩ := copy_first (P := Tryd.prog) 37 3 40 w2.heap.size n c1 w2.heap.size w2 _ cur3 ((List.range n).map fun i => .int .u64 (B i : Int)) Tryd.underlying37 size40 hg3 hl3 (by simp) (fun _ => ⟨_, rfl, src_of (hb2.trans (hb3.mono (Nat.le_of_lt hs2))) hbb hB⟩) (one_of _ _ _) hb3 (Nat.le_refl _)))
  · go_ret
    exact ⟨rfl, Below.refl _ _⟩
  have hbel : Below w.heap.size w w4 := hb2.trans (hb4.mono (Nat.le_of_lt hs2))
  have hcA : ∀ i, i < n → w4.cell? ⟨w.heap.size, i, none⟩ = some (.int .i64 (A i)) := fun i hi => (hb4.cell hs2).trans (row_cell hg2.out rfl hi)
  have hcB : ∀ i, i < n → w4.cell? ⟨w2.heap.size, i, none⟩ = some (.int .u64 (B i : Int)) := fun i hi => row_cell hg4.out rfl hi
  clear hcp hcp4 hg1 hb1 hs1 hg2 hb2 hg3 hb3 hs3 hg4 hb4 hl1 hl3 hA hB
  generalize w2.heap.size = Bb at *
  clear hz0 hz1 hz2 hi gz0 gz1 gz2 gi
  go_loopw [9, 10, 11, 12] (fun m p i _ wr => ∃ k : Nat, k ≤ n ∧ wr = w4 ∧ i = .int .i64 k ∧ p = .int .i64 (popsTo B k) ∧ m = .int .i64 (16 * n + 8 * popsTo B k : Nat) ∧ 16 * n + 8 * popsTo B k ≤ 1048576) (fun _ _ i _ _ => n - (intOf i).toNat)
  case atStart => exact ⟨0, by omega, rfl, rfl, rfl, by simp [popsTo], by simp [popsTo]; omega⟩
  case round =>
    obtain ⟨k, hk, rfl, rfl, rfl, rfl, hle⟩ := hrel
    by_cases hlt : k < n
    · have hcell := hcB k hlt
      have hp := pop_le (B k)
      have hw := hBw k hlt
      go_wp2_with (go_at_call 15; refine (popcount_any (B k) hw _).mono ?_; rintro e w' ⟨rfl, hw'⟩; subst hw')
      · go_ret
        exact ⟨rfl, hbel⟩
      · go_roundw
        case rel =>
          refine ⟨k + 1, by omega, by first | rfl | trivial, by go_num, ?_, ?_, ?_⟩
          · simp [popsTo]
          · simp [popsTo]; omega
          · simp only [popsTo]; omega
        case measure => simp [intOf]; omega
    · obtain rfl : k = n := by omega
      have hiA : IntsAt wr .i64 (some ⟨w.heap.size, 0, none⟩) k A := .inr ⟨_, _, rfl, by omega, fun i hi => by rw [Nat.zero_add]; exact hcA i hi⟩
      have hiB : IntsAt wr .u64 (some ⟨Bb, 0, none⟩) k (fun i => (B i : Int)) := .inr ⟨_, _, rfl, hs4, fun i hi => by rw [Nat.zero_add]; exact hcB i hi⟩
      cases hv : validB A B k
      · go_wp2_with (go_at_call 16; refine (chunksValid_any _ _ _ _ _ A B _ hn hiA hiB).mono ?_; rintro e w' ⟨rfl, q, rfl⟩)
        go_ret
        exact ⟨rfl, below_drewN hbel q⟩
      by_cases hc0 : a2 < 1
      · go_wp2_with (go_at_call 16; refine (chunksValid_any _ _ _ _ _ A B _ hn hiA hiB).mono ?_; rintro e w' ⟨rfl, q, rfl⟩)
        go_ret
        exact ⟨rfl, below_drewN hbel q⟩
      have hva : ∀ i, i < k → 0 ≤ A i ∧ A i < 16777216 ∧ B i < 18446744073709551616 := fun i hi => by
        have := okB_iff.1 (validB_iff.1 hv i hi)
        exact ⟨this.1, this.2.1, hBw i hi⟩
      have hB0 : B 0 ≠ 0 := (okB_iff.1 (validB_iff.1 hv 0 hn0)).2.2.1
      have hL : (slots (chunks A B k)).length = popsTo B k := (popsTo_eq A B k).symm
      have hbl : (slots (chunks A B k)).length ≤ 131072 := by omega
      have HL : Hid ((slots (chunks A B k)).length = popsTo B k) := hL
      have HB0 : Hid (B 0 ≠ 0) := hB0
      clear hL hB0
      go_wp2_with (go_at_call 16; refine (chunksValid_any _ _ _ _ _ A B _ hn hiA hiB).mono ?_; rintro e w' ⟨rfl, q, rfl⟩)
      clear hv
      refine (newLack_any _ _ _ _ _ A B _ hn (hiA.drewN q) (hiB.drewN q)).mono ?_
      rintro e w5 ⟨rfl, hrow5, hb5, hs5⟩
      have hb5w : Below wr.heap.size wr w5 := (below_drewN (Below.refl _ wr) q).trans hb5
      have hb5' : Below w.heap.size w w5 := hbel.trans (hb5w.mono hbel.size)
      clear hb5
      go_wp2_with fail
      have hW5 : Below w.heap.size w (w5.alloc (.cells #[.slice (some ⟨wr.heap.size + 1, 0, none⟩) k k] 45)) := hb5'.alloc hb5'.size _
      have hw5 : Below wr.heap.size wr (w5.alloc (.cells #[.slice (some ⟨wr.heap.size + 1, 0, none⟩) k k] 45)) := hb5w.alloc hb5w.size _
      have hbox := World.cell?_alloc_at (w := w5) #[.slice (some ⟨wr.heap.size + 1, 0, none⟩) k k] 45 w5.heap.size 0 rfl
      have hrow := hrow5.keep (KeepT.alloc 56 w5 (.cells #[.slice (some ⟨wr.heap.size + 1, 0, none⟩) k k] 45))
      have hsz : w5.heap.size < (w5.alloc (.cells #[.slice (some ⟨wr.heap.size + 1, 0, none⟩) k k] 45)).heap.size := by simp
      have hsz5 : wr.heap.size + 1 < w5.heap.size := hs5
      generalize w5.alloc (.cells #[.slice (some ⟨wr.heap.size + 1, 0, none⟩) k k] 45) = W5 at hW5 hw5 hbox hrow hsz ⊢
      clear hb5' hb5w hrow5 hs5
      refine (firstSlots_any _ k a2 A B W5 hn hva (by omega) (by omega) (hT.below hT.pos hW5) hrow).mono ?_
      rintro e w6 ⟨ao, ca, rfl, hia, hb6⟩
      have hW6 : Below w.heap.size w w6 := hW5.trans (hb6.mono hW5.size)
      have hw6 : Below wr.heap.size wr w6 := hw5.trans (hb6.mono hw5.size)
      have hbox6 : w6.cell? ⟨w5.heap.size, 0, none⟩ = some (.slice (some ⟨wr.heap.size + 1, 0, none⟩) k k) := (hb6.cell (p := ⟨w5.heap.size, 0, none⟩) hsz).trans hbox
      have hrow6 : ChunkRow w6 (wr.heap.size + 1) k A B := by
        obtain ⟨cur, h1, h3⟩ := hrow
        exact ⟨cur, (hb6.block _ (by omega)).trans h1, h3⟩
      clear hrow hbox hW5 hw5 hb6
      go_wp2_with fail
      refine (allSlots_any _ k A B w6 hn hva (by omega) (hT.below hT.pos hW6) hrow6).mono ?_
      rintro e w7 ⟨ao1, ca1, rfl, hia1, hb7⟩
      have hW7 : Below w.heap.size w w7 := hW6.trans (hb7.mono hW6.size)
      have hw7 : Below wr.heap.size wr w7 := hw6.trans (hb7.mono hw6.size)
      have hia7 := hia.below (Nat.le_refl _) hb7
      have hA7 : w7.cell? ⟨w.heap.size, 0, none⟩ = some (.int .i64 (A 0)) := (hw7.cell (p := ⟨w.heap.size, 0, none⟩) (by simp; omega)).trans (hcA 0 hn0)
      have hB7 : w7.cell? ⟨Bb, 0, none⟩ = some (.int .u64 (B 0 : Int)) := (hw7.cell (p := ⟨Bb, 0, none⟩) (by simpa using hs4)).trans (hcB 0 hn0)
      have hv0 := hva 0 hn0
      have hLf : ((slots (chunks A B k)).take a2.toNat).length = min a2.toNat (slots (chunks A B k)).length := List.length_take
      have hff : ∀ i, i < ((slots (chunks A B k)).take a2.toNat).length → ((slots (chunks A B k)).take a2.toNat).getD i 0 = (slots (chunks A B k)).getD i 0 := fun i hi => by
        rw [List.getD_eq_getElem?_getD, List.getD_eq_getElem?_getD, List.getElem?_take, if_pos (by omega)]
      have hf0 : (fun i => (slots (chunks A B k)).getD i 0) 0 = 64 * A 0 + (Lib.ctz 64 (B 0) : Int) := first_slot (A := A) (B := B) hn0 HB0.out hv0.2.2
      have hL0 := slots_pos (A := A) (B := B) hn0 HB0.out hv0.2.2
      have hLP : (slots (chunks A B k)).length = popsTo B k := HL.out
      have hFF : ∀ i, i < ((slots (chunks A B k)).take a2.toNat).length → (fun i => ((slots (chunks A B k)).take a2.toNat).getD i 0) i = (fun i => (slots (chunks A B k)).getD i 0) i := hff
      have hct := (low_bits (B 0) HB0.out hv0.2.2).1
      clear hia hb7 hbox6 hrow6 hW6 hw6 hw7 HL hcA hcB hiA hiB hbel hT hva hff
      generalize (fun i => (slots (chunks A B k)).getD i 0) = f at hia1 hf0 hFF
      generalize (fun i => ((slots (chunks A B k)).take a2.toNat).getD i 0) = ff at hia7 hFF
      rw [hLf] at hia7 hFF
      clear hLf
      generalize hLf : min a2.toNat (slots (chunks A B k)).length = Lf at hia7 hFF ⊢
      generalize (slots (chunks A B k)).length = L at hia1 hLf hL0 hLP hbl ⊢
      have HFF : Hid (∀ i, i < Lf → ff i = f i) := hFF
      have HF0 : Hid (f 0 = 64 * A 0 + (Lib.ctz 64 (B 0) : Int)) := hf0
      have HLP : Hid (L = popsTo B k) := hLP
      have hfl : Lf ≤ L := by omega
      have hf1 : 0 < Lf := by omega
      have hLp1 : L ≤ popsTo B k := by omega
      have hLp2 : popsTo B k ≤ L := by omega
      have HLf : Hid (min a2.toNat L = Lf) := hLf
      clear hFF hf0 hLP hLf
      obtain ⟨b1, o1, rfl, hF⟩ : ∃ b o, ao1 = some ⟨b, o, none⟩ ∧ ∀ i, i < L → w7.cell? ⟨b, o + i, none⟩ = some (.int .i64 (f i)) := by
        rcases hia1 with h | ⟨b, o, h, _, hc⟩
        · exact absurd h (by omega)
        · exact ⟨b, o, h, hc⟩
      obtain ⟨b0, o0, rfl, hG⟩ : ∃ b o, ao = some ⟨b, o, none⟩ ∧ ∀ i, i < Lf → w7.cell? ⟨b, o + i, none⟩ = some (.int .i64 (ff i)) := by
        rcases hia7 with h | ⟨b, o, h, _, hc⟩
        · exact absurd h (by omega)
        · exact ⟨b, o, h, hc⟩
      clear hia1 hia7
      go_upto_if 94 with fail
      go_cut [16] (fun s wx => s = .int .i64 Lf ∧ wx = w7)
      case first =>
        by_cases hw : a2 < (popsTo B k : Int)
        · go_wp2
          go_meet
          case rel => exact ⟨by have := HLf.out; congr 1; omega, rfl⟩
        · go_wp2
          go_meet
          case rel => exact ⟨by have := HLf.out; congr 1; omega, rfl⟩
      obtain ⟨rfl, rfl⟩ := hcut
      have e2 : ((L : Int) != (popsTo B k : Int)) = false := by simp [HLP.out]
      have e1 : ((Lf : Int) != (Lf : Int)) = false := by simp
      go_wp2_with fail
      go_loopw [17] (fun i wx => ∃ j q : Nat, j ≤ Lf ∧ i = .int .i64 j ∧ wx = wc.drewN q) (fun i _ => Lf - (intOf i).toNat)
      case atStart => exact ⟨0, 0, by omega, rfl, rfl⟩
      case round =>
        obtain ⟨j, q2, hj, rfl, rfl⟩ := hrel
        by_cases hjl : j < Lf
        · have hc1 := hF j (by omega)
          have hc2 := hG j hjl
          have hjL : (j : Int) < (L : Int) := by omega
          have heq : (ff j != f j) = false := by simp [HFF.out j hjl]
          go_wp2
          go_quiet (fail)
          go_wp2
          go_roundw
          case rel => exact ⟨j + 1, _, by omega, by go_num, rfl⟩
          case measure => simp [intOf]; omega
        · have hP0 : 0 < popsTo B k := by omega
          have hd0 : decide (0 < popsTo B k) = true := by simp [hP0]
          have hc2 : wc.cell? ⟨b0, o0, none⟩ = some (.int .i64 (ff 0)) := by simpa using hG 0 hf1
          have hlf0 : (0 : Int) < (Lf : Int) := by omega
          have hk0 : (0 : Int) < (k : Int) := by omega
          have hne : (ff 0 != 64 * A 0 + (Lib.ctz 64 (B 0) : Int)) = false := by simp [HFF.out 0 hf1, HF0.out]
          obtain ⟨hv00, hv01, hv02⟩ := hv0
          have hA8 : (wc.drewN q2).cell? ⟨w.heap.size, 0, none⟩ = some (.int .i64 (A 0)) := hA7
          have hB8 : (wc.drewN q2).cell? ⟨Bb, 0, none⟩ = some (.int .u64 (B 0 : Int)) := hB7
          have hc8 : (wc.drewN q2).cell? ⟨b0, o0, none⟩ = some (.int .i64 (ff 0)) := hc2
          have hb8 : Below w.heap.size w (wc.drewN q2) := below_drewN hW7 q2
          clear hA7 hB7 hc2 hF hG
          generalize wc.drewN q2 = wz at hA8 hB8 hc8 hb8 ⊢
          go_wp2_with fail
          go_quiet ((go_at_call 21; exact Calls.quiet_of_same (lowest_any _ hv02 HB0.out _)))
          go_wp2
          go_ret
          exact ⟨rfl, below_drewN hb8 _⟩
end Go.Proofs.Qxb6614702aDoor.early

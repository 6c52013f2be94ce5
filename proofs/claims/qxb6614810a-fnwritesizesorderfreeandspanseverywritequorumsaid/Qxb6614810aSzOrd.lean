/-
  THE WALK OF THE LAW OrderFree.
-/
import Derived.Test.Qxb6614810aSzI
namespace Go.Proofs.Qxb6614810a
open Go.RowKit

set_option maxRecDepth 100000 in
set_option maxHeartbeats 8000000 in
theorem order_walk (a0 a1 a2 a3 a4 : Option Addr) (n0 c0 n1 c1 n2 c2 n3 c3 nb c4 : Nat) (c d : Int) (N : Nat → ByteArray) (D0 D1 D2 : Nat → Int) (AB : Nat → Option Addr) (LB CB : Nat → Nat) (X : Nat → Nat → Nat) (w : World)
    (h0 : n0 ≤ 131072) (h1 : n1 ≤ 131072) (h2 : n2 ≤ 131072) (h3 : n3 ≤ 131072) (h4 : nb ≤ 131072)
    (hN : ∀ i, i < n0 → (N i).size ≤ maxLen) (hLB : ∀ i, i < nb → LB i ≤ maxLen) (hcap : ∀ i, i < nb → LB i ≤ CB i)
    (hr0 : ∀ i, -2147483648 ≤ D0 i ∧ D0 i ≤ 2147483647) (hr1 : ∀ i, -2147483648 ≤ D1 i ∧ D1 i ≤ 2147483647) (hr2 : ∀ i, -2147483648 ≤ D2 i ∧ D2 i ≤ 2147483647)
    (hX : ∀ i c, X i c < 18446744073709551616)
    (hA : RowAt w a0 n0 fun i => .string (N i)) (hB : RowAt w a1 n1 fun i => .int .i32 (D0 i)) (hC : RowAt w a2 n2 fun i => .int .i32 (D1 i)) (hD : RowAt w a3 n3 fun i => .int .i32 (D2 i))
    (hE : RowAt w a4 nb fun i => .slice (AB i) (LB i) (CB i)) (hF : ∀ i, i < nb → RowAt w (AB i) (LB i) fun c => .int .u64 (X i c : Int)) :
    Calls Try.prog 7 #[.slice a0 n0 c0, .slice a1 n1 c1, .slice a2 n2 c2, .slice a3 n3 c3, .slice a4 nb c4, .int .i64 c, .int .i64 d] w fun e w' => e = .returned (.bool true) ∧ Below w.heap.size w w' := by
  obtain ⟨i9, hi, hz0, hz1, hz2⟩ := info_parts info9
  obtain ⟨i21, gi, gz0, gz1, gz2⟩ := info_parts info21
  go_enter Try.func7, Try.ntmps7
  go_upto_if 73 with (go_at_call 25; refine (bytes_two a0 a1 a2 a3 a4 n0 c0 n1 c1 n2 c2 n3 c3 nb c4 c d N AB LB CB w (by unfold maxLen; omega) (by unfold maxLen; omega) (by unfold maxLen; omega) (by unfold maxLen; omega) (by unfold maxLen; omega) hN hLB hA hE).mono ?_; rintro e w' ⟨⟨b, rfl, hbs⟩, rfl⟩)
  · go_wp2
    go_ret
    exact ⟨rfl, Below.refl _ _⟩
  have hbt : (!b) = false := by assumption
  obtain ⟨hN2, hL2⟩ := hbs (by simpa using hbt)
  have hBL : BlocksAt w a4 nb AB LB CB X := ⟨hE, hF, hcap, hL2, hX, by omega⟩
  have HBL : Hid (∀ w', Below w.heap.size w w' → BlocksAt w' a4 nb AB LB CB X) := fun w' h => hBL.below (Nat.le_refl _) h
  clear hbt hbs hN hLB hBL hE hF hcap
  go_cut [0] from 40 to 80 (fun s0 wc => ∃ aa ca, s0 = .slice aa n0 ca ∧ RowAt wc aa n0 (fun i => .string (N i)) ∧ Below w.heap.size w wc)
  case first =>
    rcases a0 with _ | x0
    · go_wp2
      go_meet
      case rel => exact ⟨_, _, rfl, hA, Below.refl _ _⟩
    · go_wp2_with (at_make; refine wpList_make_row _ rfl (.tmp 75) 31 rfl 9 i9 _ Try.underlying31 hi hz0 hz1 .i64 _ n0 rfl rfl (by rw [hz2]; omega) (by unfold maxLen; omega) w.heap.size w (by exact Below.refl _ _) (Nat.le_refl _) ?_; intro w1 cur1 hl1 hg1 hb1 _ hs1; obtain ⟨w2, hcp, hg2, hb2, hs2⟩ := copy_first (P := Try.prog) 31 3 9 w.heap.size n0 c0 w.heap.size w (some x0) cur1 ((List.range n0).map fun i => .string (N i)) Try.underlying31 size9 hg1 hl1 (by simp) (hA.src (Nat.le_refl _) hb1) (one_of _ (fun _ => rfl) _) hb1 (Nat.le_refl _))
      go_meet
      case rel => exact ⟨_, _, rfl, RowAt.made hg2.out, hb2⟩
  obtain ⟨aa, ca, rfl, hA1, hbA⟩ := hcut
  clear hA hi hz0 hz1 hz2
  go_upto_if 82 with fail
  go_cut [1] from 40 to 89 (fun s0 wd => ∃ ab cb, s0 = .slice ab n1 cb ∧ RowAt wd ab n1 (fun i => .int .i32 (D0 i)) ∧ Below wc.heap.size wc wd)
  case first =>
    have hB1 := hB.below (Nat.le_refl _) hbA
    rcases a1 with _ | x0
    · go_wp2
      go_meet
      case rel => exact ⟨_, _, rfl, hB1, Below.refl _ _⟩
    · go_wp2_with (at_make; refine wpList_make_row _ rfl (.tmp 84) 32 rfl 21 i21 _ Try.underlying32 gi gz0 gz1 .i64 _ n1 rfl rfl (by rw [gz2]; omega) (by unfold maxLen; omega) wc.heap.size wc (by exact Below.refl _ _) (Nat.le_refl _) ?_; intro w1 cur1 hl1 hg1 hb1 _ hs1; obtain ⟨w2, hcp, hg2, hb2, hs2⟩ := copy_first (P := Try.prog) 32 3 21 wc.heap.size n1 c1 wc.heap.size wc (some x0) cur1 ((List.range n1).map fun i => .int .i32 (D0 i)) Try.underlying32 size21 hg1 hl1 (by simp) (hB1.src (Nat.le_refl _) hb1) (one_of _ (fun _ => rfl) _) hb1 (Nat.le_refl _))
      go_meet
      case rel => exact ⟨_, _, rfl, RowAt.made hg2.out, hb2⟩
  obtain ⟨ab, cb, rfl, hB1, hbB⟩ := hcut
  have hA2 := hA1.below (Nat.le_refl _) hbB
  have hbB' : Below w.heap.size w wc := hbA.trans (hbB.mono hbA.size)
  clear hA1 hbA hbB hB
  go_upto_if 91 with fail
  go_cut [2] from 40 to 98 (fun s0 wd => ∃ ac cc, s0 = .slice ac n2 cc ∧ RowAt wd ac n2 (fun i => .int .i32 (D1 i)) ∧ Below wc.heap.size wc wd)
  case first =>
    have hC1 := hC.below (Nat.le_refl _) hbB'
    rcases a2 with _ | x0
    · go_wp2
      go_meet
      case rel => exact ⟨_, _, rfl, hC1, Below.refl _ _⟩
    · go_wp2_with (at_make; refine wpList_make_row _ rfl (.tmp 93) 32 rfl 21 i21 _ Try.underlying32 gi gz0 gz1 .i64 _ n2 rfl rfl (by rw [gz2]; omega) (by unfold maxLen; omega) wc.heap.size wc (by exact Below.refl _ _) (Nat.le_refl _) ?_; intro w1 cur1 hl1 hg1 hb1 _ hs1; obtain ⟨w2, hcp, hg2, hb2, hs2⟩ := copy_first (P := Try.prog) 32 3 21 wc.heap.size n2 c2 wc.heap.size wc (some x0) cur1 ((List.range n2).map fun i => .int .i32 (D1 i)) Try.underlying32 size21 hg1 hl1 (by simp) (hC1.src (Nat.le_refl _) hb1) (one_of _ (fun _ => rfl) _) hb1 (Nat.le_refl _))
      go_meet
      case rel => exact ⟨_, _, rfl, RowAt.made hg2.out, hb2⟩
  obtain ⟨ac, cc, rfl, hC1, hbC⟩ := hcut
  have hA3 := hA2.below (Nat.le_refl _) hbC
  have hB3 := hB1.below (Nat.le_refl _) hbC
  have hb3 : Below w.heap.size w wc := hbB'.trans (hbC.mono hbB'.size)
  clear hA2 hB1 hbB' hbC hC
  go_upto_if 100 with fail
  go_cut [3] from 40 to 107 (fun s0 wd => ∃ ad cd, s0 = .slice ad n3 cd ∧ RowAt wd ad n3 (fun i => .int .i32 (D2 i)) ∧ Below wc.heap.size wc wd)
  case first =>
    have hD1 := hD.below (Nat.le_refl _) hb3
    rcases a3 with _ | x0
    · go_wp2
      go_meet
      case rel => exact ⟨_, _, rfl, hD1, Below.refl _ _⟩
    · go_wp2_with (at_make; refine wpList_make_row _ rfl (.tmp 102) 32 rfl 21 i21 _ Try.underlying32 gi gz0 gz1 .i64 _ n3 rfl rfl (by rw [gz2]; omega) (by unfold maxLen; omega) wc.heap.size wc (by exact Below.refl _ _) (Nat.le_refl _) ?_; intro w1 cur1 hl1 hg1 hb1 _ hs1; obtain ⟨w2, hcp, hg2, hb2, hs2⟩ := copy_first (P := Try.prog) 32 3 21 wc.heap.size n3 c3 wc.heap.size wc (some x0) cur1 ((List.range n3).map fun i => .int .i32 (D2 i)) Try.underlying32 size21 hg1 hl1 (by simp) (hD1.src (Nat.le_refl _) hb1) (one_of _ (fun _ => rfl) _) hb1 (Nat.le_refl _))
      go_meet
      case rel => exact ⟨_, _, rfl, RowAt.made hg2.out, hb2⟩
  obtain ⟨ad, cd, rfl, hD3, hbD⟩ := hcut
  have hA4 := hA3.below (Nat.le_refl _) hbD
  have hB4 := hB3.below (Nat.le_refl _) hbD
  have hC4 := hC1.below (Nat.le_refl _) hbD
  have hb4 : Below w.heap.size w wc := hb3.trans (hbD.mono hb3.size)
  clear hA3 hB3 hC1 hb3 hbD hD
  by_cases h8 : 1048576 < 8 * (n0 + n1 + n2 + n3 + nb)
  · go_wp2
    go_ret
    exact ⟨rfl, hb4⟩
  go_wp2_with fail
  go_loopw [19, 20] (fun z i wx => ∃ (k : Nat) (s : Int), k ≤ n0 ∧ wx = wc ∧ i = .int .i64 k ∧ z = .int .i64 s ∧ 0 ≤ s ∧ s ≤ 1048576) (fun _ i _ => n0 - (intOf i).toNat)
  case atStart => exact ⟨0, _, by omega, rfl, rfl, rfl, by omega, by omega⟩
  case round =>
    obtain ⟨k, s, hk, rfl, rfl, rfl, hs0, hs1⟩ := hrel
    by_cases hlt : k < n0
    · obtain ⟨bn, on, rfl, _, hcn⟩ := hA4.pos (by omega)
      have hc := hcn k hlt
      have hsz := hN2 k hlt
      clear hcn
      by_cases hb2 : 1048576 < s + (N k).size
      · go_wp2
        go_ret
        exact ⟨rfl, hb4⟩
      go_wp2
      go_roundw
      case rel => exact ⟨k + 1, s + (N k).size, by omega, by first | rfl | trivial, by go_num, by go_num, by omega, by omega⟩
      case measure => simp [intOf]; omega
    · have hE4 := (HBL.out wr hb4).rowB
      have hA5 : Hid (∀ w', Below wr.heap.size wr w' → RowAt w' aa n0 fun i => .string (N i)) := fun w' h => hA4.below (Nat.le_refl _) h
      clear hA4 hN2
      go_wp2_with fail
      go_loopw [19, 21] (fun z i wx => ∃ (k : Nat) (s : Int), k ≤ nb ∧ wx = wr ∧ i = .int .i64 k ∧ z = .int .i64 s ∧ 0 ≤ s ∧ s ≤ 1048576) (fun _ i _ => nb - (intOf i).toNat)
      case atStart => exact ⟨0, _, by omega, rfl, rfl, rfl, hs0, hs1⟩
      case round =>
        obtain ⟨k2, s2, hk2, rfl, rfl, rfl, hs20, hs21⟩ := hrel
        by_cases hlt2 : k2 < nb
        · obtain ⟨bn, on, rfl, _, hcn⟩ := hE4.pos (by omega)
          have hc := hcn k2 hlt2
          have hsz := hL2 k2 hlt2
          clear hcn
          by_cases hb1 : 131072 < LB k2
          · go_wp2
            go_ret
            exact ⟨rfl, hb4⟩
          by_cases hb2 : 1048576 < s2 + 8 * LB k2
          · go_wp2
            go_ret
            exact ⟨rfl, hb4⟩
          go_wp2
          go_roundw
          case rel => exact ⟨k2 + 1, s2 + 8 * LB k2, by omega, by first | rfl | trivial, by go_num, by go_num, by omega, by omega⟩
          case measure => simp [intOf]; omega
        · clear hs0 hs1 hs20 hs21
          go_upto_if 167 with (go_at_call 19; refine (pfit_any ab ac ad a4 n1 cb n2 cc n3 cd nb c4 D0 D1 D2 AB LB CB X wr h1 h2 h3 hr0 hr1 hr2 hB4 hC4 hD3 (HBL.out wr hb4)).mono ?_; rintro e w' ⟨⟨b2, rfl, hfit⟩, rfl⟩)
          cases b2 with
          | false =>
            go_wp2
            go_ret
            exact ⟨rfl, hb4⟩
          | true => as_aux_lemma =>
            obtain ⟨e1, e2, hpos, hPF⟩ := hfit rfl
            subst e1 e2
            clear hfit
            obtain ⟨Bk, hBk⟩ : ∃ Bk : Nat → Nat, (fun j => (D0 j).toNat) = Bk := ⟨_, rfl⟩
            obtain ⟨F, hF⟩ : ∃ F : Nat → Nat, (fun j => (D1 j).toNat) = F := ⟨_, rfl⟩
            obtain ⟨R, hR⟩ : ∃ R : Nat → Nat, (fun j => (D2 j).toNat) = R := ⟨_, rfl⟩
            rw [hBk, hF, hR] at hPF
            have hB5 : Hid (∀ w', Below wr.heap.size wr w' → RowAt w' ab n3 fun i => .int .i32 (Bk i : Int)) := fun w' h => (hB4.congr (fun i hi => by rw [← hBk]; simp only; rw [Int.toNat_of_nonneg (hpos i hi).1])).below (Nat.le_refl _) h
            have hC5 : Hid (∀ w', Below wr.heap.size wr w' → RowAt w' ac n3 fun i => .int .i32 (F i : Int)) := fun w' h => (hC4.congr (fun i hi => by rw [← hF]; simp only; rw [Int.toNat_of_nonneg (hpos i hi).2.1])).below (Nat.le_refl _) h
            have hD5 : Hid (∀ w', Below wr.heap.size wr w' → RowAt w' ad n3 fun i => .int .i32 (R i : Int)) := fun w' h => (hD3.congr (fun i hi => by rw [← hR]; simp only; rw [Int.toNat_of_nonneg (hpos i hi).2.2])).below (Nat.le_refl _) h
            have HPF : Hid (PFit n3 nb Bk F R LB X) := hPF
            have HB5 : Hid (∀ w', Below wr.heap.size wr w' → BlocksAt w' a4 nb AB LB CB X) := fun w' h => HBL.out w' (hb4.trans (h.mono hb4.size))
            clear hPF hBk hF hR hpos hB4 hC4 hD3 hE4 HBL hr0 hr1 hr2 hL2 hA5 hX
            by_cases hz : n3 = 0
            · as_aux_lemma =>
              subst hz
              have hcall0 := rw_any aa ab ac ad a4 n0 ca 0 cb cc cd nb c4 Bk F R AB LB CB X wr (by omega) (hB5.out wr (Below.refl _ _)) (hC5.out wr (Below.refl _ _)) (hD5.out wr (Below.refl _ _)) (HB5.out wr (Below.refl _ _)) HPF.out
              go_upto_if 205 with (first | (go_at_call 20; refine hcall0.mono ?_; clear hcall0; rintro e w1 ⟨p1, rfl, hp1, hS1, hb5⟩; have hcall1 : Calls Try.prog 21 #[.pointer (some ⟨p1, 0, none⟩)] w1 (fun e w' => e = .returned (.tuple #[.int .i64 (n0 : Int), .int .i64 0]) ∧ Below w1.heap.size w1 w') := ws_any aa a4 p1 wr.heap.size n0 ca 0 nb c4 Bk F R AB LB CB X w1 hp1 hS1) | (go_at_call 21; refine hcall1.mono ?_; clear hcall1; rintro e w2 ⟨rfl, hb6⟩))
              have hW2 : Below w.heap.size w w2 := hb4.trans ((hb5.trans (hb6.mono hb5.size)).mono hb4.size)
              clear hp1 hS1 hb5 hb6
              go_wp2
              go_ret
              exact ⟨rfl, hW2⟩
            have hz3 : 0 < n3 := by omega
            by_cases hc1 : c < 0
            · go_wp2
              go_ret
              exact ⟨rfl, hb4⟩
            by_cases hc2 : (n3 : Int) ≤ c
            · go_wp2
              go_ret
              exact ⟨rfl, hb4⟩
            by_cases hc3 : d < 0
            · go_wp2
              go_ret
              exact ⟨rfl, hb4⟩
            by_cases hc4 : (n3 : Int) ≤ d
            · go_wp2
              go_ret
              exact ⟨rfl, hb4⟩
            as_aux_lemma =>
            obtain ⟨ii, rfl⟩ := Int.eq_ofNat_of_zero_le (show 0 ≤ c by omega)
            obtain ⟨jj, rfl⟩ := Int.eq_ofNat_of_zero_le (show 0 ≤ d by omega)
            have hii : ii < n3 := by omega
            have hjj : jj < n3 := by omega
            clear hc1 hc2 hc3 hc4 hz
            have hcall0 := rw_any aa ab ac ad a4 n0 ca n3 cb cc cd nb c4 Bk F R AB LB CB X wr (by omega) (hB5.out wr (Below.refl _ _)) (hC5.out wr (Below.refl _ _)) (hD5.out wr (Below.refl _ _)) (HB5.out wr (Below.refl _ _)) HPF.out
            go_upto_if 205 with (first | (go_at_call 20; refine hcall0.mono ?_; clear hcall0; rintro e w1 ⟨p1, rfl, hp1, hS1, hb5⟩; have hcall1 := ws_any aa a4 p1 wr.heap.size n0 ca n3 nb c4 Bk F R AB LB CB X w1 hp1 hS1) | (go_at_call 21; refine hcall1.mono ?_; clear hcall1; rintro e w2 ⟨rfl, hb6⟩))
            have hW2 : Below wr.heap.size wr w2 := hb5.trans (hb6.mono hb5.size)
            clear hp1 hS1 hb5 hb6
            have Hall : Hid (mnS (cntAt X Bk F R) n0 n3 ≤ n0 ∧ (∀ t, t < n3 → mnS (cntAt X Bk F R) n0 n3 ≤ cntAt X Bk F R t ∧ cntAt X Bk F R t ≤ mxS (cntAt X Bk F R) n3) ∧ (mnS (cntAt X Bk F R) n0 n3 = n0 ∨ ∃ t, t < n3 ∧ cntAt X Bk F R t = mnS (cntAt X Bk F R) n0 n3) ∧ (∃ t, t < n3 ∧ cntAt X Bk F R t = mxS (cntAt X Bk F R) n3) ∧ mnS (cntAt X (sw ii jj Bk) (sw ii jj F) (sw ii jj R)) n0 n3 = mnS (cntAt X Bk F R) n0 n3 ∧ mxS (cntAt X (sw ii jj Bk) (sw ii jj F) (sw ii jj R)) n3 = mxS (cntAt X Bk F R) n3) :=
              ⟨mnS_le n3, fun t ht => ⟨mnS_at n3 t ht, mxS_at n3 t ht⟩, mnS_is n3, mxS_is n3 hz3, mn_sw X Bk F R n0 hii hjj, mx_sw X Bk F R hii hjj⟩
            generalize mnS (cntAt X Bk F R) n0 n3 = S1 at Hall ⊢
            generalize mxS (cntAt X Bk F R) n3 = L1 at Hall ⊢
            obtain ⟨b1, o1, rfl, _, _⟩ := (hB5.out wr (Below.refl _ _)).pos (by omega)
            obtain ⟨b2, o2, rfl, _, _⟩ := (hC5.out wr (Below.refl _ _)).pos (by omega)
            obtain ⟨b3, o3, rfl, _, _⟩ := (hD5.out wr (Below.refl _ _)).pos (by omega)
            have hcl1 := clone_any _ n3 cb Bk w2 (by omega) (hB5.out w2 hW2)
            go_upto_region 47 with (go_at_call 26; refine hcl1.mono ?_; clear hcl1; rintro e w3 ⟨x1, y1, rfl, _, _, hx1, hb7⟩; obtain ⟨rfl, lay1⟩ := hx1 (fun h => by cases h))
            clear hx1
            have hW3 : Below wr.heap.size wr w3 := hW2.trans (hb7.mono hW2.size)
            have hcl2 := clone_any _ n3 cc F w3 (by omega) (hC5.out w3 hW3)
            go_upto_region 48 with (go_at_call 26; refine hcl2.mono ?_; clear hcl2; rintro e w4 ⟨x2, y2, rfl, _, _, hx2, hb8⟩; obtain ⟨rfl, lay2⟩ := hx2 (fun h => by cases h))
            clear hx2
            have hW4 : Below wr.heap.size wr w4 := hW3.trans (hb8.mono hW3.size)
            have hcl3 := clone_any _ n3 cd R w4 (by omega) (hD5.out w4 hW4)
            go_upto_region 49 with (go_at_call 26; refine hcl3.mono ?_; clear hcl3; rintro e w5 ⟨x3, y3, rfl, _, _, hx3, hb9⟩; obtain ⟨rfl, l3⟩ := hx3 (fun h => by cases h))
            clear hx3
            have hW5 : Below wr.heap.size wr w5 := hW4.trans (hb9.mono hW4.size)
            have l1' := lay1.below lay1.lt hb8
            have l1 := l1'.below l1'.lt hb9
            have l2 := lay2.below lay2.lt hb9
            have d12 := lay1.lt
            have d23 := lay2.lt
            have dr1 := hW2.size
            clear hb7 hb8 hb9 hW2 hW3 hW4 lay1 lay2 l1'
            generalize w2.heap.size = g1 at *
            generalize w3.heap.size = g2 at *
            generalize w4.heap.size = g3 at *
            have HR : Hid (∀ wi, Below g1 w5 wi → Below wr.heap.size wr wi) := fun wi h => hW5.trans (h.mono dr1)
            clear hW5
            have q1 := l1.nth hii
            have q2 := l1.nth hjj
            have f1 := (l1.cell hii).2
            obtain ⟨⟨u1, q3⟩, f2⟩ := l1.put (i := ii) (.int .i32 (Bk jj : Int)) hjj
            have m1 := l1.swap hii hjj
            have m2 := l2.swapO (g' := g1) (i := ii) (j := jj) (V := Bk) (by omega)
            have m3 := l3.swapO (g' := g1) (i := ii) (j := jj) (V := Bk) (by omega)
            have p1 := below_swap (i := ii) (j := jj) (V := Bk) (Below.refl g1 w5) (Nat.le_refl g1)
            clear l1 l2 l3
            go_upto_region 53 with fail
            unfold swapW at m1 m2 m3 p1
            generalize (w5.setCell ⟨g1, ii, none⟩ (.int .i32 (Bk jj : Int))).setCell ⟨g1, jj, none⟩ (.int .i32 (Bk ii : Int)) = w6 at m1 m2 m3 p1 ⊢
            clear q1 q2 q3 f1 f2
            have q1 := m2.nth hii
            have q2 := m2.nth hjj
            have f1 := (m2.cell hii).2
            obtain ⟨⟨u2, q3⟩, f2⟩ := m2.put (i := ii) (.int .i32 (F jj : Int)) hjj
            have k1 := m1.swapO (g' := g2) (i := ii) (j := jj) (V := F) (by omega)
            have k2 := m2.swap hii hjj
            have k3 := m3.swapO (g' := g2) (i := ii) (j := jj) (V := F) (by omega)
            have p2 := below_swap (g := g2) (i := ii) (j := jj) (V := F) p1 (by omega)
            clear m1 m2 m3 p1
            go_upto_region 57 with fail
            unfold swapW at k1 k2 k3 p2
            generalize (w6.setCell ⟨g2, ii, none⟩ (.int .i32 (F jj : Int))).setCell ⟨g2, jj, none⟩ (.int .i32 (F ii : Int)) = w7 at k1 k2 k3 p2 ⊢
            clear q1 q2 q3 f1 f2
            have q1 := k3.nth hii
            have q2 := k3.nth hjj
            have f1 := (k3.cell hii).2
            obtain ⟨⟨u3, q3⟩, f2⟩ := k3.put (i := ii) (.int .i32 (R jj : Int)) hjj
            have m1 := k1.swapO (g' := g3) (i := ii) (j := jj) (V := R) (by omega)
            have m2 := k2.swapO (g' := g3) (i := ii) (j := jj) (V := R) (by omega)
            have m3 := k3.swap hii hjj
            have p3 := below_swap (g := g3) (i := ii) (j := jj) (V := R) p2 (by omega)
            clear k1 k2 k3 p2
            go_upto_region 61 with fail
            unfold swapW at m1 m2 m3 p3
            generalize (w7.setCell ⟨g3, ii, none⟩ (.int .i32 (R jj : Int))).setCell ⟨g3, jj, none⟩ (.int .i32 (R ii : Int)) = w8 at m1 m2 m3 p3 ⊢
            clear q1 q2 q3 f1 f2
            have hcall2 := rw_any aa (some ⟨g1, 0, none⟩) (some ⟨g2, 0, none⟩) (some ⟨g3, 0, none⟩) a4 n0 ca n3 y1 y2 y3 nb c4 _ _ _ AB LB CB X w8 (by omega) m1.all m2.all m3.all (HB5.out w8 (HR.out w8 p3)) (fit_sw HPF.out hii hjj)
            have hW8 := HR.out w8 p3
            clear m1 m2 m3 p3 HR
            go_upto_if 284 with (first | (go_at_call 20; refine hcall2.mono ?_; clear hcall2; rintro e w9 ⟨p9, rfl, hp9, hS9, hb9⟩; have hcall3 := ws_any aa a4 p9 w8.heap.size n0 ca n3 nb c4 _ _ _ AB LB CB X w9 hp9 hS9; rw [Hall.out.2.2.2.2.1, Hall.out.2.2.2.2.2] at hcall3) | (go_at_call 21; refine hcall3.mono ?_; clear hcall3; rintro e w10 ⟨rfl, hb10⟩))
            have hW10 : Below wr.heap.size wr w10 := hW8.trans ((hb9.trans (hb10.mono hb9.size)).mono hW8.size)
            clear hp9 hS9 hb9 hb10 hW8
            have hSd1 : decide (n0 < S1) = false := by rw [decide_eq_false_iff_not]; have := Hall.out.1; omega
            have hSd2 : decide ((n0 : Int) < (S1 : Int)) = false := by rw [decide_eq_false_iff_not]; have := Hall.out.1; omega
            go_wp2_with fail
            have hfin : Hid (∀ wi, Below wr.heap.size wr wi → Below w.heap.size w wi) := fun wi h => hb4.trans (h.mono hb4.size)
            have hrd : Hid (∀ wi, Below w10.heap.size w10 wi → Below wr.heap.size wr wi) := fun wi h => hW10.trans (h.mono hW10.size)
            clear hW10 hb4
            go_loopw [36, 37, 38] (fun z y i wi => ∃ (t : Nat) (b1 b2 : Bool), t ≤ n3 ∧ i = .int .i64 t ∧ z = .bool b1 ∧ y = .bool b2 ∧ Hid ((S1 = n0 ∨ ∃ j, j < t ∧ cntAt X Bk F R j = S1) → b1 = true) ∧ Hid ((∃ j, j < t ∧ cntAt X Bk F R j = L1) → b2 = true) ∧ Below w10.heap.size w10 wi) (fun _ _ i _ => n3 - (intOf i).toNat)
            case atStart => exact ⟨0, _, _, by omega, rfl, rfl, rfl, fun h => (by rcases h with h | ⟨j, h, _⟩; (subst h; simp); omega), fun h => (by obtain ⟨j, h, _⟩ := h; omega), Below.refl _ _⟩
            case round =>
              obtain ⟨t, s1, s2, ht, rfl, rfl, rfl, hs1, hs2, hbi⟩ := hrel
              by_cases htm : t < n3
              · as_aux_lemma =>
                have hwi := hrd.out wr hbi
                have x1 := (hB5.out wr hwi).nth htm
                have x2 := (hC5.out wr hwi).nth htm
                have x3 := (hD5.out wr hwi).nth htm
                obtain ⟨z1, z2⟩ := HPF.out t htm
                have hbk := HB5.out wr hwi
                obtain ⟨b4, o4, rfl, _, hc4⟩ := hbk.rowB.pos (by omega)
                have x4 := hc4 (Bk t) z1
                have z3 := hbk.small (Bk t) z1
                obtain ⟨z4, z5⟩ := Hall.out.2.1 t htm
                have Hq : Hid (∀ q, Calls Try.prog 27 #[.slice (AB (Bk t)) (LB (Bk t)) (CB (Bk t)), .int .i64 (F t : Int), .int .i64 (R t : Int)] (wr.drewN q) fun e w' => e = .returned (.int .i64 (cntAt X Bk F R t : Int)) ∧ w' = wr.drewN q) :=
                  fun q => (qones_any (AB (Bk t)) (LB (Bk t)) (CB (Bk t)) (F t) (R t) (X (Bk t)) (wr.drewN q) z3 (hbk.word (Bk t)) ((hbk.rows (Bk t) z1).drewN q) z2).mono fun _ _ ⟨he, hw⟩ => ⟨he, hw.symm⟩
                have Hs1 : Hid ((S1 = n0 ∨ ∃ j, j < t + 1 ∧ cntAt X Bk F R j = S1) → s1 = true ∨ cntAt X Bk F R t = S1) := fun h => by
                  rcases h with h | ⟨j, h, hj⟩
                  · exact .inl (hs1.out (.inl h))
                  · by_cases e : j = t
                    · subst e; exact .inr hj
                    · exact .inl (hs1.out (.inr ⟨j, by omega, hj⟩))
                have Hs2 : Hid ((∃ j, j < t + 1 ∧ cntAt X Bk F R j = L1) → s2 = true ∨ cntAt X Bk F R t = L1) := fun h => by
                  obtain ⟨j, h, hj⟩ := h
                  by_cases e : j = t
                  · subst e; exact .inr hj
                  · exact .inl (hs2.out ⟨j, by omega, hj⟩)
                have e1 : IntKind.i64.wrap (F t : Int) = (F t : Int) := by rw [IntKind.wrap_i64]; omega
                have e2 : IntKind.i64.wrap (R t : Int) = (R t : Int) := by rw [IntKind.wrap_i64]; omega
                have hbq : Hid (∀ q, Below w10.heap.size w10 (wr.drewN q)) := fun q => below_drewN hbi q
                clear hc4 hbk hs1 hs2 hwi z2 z3 HB5 hB5 hC5 hD5 HPF hrd hfin hbi
                generalize hcT : cntAt X Bk F R t = cT at *
                go_wp2_with fail
                go_quiet ((go_at_call 27; exact Calls.quiet_of_same (Hq.out _)))
                have hbn := hbq.out nq
                clear hbq Hq x1 x2 x3 x4 e1 e2 hcT
                generalize wr.drewN nq = wz at hbn ⊢
                by_cases c1 : cT = S1
                · have k1 : ((cT : Int) == (S1 : Int)) = true := by simp [c1]
                  by_cases c2 : cT = L1
                  · have k2 : ((cT : Int) == (L1 : Int)) = true := by simp [c2]
                    clear c1 c2
                    go_wp2
                    go_roundw
                    case rel => exact ⟨t + 1, true, true, by omega, by go_num, rfl, rfl, fun _ => rfl, fun _ => rfl, hbn⟩
                    case measure => simp [intOf]; omega
                  · have k2 : ((cT : Int) == (L1 : Int)) = false := by simp; omega
                    clear c1
                    go_wp2
                    go_roundw
                    case rel => exact ⟨t + 1, true, s2, by omega, by go_num, rfl, rfl, fun _ => rfl, fun h => (Hs2.out h).resolve_right c2, hbn⟩
                    case measure => simp [intOf]; omega
                · have k1 : ((cT : Int) == (S1 : Int)) = false := by simp; omega
                  by_cases c2 : cT = L1
                  · have k2 : ((cT : Int) == (L1 : Int)) = true := by simp [c2]
                    clear c2
                    go_wp2
                    go_roundw
                    case rel => exact ⟨t + 1, s1, true, by omega, by go_num, rfl, rfl, fun h => (Hs1.out h).resolve_right c1, fun _ => rfl, hbn⟩
                    case measure => simp [intOf]; omega
                  · have k2 : ((cT : Int) == (L1 : Int)) = false := by simp; omega
                    go_wp2
                    go_roundw
                    case rel => exact ⟨t + 1, s1, s2, by omega, by go_num, rfl, rfl, fun h => (Hs1.out h).resolve_right c1, fun h => (Hs2.out h).resolve_right c2, hbn⟩
                    case measure => simp [intOf]; omega
              · as_aux_lemma =>
                obtain rfl : t = n3 := by omega
                obtain rfl : s1 = true := hs1.out Hall.out.2.2.1
                obtain rfl : s2 = true := hs2.out Hall.out.2.2.2.1
                have hfi := hfin.out wr (hrd.out wr hbi)
                clear hs1 hs2 HB5 hB5 hC5 hD5 HPF hrd hfin hbi Hall
                go_wp2
                go_ret
                exact ⟨rfl, hfi⟩
end Go.Proofs.Qxb6614810a

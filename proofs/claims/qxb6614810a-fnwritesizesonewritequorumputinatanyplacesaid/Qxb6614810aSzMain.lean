/-
  THE WALK OF THE LAW One.
-/
import Derived.Test.Qxb6614810aSzG
namespace Go.Proofs.Qxb6614810a
open Go.RowKit

theorem size30 : (Try.prog.info? 30).map (·.size) = some 1 := by kernel_rfl
theorem info30 : (Try.prog.info? 30).map (fun i => (i.zero, i.size, i.bytes)) = some (some (.int .u64 0), 1, 8) := by kernel_rfl
theorem info22 : (Try.prog.info? 22).map (fun i => (i.zero, i.size, i.bytes)) = some (some (.slice none 0 0), 1, 24) := by kernel_rfl

theorem RowAt.congr {w : World} {ao : Option Addr} {n : Nat} {v u : Nat → Value} (h : RowAt w ao n v) (e : ∀ i, i < n → v i = u i) : RowAt w ao n u := by
  rcases h with h | ⟨b, o, h1, h2, h3⟩
  · exact .inl h
  · exact .inr ⟨b, o, h1, h2, fun i hi => by rw [← e i hi]; exact h3 i hi⟩
theorem LaidG.other {w : World} {g n t g' i : Nat} {e : TypeId} {v : Nat → Value} (h : LaidG w g e n t v) (hne : g ≠ g') (u : Value) : LaidG (w.setCell ⟨g', i, none⟩ u) g e n t v := by
  obtain ⟨c, h1, h2, h3⟩ := h
  exact ⟨c, h1, by rw [heap_setCell_other _ _ _ _ (by simpa using hne)]; exact h2, h3⟩

theorem RowAt.nth {w : World} {b o n : Nat} {v : Nat → Value} (h : RowAt w (some ⟨b, o, none⟩) n v) {i : Nat} (hi : i < n) : w.cell? ⟨b, o + i, none⟩ = some (v i) := by
  rcases h with h | ⟨b', o', h1, _, h3⟩
  · omega
  · cases h1; exact h3 i hi
theorem laid_three {w : World} {g1 g2 g3 n t : Nat} {e : TypeId} {V1 V2 V3 : Nat → Value} (h1 : LaidG w g1 e n t V1) (h2 : LaidG w g2 e n t V2) (h3 : LaidG w g3 e n t V3) (ht : t < n) (d12 : g1 < g2) (d23 : g2 < g3) :
    LaidG (((w.setCell ⟨g1, t, none⟩ (V1 t)).setCell ⟨g2, t, none⟩ (V2 t)).setCell ⟨g3, t, none⟩ (V3 t)) g1 e n (t + 1) V1 ∧
    LaidG (((w.setCell ⟨g1, t, none⟩ (V1 t)).setCell ⟨g2, t, none⟩ (V2 t)).setCell ⟨g3, t, none⟩ (V3 t)) g2 e n (t + 1) V2 ∧
    LaidG (((w.setCell ⟨g1, t, none⟩ (V1 t)).setCell ⟨g2, t, none⟩ (V2 t)).setCell ⟨g3, t, none⟩ (V3 t)) g3 e n (t + 1) V3 :=
  ⟨((h1.step ht).other (by omega) _).other (by omega) _, ((h2.other (by omega) _).step ht).other (by omega) _, ((h3.other (by omega) _).other (by omega) _).step ht⟩
theorem i32N {a : Nat} (h : a < 2147483648) : IntKind.i32.wrap (a : Int) = (a : Int) := by
  rw [IntKind.wrap_i32]; omega

set_option maxRecDepth 100000 in
set_option maxHeartbeats 8000000 in
theorem one_walk (a0 a1 a2 a3 a4 a6 : Option Addr) (n0 c0 n1 c1 n2 c2 n3 c3 nb c4 m c6 : Nat) (c : Int) (N : Nat → ByteArray) (D0 D1 D2 : Nat → Int) (AB : Nat → Option Addr) (LB CB : Nat → Nat) (X : Nat → Nat → Nat) (NW : Nat → Nat) (w : World)
    (h0 : n0 ≤ 131072) (h1 : n1 ≤ 131072) (h2 : n2 ≤ 131072) (h3 : n3 ≤ 131072) (h4 : nb ≤ 131072) (h6 : m ≤ 131072)
    (hN : ∀ i, i < n0 → (N i).size ≤ maxLen) (hLB : ∀ i, i < nb → LB i ≤ maxLen) (hcap : ∀ i, i < nb → LB i ≤ CB i)
    (hr0 : ∀ i, -2147483648 ≤ D0 i ∧ D0 i ≤ 2147483647) (hr1 : ∀ i, -2147483648 ≤ D1 i ∧ D1 i ≤ 2147483647) (hr2 : ∀ i, -2147483648 ≤ D2 i ∧ D2 i ≤ 2147483647)
    (hX : ∀ i c, X i c < 18446744073709551616) (hNW : ∀ i, NW i < 18446744073709551616)
    (hA : RowAt w a0 n0 fun i => .string (N i)) (hB : RowAt w a1 n1 fun i => .int .i32 (D0 i)) (hC : RowAt w a2 n2 fun i => .int .i32 (D1 i)) (hD : RowAt w a3 n3 fun i => .int .i32 (D2 i))
    (hE : RowAt w a4 nb fun i => .slice (AB i) (LB i) (CB i)) (hF : ∀ i, i < nb → RowAt w (AB i) (LB i) fun c => .int .u64 (X i c : Int)) (hG : RowAt w a6 m fun i => .int .u64 (NW i : Int)) :
    Calls Try.prog 6 #[.slice a0 n0 c0, .slice a1 n1 c1, .slice a2 n2 c2, .slice a3 n3 c3, .slice a4 nb c4, .int .i64 c, .slice a6 m c6] w fun e w' => e = .returned (.bool true) ∧ Below w.heap.size w w' := by
  obtain ⟨i9, hi, hz0, hz1, hz2⟩ := info_parts info9
  obtain ⟨i21, gi, gz0, gz1, gz2⟩ := info_parts info21
  go_enter Try.func6, Try.ntmps6
  go_upto_if 81 with (go_at_call 18; refine (bytes_one a0 a1 a2 a3 a4 a6 n0 c0 n1 c1 n2 c2 n3 c3 nb c4 m c6 c N AB LB CB w (by unfold maxLen; omega) (by unfold maxLen; omega) (by unfold maxLen; omega) (by unfold maxLen; omega) (by unfold maxLen; omega) (by unfold maxLen; omega) hN hLB hA hE).mono ?_; rintro e w' ⟨⟨b, rfl, hbs⟩, rfl⟩)
  · go_wp2
    go_ret
    exact ⟨rfl, Below.refl _ _⟩
  have hbt : (!b) = false := by assumption
  obtain ⟨hN2, hL2⟩ := hbs (by simpa using hbt)
  have hBL : BlocksAt w a4 nb AB LB CB X := ⟨hE, hF, hcap, hL2, hX, by omega⟩
  have HBL : Hid (∀ w', Below w.heap.size w w' → BlocksAt w' a4 nb AB LB CB X) := fun w' h => hBL.below (Nat.le_refl _) h
  have HG : Hid (∀ w', Below w.heap.size w w' → RowAt w' a6 m fun i => .int .u64 (NW i : Int)) := fun w' h => hG.below (Nat.le_refl _) h
  clear hbt hbs hN hLB hBL hE hF hG hcap
  go_cut [0] from 43 to 88 (fun s0 wc => ∃ aa ca, s0 = .slice aa n0 ca ∧ RowAt wc aa n0 (fun i => .string (N i)) ∧ Below w.heap.size w wc)
  case first =>
    rcases a0 with _ | x0
    · go_wp2
      go_meet
      case rel => exact ⟨_, _, rfl, hA, Below.refl _ _⟩
    · go_wp2_with (at_make; refine wpList_make_row _ rfl (.tmp 83) 31 rfl 9 i9 _ Try.underlying31 hi hz0 hz1 .i64 _ n0 rfl rfl (by rw [hz2]; omega) (by unfold maxLen; omega) w.heap.size w (by exact Below.refl _ _) (Nat.le_refl _) ?_; intro w1 cur1 hl1 hg1 hb1 _ hs1; obtain ⟨w2, hcp, hg2, hb2, hs2⟩ := copy_first (P := Try.prog) 31 3 9 w.heap.size n0 c0 w.heap.size w (some x0) cur1 ((List.range n0).map fun i => .string (N i)) Try.underlying31 size9 hg1 hl1 (by simp) (hA.src (Nat.le_refl _) hb1) (one_of _ (fun _ => rfl) _) hb1 (Nat.le_refl _))
      go_meet
      case rel => exact ⟨_, _, rfl, RowAt.made hg2.out, hb2⟩
  obtain ⟨aa, ca, rfl, hA1, hbA⟩ := hcut
  clear hA hi hz0 hz1 hz2
  go_upto_if 90 with fail
  go_cut [1] from 43 to 97 (fun s0 wd => ∃ ab cb, s0 = .slice ab n1 cb ∧ RowAt wd ab n1 (fun i => .int .i32 (D0 i)) ∧ Below wc.heap.size wc wd)
  case first =>
    have hB1 := hB.below (Nat.le_refl _) hbA
    rcases a1 with _ | x0
    · go_wp2
      go_meet
      case rel => exact ⟨_, _, rfl, hB1, Below.refl _ _⟩
    · go_wp2_with (at_make; refine wpList_make_row _ rfl (.tmp 92) 32 rfl 21 i21 _ Try.underlying32 gi gz0 gz1 .i64 _ n1 rfl rfl (by rw [gz2]; omega) (by unfold maxLen; omega) wc.heap.size wc (by exact Below.refl _ _) (Nat.le_refl _) ?_; intro w1 cur1 hl1 hg1 hb1 _ hs1; obtain ⟨w2, hcp, hg2, hb2, hs2⟩ := copy_first (P := Try.prog) 32 3 21 wc.heap.size n1 c1 wc.heap.size wc (some x0) cur1 ((List.range n1).map fun i => .int .i32 (D0 i)) Try.underlying32 size21 hg1 hl1 (by simp) (hB1.src (Nat.le_refl _) hb1) (one_of _ (fun _ => rfl) _) hb1 (Nat.le_refl _))
      go_meet
      case rel => exact ⟨_, _, rfl, RowAt.made hg2.out, hb2⟩
  obtain ⟨ab, cb, rfl, hB1, hbB⟩ := hcut
  have hA2 := hA1.below (Nat.le_refl _) hbB
  have hbB' : Below w.heap.size w wc := hbA.trans (hbB.mono hbA.size)
  clear hA1 hbA hbB hB
  go_upto_if 99 with fail
  go_cut [2] from 43 to 106 (fun s0 wd => ∃ ac cc, s0 = .slice ac n2 cc ∧ RowAt wd ac n2 (fun i => .int .i32 (D1 i)) ∧ Below wc.heap.size wc wd)
  case first =>
    have hC1 := hC.below (Nat.le_refl _) hbB'
    rcases a2 with _ | x0
    · go_wp2
      go_meet
      case rel => exact ⟨_, _, rfl, hC1, Below.refl _ _⟩
    · go_wp2_with (at_make; refine wpList_make_row _ rfl (.tmp 101) 32 rfl 21 i21 _ Try.underlying32 gi gz0 gz1 .i64 _ n2 rfl rfl (by rw [gz2]; omega) (by unfold maxLen; omega) wc.heap.size wc (by exact Below.refl _ _) (Nat.le_refl _) ?_; intro w1 cur1 hl1 hg1 hb1 _ hs1; obtain ⟨w2, hcp, hg2, hb2, hs2⟩ := copy_first (P := Try.prog) 32 3 21 wc.heap.size n2 c2 wc.heap.size wc (some x0) cur1 ((List.range n2).map fun i => .int .i32 (D1 i)) Try.underlying32 size21 hg1 hl1 (by simp) (hC1.src (Nat.le_refl _) hb1) (one_of _ (fun _ => rfl) _) hb1 (Nat.le_refl _))
      go_meet
      case rel => exact ⟨_, _, rfl, RowAt.made hg2.out, hb2⟩
  obtain ⟨ac, cc, rfl, hC1, hbC⟩ := hcut
  have hA3 := hA2.below (Nat.le_refl _) hbC
  have hB3 := hB1.below (Nat.le_refl _) hbC
  have hb3 : Below w.heap.size w wc := hbB'.trans (hbC.mono hbB'.size)
  clear hA2 hB1 hbB' hbC hC
  go_upto_if 108 with fail
  go_cut [3] from 43 to 115 (fun s0 wd => ∃ ad cd, s0 = .slice ad n3 cd ∧ RowAt wd ad n3 (fun i => .int .i32 (D2 i)) ∧ Below wc.heap.size wc wd)
  case first =>
    have hD1 := hD.below (Nat.le_refl _) hb3
    rcases a3 with _ | x0
    · go_wp2
      go_meet
      case rel => exact ⟨_, _, rfl, hD1, Below.refl _ _⟩
    · go_wp2_with (at_make; refine wpList_make_row _ rfl (.tmp 110) 32 rfl 21 i21 _ Try.underlying32 gi gz0 gz1 .i64 _ n3 rfl rfl (by rw [gz2]; omega) (by unfold maxLen; omega) wc.heap.size wc (by exact Below.refl _ _) (Nat.le_refl _) ?_; intro w1 cur1 hl1 hg1 hb1 _ hs1; obtain ⟨w2, hcp, hg2, hb2, hs2⟩ := copy_first (P := Try.prog) 32 3 21 wc.heap.size n3 c3 wc.heap.size wc (some x0) cur1 ((List.range n3).map fun i => .int .i32 (D2 i)) Try.underlying32 size21 hg1 hl1 (by simp) (hD1.src (Nat.le_refl _) hb1) (one_of _ (fun _ => rfl) _) hb1 (Nat.le_refl _))
      go_meet
      case rel => exact ⟨_, _, rfl, RowAt.made hg2.out, hb2⟩
  obtain ⟨ad, cd, rfl, hD3, hbD⟩ := hcut
  have hA4 := hA3.below (Nat.le_refl _) hbD
  have hB4 := hB3.below (Nat.le_refl _) hbD
  have hC4 := hC1.below (Nat.le_refl _) hbD
  have hb4 : Below w.heap.size w wc := hb3.trans (hbD.mono hb3.size)
  clear hA3 hB3 hC1 hb3 hbD hD
  by_cases h8 : 1048576 < 8 * (n0 + n1 + n2 + n3 + nb + m)
  · go_wp2
    go_ret
    exact ⟨rfl, hb4⟩
  go_wp2_with fail
  go_loopw [19, 20] (fun z i wx => ∃ (k : Nat) (s : Int), k ≤ n0 ∧ wx = wc ∧ i = .int .i64 k ∧ z = .int .i64 s ∧ 0 ≤ s ∧ s ≤ 1048576) (fun _ i _ => n0 - (intOf i).toNat)
  case atStart => exact ⟨0, _, by omega, rfl, rfl, rfl, by omega, by omega⟩
  case round =>
    obtain ⟨k, s, hk, rfl, rfl, rfl, hs0, hs1⟩ := hrel
    by_cases hlt : k < n0
    · obtain ⟨bn, on, rfl, _, hcn⟩ := hA4.pos (by omega)
      have hc := hcn k hlt
      have hsz := hN2 k hlt
      clear hcn
      by_cases hb2 : 1048576 < s + (N k).size
      · go_wp2
        go_ret
        exact ⟨rfl, hb4⟩
      go_wp2
      go_roundw
      case rel => exact ⟨k + 1, s + (N k).size, by omega, by first | rfl | trivial, by go_num, by go_num, by omega, by omega⟩
      case measure => simp [intOf]; omega
    · have hE4 := (HBL.out wr hb4).rowB
      have hA5 : Hid (∀ w', Below wr.heap.size wr w' → RowAt w' aa n0 fun i => .string (N i)) := fun w' h => hA4.below (Nat.le_refl _) h
      clear hA4 hN2
      go_wp2_with fail
      go_loopw [19, 21] (fun z i wx => ∃ (k : Nat) (s : Int), k ≤ nb ∧ wx = wr ∧ i = .int .i64 k ∧ z = .int .i64 s ∧ 0 ≤ s ∧ s ≤ 1048576) (fun _ i _ => nb - (intOf i).toNat)
      case atStart => exact ⟨0, _, by omega, rfl, rfl, rfl, hs0, hs1⟩
      case round =>
        obtain ⟨k2, s2, hk2, rfl, rfl, rfl, hs20, hs21⟩ := hrel
        by_cases hlt2 : k2 < nb
        · obtain ⟨bn, on, rfl, _, hcn⟩ := hE4.pos (by omega)
          have hc := hcn k2 hlt2
          have hsz := hL2 k2 hlt2
          clear hcn
          by_cases hb1 : 131072 < LB k2
          · go_wp2
            go_ret
            exact ⟨rfl, hb4⟩
          by_cases hb2 : 1048576 < s2 + 8 * LB k2
          · go_wp2
            go_ret
            exact ⟨rfl, hb4⟩
          go_wp2
          go_roundw
          case rel => exact ⟨k2 + 1, s2 + 8 * LB k2, by omega, by first | rfl | trivial, by go_num, by go_num, by omega, by omega⟩
          case measure => simp [intOf]; omega
        · clear hs0 hs1 hs20 hs21
          go_upto_if 178 with (go_at_call 19; refine (pfit_any ab ac ad a4 n1 cb n2 cc n3 cd nb c4 D0 D1 D2 AB LB CB X wr h1 h2 h3 hr0 hr1 hr2 hB4 hC4 hD3 (HBL.out wr hb4)).mono ?_; rintro e w' ⟨⟨b2, rfl, hfit⟩, rfl⟩)
          cases b2 with
          | false =>
            go_wp2
            go_ret
            exact ⟨rfl, hb4⟩
          | true => as_aux_lemma =>
            obtain ⟨e1, e2, hpos, hPF⟩ := hfit rfl
            subst e1 e2
            clear hfit
            by_cases hc0 : c < 0 ∨ n3 < c
            · go_wp2
              all_goals
                go_ret
                exact ⟨rfl, hb4⟩
            obtain ⟨kk, rfl⟩ := Int.eq_ofNat_of_zero_le (show 0 ≤ c by omega)
            have hkk : kk ≤ n3 := by omega
            obtain ⟨Bk, hBk⟩ : ∃ Bk : Nat → Nat, (fun j => (D0 j).toNat) = Bk := ⟨_, rfl⟩
            obtain ⟨F, hF⟩ : ∃ F : Nat → Nat, (fun j => (D1 j).toNat) = F := ⟨_, rfl⟩
            obtain ⟨R, hR⟩ : ∃ R : Nat → Nat, (fun j => (D2 j).toNat) = R := ⟨_, rfl⟩
            rw [hBk, hF, hR] at hPF
            have hB5 : Hid (∀ w', Below wr.heap.size wr w' → RowAt w' ab n3 fun i => .int .i32 (Bk i : Int)) := fun w' h => (hB4.congr (fun i hi => by rw [← hBk]; simp only; rw [Int.toNat_of_nonneg (hpos i hi).1])).below (Nat.le_refl _) h
            have hC5 : Hid (∀ w', Below wr.heap.size wr w' → RowAt w' ac n3 fun i => .int .i32 (F i : Int)) := fun w' h => (hC4.congr (fun i hi => by rw [← hF]; simp only; rw [Int.toNat_of_nonneg (hpos i hi).2.1])).below (Nat.le_refl _) h
            have hD5 : Hid (∀ w', Below wr.heap.size wr w' → RowAt w' ad n3 fun i => .int .i32 (R i : Int)) := fun w' h => (hD3.congr (fun i hi => by rw [← hR]; simp only; rw [Int.toNat_of_nonneg (hpos i hi).2.2])).below (Nat.le_refl _) h
            have HPF : Hid (PFit n3 nb Bk F R LB X) := hPF
            have hG4 := HG.out wr hb4
            have HB5 : Hid (∀ w', Below wr.heap.size wr w' → BlocksAt w' a4 nb AB LB CB X) := fun w' h => HBL.out w' (hb4.trans (h.mono hb4.size))
            have HG5 : Hid (∀ w', Below wr.heap.size wr w' → RowAt w' a6 m fun i => .int .u64 (NW i : Int)) := fun w' h => HG.out w' (hb4.trans (h.mono hb4.size))
            clear hc0 hPF hBk hF hR hpos hB4 hC4 hD3 hE4 HBL HG hr0 hr1 hr2 hL2
            go_wp2_with fail
            go_loopw [22] (fun i wx => ∃ k : Nat, k ≤ m ∧ wx = wr ∧ i = .int .i64 k) (fun i _ => m - (intOf i).toNat)
            case atStart => exact ⟨0, by omega, rfl, rfl⟩
            case round =>
              obtain ⟨k3, hk3, rfl, rfl⟩ := hrel
              by_cases hlt3 : k3 < m
              · obtain ⟨bn, on, rfl, _, hcn⟩ := hG4.pos (by omega)
                have hc := hcn k3 hlt3
                clear hcn
                by_cases hz : NW k3 = 0
                · go_wp2
                  go_ret
                  exact ⟨rfl, hb4⟩
                have hz1 : ((NW k3 : Int) == 0) = false := by simp; omega
                go_wp2
                go_roundw
                case rel => exact ⟨k3 + 1, by omega, by first | rfl | trivial, by go_num⟩
                case measure => simp [intOf]; omega
              · as_aux_lemma =>
                clear hG4
                have hcall0 := rw_any aa none none none a4 n0 ca 0 0 0 0 nb c4 Bk F R AB LB CB X wr (by omega) (.inl rfl) (.inl rfl) (.inl rfl) (HB5.out wr (Below.refl _ _)) (fun _ h => by omega)
                go_upto_region 49 with (first | (go_at_call 20; refine hcall0.mono ?_; clear hcall0; rintro e w1 ⟨p1, rfl, hp1, hS1, hb5⟩; have hcall1 : Calls Try.prog 21 #[.pointer (some ⟨p1, 0, none⟩)] w1 (fun e w' => e = .returned (.tuple #[.int .i64 (n0 : Int), .int .i64 0]) ∧ Below w1.heap.size w1 w') := ws_any aa a4 p1 wr.heap.size n0 ca 0 nb c4 Bk F R AB LB CB X w1 hp1 hS1) | (go_at_call 21; refine hcall1.mono ?_; clear hcall1; rintro e w2 ⟨rfl, hb6⟩))
                have hW2 : Below wr.heap.size wr w2 := hb5.trans (hb6.mono hb5.size)
                clear hp1 hS1 hb5 hb6
                have hcall2 := rw_any aa ab ac ad a4 n0 ca n3 cb cc cd nb c4 Bk F R AB LB CB X w2 (by omega) (hB5.out w2 hW2) (hC5.out w2 hW2) (hD5.out w2 hW2) (HB5.out w2 hW2) HPF.out
                go_upto_if 220 with (first | (go_at_call 20; refine hcall2.mono ?_; clear hcall2; rintro e w3 ⟨p3, rfl, hp3, hS3, hb7⟩; have hcall3 := ws_any aa a4 p3 w2.heap.size n0 ca n3 nb c4 Bk F R AB LB CB X w3 hp3 hS3) | (go_at_call 21; refine hcall3.mono ?_; clear hcall3; rintro e w4 ⟨rfl, hb8⟩))
                have hW4 : Below wr.heap.size wr w4 := hW2.trans ((hb7.trans (hb8.mono hb7.size)).mono hW2.size)
                clear hp3 hS3 hb7 hb8 hW2
                have hins := cnt_ins (m := m) NW HPF.out n0 hkk
                have hfit2 := fit_ins (m := m) NW HPF.out hkk
                have hnr : nrOf m ≤ 1 := by unfold nrOf; split <;> omega
                have Hins : Hid (mnS (cntAt (upd nb X (newX NW m)) (ins kk Bk nb) (ins kk F 0) (ins kk R (nrOf m))) n0 (n3 + 1) = min (mnS (cntAt X Bk F R) n0 n3) (popS NW m) ∧ mxS (cntAt (upd nb X (newX NW m)) (ins kk Bk nb) (ins kk F 0) (ins kk R (nrOf m))) (n3 + 1) = max (mxS (cntAt X Bk F R) n3) (popS NW m)) := hins
                have Hfit2 : Hid (PFit (n3 + 1) (nb + 1) (ins kk Bk nb) (ins kk F 0) (ins kk R (nrOf m)) (upd nb LB (nrOf m + m)) (upd nb X (newX NW m))) := hfit2
                clear hins hfit2 HPF
                generalize mnS (cntAt X Bk F R) n0 n3 = S1 at Hins ⊢
                generalize mxS (cntAt X Bk F R) n3 = L1 at Hins ⊢
                go_cut [29] from 43 to 220 (fun s29 wd => s29 = .int .i64 (nrOf m : Int) ∧ wd = w4)
                case first =>
                  by_cases hm0 : m = 0
                  · have hd : decide (0 < m) = false := by simp [hm0]
                    have hd2 : decide ((0 : Int) < (m : Int)) = false := by simp [hm0]
                    have hnp : ¬ (0 < m) := by omega
                    have hv : nrOf m = 0 := by rw [nrOf, if_neg hnp]
                    clear hm0
                    go_wp2
                    go_meet
                    case rel => exact ⟨by rw [hv]; rfl, rfl⟩
                  · have hmp : 0 < m := by omega
                    have hv : nrOf m = 1 := by rw [nrOf, if_pos hmp]
                    go_wp2
                    go_meet
                    case rel => exact ⟨by rw [hv]; rfl, rfl⟩
                obtain ⟨rfl, rfl⟩ := hcut
                obtain ⟨i30, ki, kz0, kz1, kz2⟩ := info_parts info30
                go_upto_if 226 with (at_make; refine wpList_make_row _ rfl (.tmp 223) 22 rfl 30 i30 _ Try.underlying22 ki kz0 kz1 .i64 _ (nrOf m + m) rfl (by omega) (by rw [kz2]; omega) (by unfold maxLen; omega) wc.heap.size wc (by exact Below.refl _ _) (Nat.le_refl _) ?_; intro w5 cur5 hl5 hg5 hb5 _ hs5)
                have HR : Hid (∀ wi, Below wc.heap.size w5 wi → Below wr.heap.size wr wi) := fun wi h => hW4.trans ((hb5.trans h).mono hW4.size)
                have hgr : wr.heap.size ≤ wc.heap.size := hW4.size
                have hlaid : LaidG w5 wc.heap.size 30 (nrOf m + m) 0 (fun i => .int .u64 (newX NW m i : Int)) := ⟨cur5, hl5, hg5.out, fun _ h => by omega⟩
                clear hl5 hg5 hb5 hW4
                generalize wc.heap.size = gc at hlaid HR hgr hs5 ⊢
                go_cut [30] from 43 to 231 (fun s30 wd => s30 = .slice (some ⟨gc, 0, none⟩) (nrOf m + m) (nrOf m + m) ∧ LaidG wd gc 30 (nrOf m + m) (nrOf m) (fun i => .int .u64 (newX NW m i : Int)) ∧ Below gc w5 wd)
                case first =>
                  by_cases hm0 : m = 0
                  · have hd : decide (0 < m) = false := by simp [hm0]
                    have hd2 : decide ((0 : Int) < (m : Int)) = false := by simp [hm0]
                    have hnp : ¬ (0 < m) := by omega
                    have hv : nrOf m = 0 := by rw [nrOf, if_neg hnp]
                    have hlaid' : LaidG w5 gc 30 (nrOf m + m) (nrOf m) (fun i => .int .u64 (newX NW m i : Int)) := by
                      obtain ⟨cc0, q1, q2, q3⟩ := hlaid
                      exact ⟨cc0, q1, q2, fun i hi => by omega⟩
                    clear hm0
                    go_wp2
                    go_meet
                    case rel => exact ⟨rfl, hlaid', Below.refl _ _⟩
                  · have hmp : 0 < m := by omega
                    have hv : nrOf m = 1 := by rw [nrOf, if_pos hmp]
                    have hx0 : newX NW m 0 = m * 4294967296 := by unfold newX; rw [if_pos ⟨hmp, rfl⟩]
                    obtain ⟨⟨u0, hc5⟩, hf5⟩ := hlaid.cell (i := 0) (by omega)
                    have hstep := hlaid.step (by omega)
                    simp only [hx0] at hstep
                    have hst2 : LaidG (w5.setCell ⟨gc, 0, none⟩ (.int .u64 ((m * 4294967296 : Nat) : Int))) gc 30 (nrOf m + m) (nrOf m) (fun i => .int .u64 (newX NW m i : Int)) := by rw [hv] at hstep ⊢; exact hstep
                    have hbb : Below gc w5 (w5.setCell ⟨gc, 0, none⟩ (.int .u64 ((m * 4294967296 : Nat) : Int))) := (Below.refl _ _).setCell (p := ⟨gc, 0, none⟩) (Nat.le_refl _) _
                    have e32 : IntKind.u64.wrap ((m : Int) * 4294967296) = ((m * 4294967296 : Nat) : Int) := wrapN (by simp) (by omega)
                    go_wp2
                    go_meet
                    case rel => exact ⟨rfl, hst2, hbb⟩
                obtain ⟨rfl, hlaid2, hb6⟩ := hcut
                clear hlaid
                go_wp2_with fail
                go_loopw [31] (fun i wi => ∃ t : Nat, t ≤ m ∧ i = .int .i64 t ∧ LaidG wi gc 30 (nrOf m + m) (nrOf m + t) (fun i => .int .u64 (newX NW m i : Int)) ∧ Below gc w5 wi) (fun i _ => m - (intOf i).toNat)
                case atStart => exact ⟨0, by omega, rfl, hlaid2, hb6⟩
                case round =>
                  obtain ⟨t4, ht4, rfl, hlt4, hbi⟩ := hrel
                  by_cases htm : t4 < m
                  · obtain ⟨bn, on, rfl, _, hcn⟩ := (HG5.out wr (HR.out wr hbi)).pos (by omega)
                    have hcc := hcn t4 htm
                    obtain ⟨⟨u0, hc5⟩, hf5⟩ := hlt4.cell (i := nrOf m + t4) (by omega)
                    have hstep := hlt4.step (by omega)
                    have hv : nrOf m = 1 := by rw [nrOf, if_pos (by omega)]
                    have hx0 : newX NW m (nrOf m + t4) = NW t4 := by
                      unfold newX
                      rw [if_neg (by omega), show nrOf m + t4 - nrOf m = t4 by omega]
                    simp only [hx0] at hstep
                    have e1 : IntKind.i64.wrap ((nrOf m : Int) + (t4 : Int)) = ((nrOf m + t4 : Nat) : Int) := by rw [IntKind.wrap_i64]; omega
                    clear hcn hx0 hv
                    go_wp2
                    go_roundw
                    case rel => exact ⟨t4 + 1, by omega, by go_num, hstep, hbi.setCell (Nat.le_refl _) _⟩
                    case measure => simp [intOf]; omega
                  · as_aux_lemma =>
                    obtain rfl : t4 = m := by omega
                    have hcells := hlt4.all
                    have hsz5 : w5.heap.size ≤ wr.heap.size := hbi.size
                    clear hlt4 hlaid2 hb6
                    obtain ⟨i22, li, lz0, lz1, lz2⟩ := info_parts info22
                    go_wp2_with (at_make; refine wpList_make_row _ rfl (.tmp 248) 28 rfl 22 i22 _ Try.underlying28 li lz0 lz1 .i64 _ (nb + 1) rfl (by omega) (by rw [lz2]; omega) (by unfold maxLen; omega) wr.heap.size wr (by exact Below.refl _ _) (Nat.le_refl _) ?_; intro w6 cur6 hl6 hg6 hb6 _ hs6)
                    have HR2 : Hid (∀ wi, Below wr.heap.size w6 wi → Below gc w5 wi) := fun wi h => hbi.trans ((hb6.trans h).mono (by omega))
                    have Hcells : Hid (∀ wi, Below wr.heap.size w6 wi → RowAt wi (some ⟨gc, 0, none⟩) (nrOf t4 + t4) fun i => .int .u64 (newX NW t4 i : Int)) := fun wi h => hcells.below (Nat.le_refl _) (hb6.trans h)
                    have hlaid : LaidG w6 wr.heap.size 22 (nb + 1) 0 (fun i => .slice (upd nb AB (some ⟨gc, 0, none⟩) i) (upd nb LB (nrOf t4 + t4) i) (upd nb CB (nrOf t4 + t4) i)) := ⟨cur6, hl6, hg6.out, fun _ h => by omega⟩
                    have hgB : gc ≤ wr.heap.size := by omega
                    clear hcells hl6 hg6 hb6 hbi hsz5 hs5
                    generalize wr.heap.size = gB at HR2 Hcells hlaid hgB hs6 ⊢
                    go_loopw [33] (fun i wi => ∃ t : Nat, t ≤ nb ∧ i = .int .i64 t ∧ LaidG wi gB 22 (nb + 1) t (fun i => .slice (upd nb AB (some ⟨gc, 0, none⟩) i) (upd nb LB (nrOf t4 + t4) i) (upd nb CB (nrOf t4 + t4) i)) ∧ Below gB w6 wi) (fun i _ => nb - (intOf i).toNat)
                    case atStart => exact ⟨0, by omega, rfl, hlaid, Below.refl _ _⟩
                    case round =>
                      obtain ⟨t5, ht5, rfl, hlt5, hbi⟩ := hrel
                      by_cases htm5 : t5 < nb
                      · obtain ⟨bn, on, rfl, _, hcn⟩ := (HB5.out wr (HR.out wr (HR2.out wr hbi))).rowB.pos (by omega)
                        have hcc := hcn t5 htm5
                        obtain ⟨⟨u0, hc5⟩, hf5⟩ := hlt5.cell (i := t5) (by omega)
                        have hstep := hlt5.step (by omega)
                        simp only [upd_ne (show t5 ≠ nb by omega)] at hstep
                        clear hcn
                        go_wp2
                        go_roundw
                        case rel => exact ⟨t5 + 1, by omega, by go_num, hstep, hbi.setCell (Nat.le_refl _) _⟩
                        case measure => simp [intOf]; omega
                      · as_aux_lemma =>
                        obtain rfl : t5 = nb := by omega
                        obtain ⟨⟨u0, hc5⟩, hf5⟩ := hlt5.cell (i := t5) (by omega)
                        have hstep := hlt5.step (by omega)
                        simp only [upd_eq] at hstep
                        have hbq := hbi.setCell (p := ⟨gB, t5, none⟩) (Nat.le_refl _) (.slice (some ⟨gc, 0, none⟩) (nrOf t4 + t4) (nrOf t4 + t4))
                        clear hlaid hlt5 hbi
                        go_upto_region 68 with fail
                        clear hc5 hf5
                        generalize wr.setCell ⟨gB, t5, none⟩ (.slice (some ⟨gc, 0, none⟩) (nrOf t4 + t4) (nrOf t4 + t4)) = wq at hstep hbq ⊢
                        have hBL2 := blocks_upd (m := t4) gB NW (HB5.out wq (HR.out wq (HR2.out wq hbq))) h6 h4 hNW hstep.all (Hcells.out wq hbq)
                        have hgq : gB < wq.heap.size := Nat.lt_of_lt_of_le hs6 hbq.size
                        go_upto_region 69 with (at_make; refine wpList_make_row _ rfl (.tmp 271) 32 rfl 21 i21 _ Try.underlying32 gi gz0 gz1 .i64 _ (n3 + 1) rfl (by omega) (by rw [gz2]; omega) (by unfold maxLen; omega) wq.heap.size wq (by exact Below.refl _ _) (Nat.le_refl _) ?_; intro w7 cur7 hl7 hg7 hb7 _ hs7)
                        go_upto_region 70 with (at_make; refine wpList_make_row _ rfl (.tmp 273) 32 rfl 21 i21 _ Try.underlying32 gi gz0 gz1 .i64 _ (n3 + 1) rfl (by omega) (by rw [gz2]; omega) (by unfold maxLen; omega) w7.heap.size w7 (by exact Below.refl _ _) (Nat.le_refl _) ?_; intro w8 cur8 hl8 hg8 hb8 _ hs8)
                        go_upto_region 71 with (at_make; refine wpList_make_row _ rfl (.tmp 275) 32 rfl 21 i21 _ Try.underlying32 gi gz0 gz1 .i64 _ (n3 + 1) rfl (by omega) (by rw [gz2]; omega) (by unfold maxLen; omega) w8.heap.size w8 (by exact Below.refl _ _) (Nat.le_refl _) ?_; intro w9 cur9 hl9 hg9 hb9 _ hs9)
                        have HQ1 : Hid (∀ wi, Below wq.heap.size w9 wi → Below wq.heap.size wq wi) := fun wi h => hb7.trans ((hb8.mono (by omega)).trans ((hb9.mono (by omega)).trans h))
                        have HQ2 : Hid (∀ wi, Below wq.heap.size w9 wi → Below gc w5 wi) := fun wi h => HR2.out wi (hbq.trans ((HQ1.out wi h).mono (by omega)))
                        have HBL2 : Hid (∀ wi, Below wq.heap.size w9 wi → BlocksAt wi (some ⟨gB, 0, none⟩) (t5 + 1) (upd t5 AB (some ⟨gc, 0, none⟩)) (upd t5 LB (nrOf t4 + t4)) (upd t5 CB (nrOf t4 + t4)) (upd t5 X (newX NW t4))) := fun wi h => hBL2.below (Nat.le_refl _) (HQ1.out wi h)
                        have l1 : LaidG w9 wq.heap.size 21 (n3 + 1) 0 (fun j => .int .i32 (ins kk Bk t5 j : Int)) := ⟨cur7, hl7, ((hb9.block _ (by omega)).trans (hb8.block _ hs7)).trans hg7.out, fun _ h => by omega⟩
                        have l2 : LaidG w9 w7.heap.size 21 (n3 + 1) 0 (fun j => .int .i32 (ins kk F 0 j : Int)) := ⟨cur8, hl8, (hb9.block _ hs8).trans hg8.out, fun _ h => by omega⟩
                        have l3 : LaidG w9 w8.heap.size 21 (n3 + 1) 0 (fun j => .int .i32 (ins kk R (nrOf t4) j : Int)) := ⟨cur9, hl9, hg9.out, fun _ h => by omega⟩
                        clear hstep hBL2 HQ1 hl7 hg7 hb7 hl8 hg8 hb8 hl9 hg9 hb9 HR2 Hcells hbq
                        generalize wq.heap.size = g1 at *
                        generalize w7.heap.size = g2 at *
                        generalize w8.heap.size = g3 at *
                        go_wp2_with fail
                        go_loopw [38] (fun i wi => ∃ t : Nat, t ≤ n3 + 1 ∧ i = .int .i64 t ∧ LaidG wi g1 21 (n3 + 1) t (fun j => .int .i32 (ins kk Bk t5 j : Int)) ∧ LaidG wi g2 21 (n3 + 1) t (fun j => .int .i32 (ins kk F 0 j : Int)) ∧ LaidG wi g3 21 (n3 + 1) t (fun j => .int .i32 (ins kk R (nrOf t4) j : Int)) ∧ Below g1 w9 wi) (fun i _ => n3 + 1 - (intOf i).toNat)
                        case atStart => exact ⟨0, by omega, rfl, l1, l2, l3, Below.refl _ _⟩
                        case round =>
                          obtain ⟨t6, ht6, rfl, m1, m2, m3, hbi⟩ := hrel
                          by_cases htm6 : t6 < n3 + 1
                          · have hlaid := laid_three m1 m2 m3 htm6 hs7 hs8
                            obtain ⟨⟨u1, y1⟩, z1⟩ := m1.cell htm6
                            obtain ⟨⟨u2, y2⟩, z2⟩ := (m2.other (g' := g1) (i := t6) (by omega) (.int .i32 (ins kk Bk t5 t6 : Int))).cell htm6
                            obtain ⟨⟨u3, y3⟩, z3⟩ := ((m3.other (g' := g1) (i := t6) (by omega) (.int .i32 (ins kk Bk t5 t6 : Int))).other (g' := g2) (i := t6) (by omega) (.int .i32 (ins kk F 0 t6 : Int))).cell htm6
                            have p1 := hbi.setCell (p := ⟨g1, t6, none⟩) (Nat.le_refl _) (.int .i32 (ins kk Bk t5 t6 : Int))
                            have p2 := p1.setCell (p := ⟨g2, t6, none⟩) (by simp; omega) (.int .i32 (ins kk F 0 t6 : Int))
                            have p3 := p2.setCell (p := ⟨g3, t6, none⟩) (by simp; omega) (.int .i32 (ins kk R (nrOf t4) t6 : Int))
                            by_cases hk6 : t6 < kk
                            · as_aux_lemma =>
                              obtain ⟨b1, o1, rfl, _, _⟩ := (hB5.out wr (HR.out wr (HQ2.out wr hbi))).pos (by omega)
                              obtain ⟨b2, o2, rfl, _, _⟩ := (hC5.out wr (HR.out wr (HQ2.out wr hbi))).pos (by omega)
                              obtain ⟨b3, o3, rfl, _, _⟩ := (hD5.out wr (HR.out wr (HQ2.out wr hbi))).pos (by omega)
                              have x1 := (hB5.out wr (HR.out wr (HQ2.out wr hbi))).nth (i := t6) (by omega)
                              have x2 := (hC5.out _ (HR.out _ (HQ2.out _ p1))).nth (i := t6) (by omega)
                              have x3 := (hD5.out _ (HR.out _ (HQ2.out _ p2))).nth (i := t6) (by omega)
                              simp only [ins_lt hk6] at hlaid y2 z2 y3 z3 p3 x2 x3
                              clear p1 p2 m1 m2 m3
                              go_wp2
                              go_roundw
                              case rel => exact ⟨t6 + 1, by omega, by go_num, hlaid.1, hlaid.2.1, hlaid.2.2, p3⟩
                              case measure => simp [intOf]; omega
                            · by_cases hk7 : t6 = kk
                              · as_aux_lemma =>
                                subst hk7
                                have q1 : IntKind.i32.wrap (t5 : Int) = (t5 : Int) := i32N (by omega)
                                have q2 : IntKind.i32.wrap (nrOf t4 : Int) = (nrOf t4 : Int) := i32N (by omega)
                                have q3 : (((0 : Nat)) : Int) = 0 := rfl
                                simp only [ins_eq, q3] at hlaid y2 z2 y3 z3 p3
                                clear p1 p2 m1 m2 m3 q3
                                go_wp2
                                go_roundw
                                case rel => exact ⟨t6 + 1, by omega, by go_num, hlaid.1, hlaid.2.1, hlaid.2.2, p3⟩
                                case measure => simp [intOf]; omega
                              · as_aux_lemma =>
                                obtain ⟨b1, o1, rfl, _, _⟩ := (hB5.out wr (HR.out wr (HQ2.out wr hbi))).pos (by omega)
                                obtain ⟨b2, o2, rfl, _, _⟩ := (hC5.out wr (HR.out wr (HQ2.out wr hbi))).pos (by omega)
                                obtain ⟨b3, o3, rfl, _, _⟩ := (hD5.out wr (HR.out wr (HQ2.out wr hbi))).pos (by omega)
                                have x1 := (hB5.out wr (HR.out wr (HQ2.out wr hbi))).nth (i := t6 - 1) (by omega)
                                have x2 := (hC5.out _ (HR.out _ (HQ2.out _ p1))).nth (i := t6 - 1) (by omega)
                                have x3 := (hD5.out _ (HR.out _ (HQ2.out _ p2))).nth (i := t6 - 1) (by omega)
                                have q0 : ∀ (f : Nat → Nat) (v : Nat), ins kk f v t6 = f (t6 - 1) := fun f v => by rw [ins, if_neg hk6, if_neg hk7]
                                have q1 : ((t6 : Int) == (kk : Int)) = false := by simp; omega
                                have q2 : IntKind.i64.wrap ((t6 : Int) - 1) = ((t6 - 1 : Nat) : Int) := by rw [IntKind.wrap_i64]; omega
                                simp only [q0] at hlaid y2 z2 y3 z3 p3 x2 x3
                                clear p1 p2 m1 m2 m3 q0
                                go_wp2
                                go_roundw
                                case rel => exact ⟨t6 + 1, by omega, by go_num, hlaid.1, hlaid.2.1, hlaid.2.2, p3⟩
                                case measure => simp [intOf]; omega
                          · as_aux_lemma =>
                            obtain rfl : t6 = n3 + 1 := by omega
                            have hcall4 := rw_any aa (some ⟨g1, 0, none⟩) (some ⟨g2, 0, none⟩) (some ⟨g3, 0, none⟩) (some ⟨gB, 0, none⟩) n0 ca (n3 + 1) (n3 + 1) (n3 + 1) (n3 + 1) (t5 + 1) (t5 + 1) _ _ _ _ _ _ _ wr (by omega) m1.all m2.all m3.all (HBL2.out wr hbi) Hfit2.out
                            have hbw : Hid (∀ wi, Below wr.heap.size wr wi → Below gc w5 wi) := fun wi h => HQ2.out wi (hbi.trans (h.mono (by have := hbi.size; omega)))
                            clear m1 m2 m3 l1 l2 l3 hbi HBL2 HQ2
                            go_upto_region 86 with (first | (go_at_call 20; refine hcall4.mono ?_; clear hcall4; rintro e w10 ⟨p10, rfl, hp10, hS10, hb10⟩; have hcall5 := ws_any _ _ p10 _ n0 ca (n3 + 1) (t5 + 1) (t5 + 1) _ _ _ _ _ _ _ w10 hp10 hS10; rw [Hins.out.1, Hins.out.2] at hcall5) | (go_at_call 21; refine hcall5.mono ?_; clear hcall5; rintro e w11 ⟨rfl, hb11⟩))
                            have hW11 := HR.out w11 (hbw.out w11 (hb10.trans (hb11.mono hb10.size)))
                            have hG11 := HG5.out w11 hW11
                            have hfin : Below w.heap.size w w11 := hb4.trans (hW11.mono hb4.size)
                            have hpl := popS_le NW t4
                            clear hp10 hS10 hb10 hb11 hW11 hbw hB5 hC5 hD5 hA5 HB5 HG5 HR Hins Hfit2
                            go_wp2_with fail
                            go_loopw [41, 42] (fun z i wi => ∃ t : Nat, t ≤ t4 ∧ wi = w11 ∧ i = .int .i64 t ∧ z = .int .i64 (popS NW t : Int)) (fun _ i _ => t4 - (intOf i).toNat)
                            case atStart => exact ⟨0, by omega, rfl, rfl, rfl⟩
                            case round =>
                              obtain ⟨t7, ht7, rfl, rfl, rfl⟩ := hrel
                              by_cases htm7 : t7 < t4
                              · obtain ⟨b1, o1, rfl, _, hcn⟩ := hG11.pos (by omega)
                                have hcc := hcn t7 htm7
                                have hps := popS_le NW t7
                                have hp1 := pop_le (NW t7)
                                have hsum : IntKind.i64.wrap ((popS NW t7 : Int) + (pop (NW t7) : Int)) = (popS NW (t7 + 1) : Int) := by rw [IntKind.wrap_i64]; simp only [popS]; omega
                                clear hcn
                                go_wp2_with (go_at_call 22; refine (zones_any (NW t7) (hNW t7) wr).mono ?_; rintro e w' ⟨rfl, rfl⟩)
                                go_roundw
                                case rel => exact ⟨t7 + 1, by omega, by first | rfl | trivial, by go_num, rfl⟩
                                case measure => simp [intOf]; omega
                              · obtain rfl : t7 = t4 := by omega
                                have hmin := zmin_any (S1 : Int) (popS NW t7 : Int) wr
                                have hmax := zmax_any (L1 : Int) (popS NW t7 : Int) wr
                                have e1 : (if (S1 : Int) < (popS NW t7 : Int) then (S1 : Int) else (popS NW t7 : Int)) = ((min S1 (popS NW t7) : Nat) : Int) := by split <;> omega
                                have e2 : (if (popS NW t7 : Int) < (L1 : Int) then (L1 : Int) else (popS NW t7 : Int)) = ((max L1 (popS NW t7) : Nat) : Int) := by split <;> omega
                                rw [e1] at hmin
                                rw [e2] at hmax
                                clear e1 e2
                                generalize min S1 (popS NW t7) = mA at *
                                generalize max L1 (popS NW t7) = mB at *
                                go_wp2_with (first | (go_at_call 23; refine hmin.mono ?_; rintro e w' ⟨rfl, rfl⟩) | (go_at_call 24; refine hmax.mono ?_; rintro e w' ⟨rfl, rfl⟩))
                                go_ret
                                exact ⟨rfl, hfin⟩
end Go.Proofs.Qxb6614810a

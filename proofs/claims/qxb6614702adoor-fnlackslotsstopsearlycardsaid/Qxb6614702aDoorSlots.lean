/-
  WALKS: Lack.Slots under a yield that captures one box (ZZallSlots) and two (ZZfirstSlots).
-/
import Derived.Test.Qxb6614702aDoorLack
namespace Go.Proofs.Qxb6614702aDoor
open Go.RowKit
theorem wrap_i64 {n : Int} (h1 : -9223372036854775808 ≤ n) (h2 : n ≤ 9223372036854775807) : IntKind.i64.wrap n = n := by
  simp [IntKind.wrap, IntKind.bits, IntKind.signed]; omega

theorem slots_prefix {A : Nat → Int} {B : Nat → Nat} {k n : Nat} {done rest : List Int} {y : Int} (hk : k < n) (h : done ++ y :: rest = slotsOf (A k, B k)) : (slots (chunks A B k) ++ done) ++ [y] <+: slots (chunks A B n) := by
  rw [chunks_cut A B n (k + 1) (by omega), slots_append, slots_succ, ← h]
  exact ⟨rest ++ slots (chunks (fun i => A (k + 1 + i)) (fun i => B (k + 1 + i)) (n - (k + 1))), by simp⟩

set_option maxHeartbeats 1000000 in
theorem slots_all (R S : List Int → World → Prop) (Bx g n : Nat) (A : Nat → Int) (B : Nat → Nat) (w : World) (hn : n ≤ 4096) (hva : ∀ i, i < n → 0 ≤ A i ∧ A i < 16777216 ∧ B i < 18446744073709551616)
    (hR : ∀ l W o, R l W → R l (W.alloc o)) (hD : ∀ l W q, R l W → R l (W.drewN q)) (hT : ∀ l W, R l W → TabAt W)
    (hy : ∀ l x W, R l W → l ++ [x] <+: slots (chunks A B n) → Calls Tryd.prog 24 #[.int .i64 x, .pointer (some ⟨Bx, 0, none⟩)] W fun e W' =>
      ∃ b, e = .returned (.bool b) ∧ (b = true → R (l ++ [x]) W' ∧ KeepT 56 W W') ∧ (b = false → S (l ++ [x]) W'))
    (hrow : ChunkRow w g n A B) (h0 : R [] w) :
    Calls Tryd.prog 23 #[.agg #[.slice (some ⟨g, 0, none⟩) n n], .func (.func 24) #[] #[.pointer (some ⟨Bx, 0, none⟩)]] w fun e w' => e = .returned (.tuple #[]) ∧
      (R (slots (chunks A B n)) w' ∨ ∃ pre, pre <+: slots (chunks A B n) ∧ S pre w') := by
  go_enter Tryd.func23, Tryd.ntmps23
  go_wp2
  go_loopw [5, 6, 10] (fun _ _ i wr => ∃ k : Nat, k ≤ n ∧ i = .int .i64 k ∧ R (slots (chunks A B k)) wr ∧ ChunkRow wr g n A B) (fun _ _ i _ => n - (intOf i).toNat)
  case atStart => exact ⟨0, by omega, rfl, hR _ _ _ h0, hrow.keep (KeepT.alloc _ _ _)⟩
  case round =>
    obtain ⟨k, hk, rfl, hRk, hrowk⟩ := hrel
    by_cases hlt : k < n
    · obtain ⟨hcA, hcB⟩ := hrowk.cells hlt
      have hv := hva k hlt
      go_wp2
      have hbox := heap_alloc_new wr (.cells #[.int .i64 (A k), .int .u64 (B k : Int)] 56)
      have hR1 := hR _ _ (.cells #[.int .i64 (A k), .int .u64 (B k : Int)] 56) hRk
      have hr1 := hrowk.keep (KeepT.alloc 56 wr (.cells #[.int .i64 (A k), .int .u64 (B k : Int)] 56))
      generalize wr.alloc (.cells #[.int .i64 (A k), .int .u64 (B k : Int)] 56) = W1 at hbox hR1 hr1 ⊢
      generalize wr.heap.size = P at hbox ⊢
      clear hcA hcB hRk hrowk
      go_loopw [6] (fun b wr2 => ∃ (x : Nat) (done : List Int), b = .int .u64 x ∧ x < 18446744073709551616 ∧ done ++ (bitsOf x).map (fun i : Nat => 64 * A k + (i : Int)) = slotsOf (A k, B k) ∧ R (slots (chunks A B k) ++ done) wr2 ∧ ChunkRow wr2 g n A B ∧ wr2.heap[P]? = some (.cells #[.int .i64 (A k), .int .u64 (B k : Int)] 56 (0, 0))) (fun b _ => (bitsOf (intOf b).toNat).length)
      case atStart => exact ⟨B k, [], rfl, hv.2.2, by simp [slotsOf], by simpa using hR1, hr1, hbox⟩
      case round =>
        obtain ⟨x, done, rfl, hx, hdone, hRx, hrx, hbx⟩ := hrel
        have HD : Hid (done ++ (bitsOf x).map (fun i : Nat => 64 * A k + (i : Int)) = slotsOf (A k, B k)) := hdone
        clear hdone hR1 hr1 hbox
        by_cases hx0 : x = 0
        · have hz : ((x : Int) != 0) = false := by simp [hx0]
          have HX : Hid (x = 0) := hx0
          clear hx0
          go_wp2
          go_roundw
          case rel =>
            refine ⟨k + 1, by omega, by go_num, ?_, hrx⟩
            have hd := HD.out
            rw [HX.out, bitsOf_zero, List.map_nil, List.append_nil] at hd
            rw [slots_succ, ← hd]
            exact hRx
          case measure => simp [intOf]; omega
        · have hz : ((x : Int) != 0) = true := by simp [hx0]
          have HX : Hid (x ≠ 0) := hx0
          clear hx0
          have hcA : wr.cell? ⟨P, 0, none⟩ = some (.int .i64 (A k)) := by rw [cell_of_row _ _ _ _ _ _ hbx]; rfl
          have hc : Lib.ctz 64 x < 64 := (low_bits x HX.out hx).1
          obtain ⟨hv0, hv1, hv2⟩ := hv
          have hstep : Hid (done ++ (64 * A k + (Lib.ctz 64 x : Int)) :: (bitsOf (x &&& (x - 1))).map (fun i : Nat => 64 * A k + (i : Int)) = slotsOf (A k, B k)) := by
            have hd := HD.out
            rw [bitsOf_step x HX.out hx, List.map_cons] at hd
            exact hd
          have hpre : (slots (chunks A B k) ++ done) ++ [64 * A k + (Lib.ctz 64 x : Int)] <+: slots (chunks A B n) := slots_prefix hlt hstep.out
          have hY := hy _ _ _ (hD _ _ 1 hRx) hpre
          rw [← World.drew_is_drewN] at hY
          have HY := hY
          clear hY
          have hand := and_step x HX.out hx
          have hTw : TabAt wr := hT _ _ hRx
          have e1 : IntKind.i64.wrap (64 * A k) = 64 * A k := wrap_i64 (by omega) (by omega)
          have e2 : IntKind.i64.wrap (64 * A k + (Lib.ctz 64 x : Int)) = 64 * A k + (Lib.ctz 64 x : Int) := wrap_i64 (by omega) (by omega)
          go_wp2
          go_region_with (first
            | (go_at_call 30; refine (tz64_any x hx HX.out _ (by exact hTw)).mono ?_; rintro e w' ⟨rfl, rfl⟩)
            | (go_at_call 24; refine HY.mono ?_; rintro e w' ⟨b, rfl, hb1, hb2⟩))
          all_goals
            cases b
            · have hS := hb2 rfl
              clear hb1 hb2 HY hand e1 e2 hcA
              go_wp2
              refine bodyPost_ret (results_none rfl _ _ _) rfl ?_
              exact ⟨rfl, .inr ⟨_, hpre, hS⟩⟩
            · obtain ⟨hR2, hK2⟩ := hb1 rfl
              clear hb1 hb2 HY e1 e2 hcA
              have hx1 : 1 ≤ x := by have := HX.out; omega
              go_wp2
              go_roundw
              case rel =>
                refine ⟨x &&& (x - 1), done ++ [64 * A k + (Lib.ctz 64 x : Int)], by first | rfl | rw [hand], and_pred_lt x hx, ?_, ?_, hrx.keep hK2, hK2 _ _ hbx⟩
                · rw [← hstep.out]; simp
                · rw [← List.append_assoc]; exact hR2
              case measure =>
                have hb := congrArg List.length (bitsOf_step x HX.out hx)
                simp only [intOf, Int.toNat_natCast, List.length_cons] at hb ⊢
                omega
    · go_wp2
      go_end0
      obtain rfl : k = n := by omega
      exact ⟨rfl, .inl hRk⟩

set_option maxHeartbeats 1000000 in
theorem slots_first (R S : List Int → World → Prop) (Bx Bl g n : Nat) (A : Nat → Int) (B : Nat → Nat) (w : World) (hn : n ≤ 4096) (hva : ∀ i, i < n → 0 ≤ A i ∧ A i < 16777216 ∧ B i < 18446744073709551616)
    (hR : ∀ l W o, R l W → R l (W.alloc o)) (hD : ∀ l W q, R l W → R l (W.drewN q)) (hT : ∀ l W, R l W → TabAt W)
    (hy : ∀ l x W, R l W → l ++ [x] <+: slots (chunks A B n) → Calls Tryd.prog 25 #[.int .i64 x, .pointer (some ⟨Bx, 0, none⟩), .pointer (some ⟨Bl, 0, none⟩)] W fun e W' =>
      ∃ b, e = .returned (.bool b) ∧ (b = true → R (l ++ [x]) W' ∧ KeepT 56 W W') ∧ (b = false → S (l ++ [x]) W'))
    (hrow : ChunkRow w g n A B) (h0 : R [] w) :
    Calls Tryd.prog 23 #[.agg #[.slice (some ⟨g, 0, none⟩) n n], .func (.func 25) #[] #[.pointer (some ⟨Bx, 0, none⟩), .pointer (some ⟨Bl, 0, none⟩)]] w fun e w' => e = .returned (.tuple #[]) ∧
      (R (slots (chunks A B n)) w' ∨ ∃ pre, pre <+: slots (chunks A B n) ∧ S pre w') := by
  go_enter Tryd.func23, Tryd.ntmps23
  go_wp2
  go_loopw [5, 6, 10] (fun _ _ i wr => ∃ k : Nat, k ≤ n ∧ i = .int .i64 k ∧ R (slots (chunks A B k)) wr ∧ ChunkRow wr g n A B) (fun _ _ i _ => n - (intOf i).toNat)
  case atStart => exact ⟨0, by omega, rfl, hR _ _ _ h0, hrow.keep (KeepT.alloc _ _ _)⟩
  case round =>
    obtain ⟨k, hk, rfl, hRk, hrowk⟩ := hrel
    by_cases hlt : k < n
    · obtain ⟨hcA, hcB⟩ := hrowk.cells hlt
      have hv := hva k hlt
      go_wp2
      have hbox := heap_alloc_new wr (.cells #[.int .i64 (A k), .int .u64 (B k : Int)] 56)
      have hR1 := hR _ _ (.cells #[.int .i64 (A k), .int .u64 (B k : Int)] 56) hRk
      have hr1 := hrowk.keep (KeepT.alloc 56 wr (.cells #[.int .i64 (A k), .int .u64 (B k : Int)] 56))
      generalize wr.alloc (.cells #[.int .i64 (A k), .int .u64 (B k : Int)] 56) = W1 at hbox hR1 hr1 ⊢
      generalize wr.heap.size = P at hbox ⊢
      clear hcA hcB hRk hrowk
      go_loopw [6] (fun b wr2 => ∃ (x : Nat) (done : List Int), b = .int .u64 x ∧ x < 18446744073709551616 ∧ done ++ (bitsOf x).map (fun i : Nat => 64 * A k + (i : Int)) = slotsOf (A k, B k) ∧ R (slots (chunks A B k) ++ done) wr2 ∧ ChunkRow wr2 g n A B ∧ wr2.heap[P]? = some (.cells #[.int .i64 (A k), .int .u64 (B k : Int)] 56 (0, 0))) (fun b _ => (bitsOf (intOf b).toNat).length)
      case atStart => exact ⟨B k, [], rfl, hv.2.2, by simp [slotsOf], by simpa using hR1, hr1, hbox⟩
      case round =>
        obtain ⟨x, done, rfl, hx, hdone, hRx, hrx, hbx⟩ := hrel
        have HD : Hid (done ++ (bitsOf x).map (fun i : Nat => 64 * A k + (i : Int)) = slotsOf (A k, B k)) := hdone
        clear hdone hR1 hr1 hbox
        by_cases hx0 : x = 0
        · have hz : ((x : Int) != 0) = false := by simp [hx0]
          have HX : Hid (x = 0) := hx0
          clear hx0
          go_wp2
          go_roundw
          case rel =>
            refine ⟨k + 1, by omega, by go_num, ?_, hrx⟩
            have hd := HD.out
            rw [HX.out, bitsOf_zero, List.map_nil, List.append_nil] at hd
            rw [slots_succ, ← hd]
            exact hRx
          case measure => simp [intOf]; omega
        · have hz : ((x : Int) != 0) = true := by simp [hx0]
          have HX : Hid (x ≠ 0) := hx0
          clear hx0
          have hcA : wr.cell? ⟨P, 0, none⟩ = some (.int .i64 (A k)) := by rw [cell_of_row _ _ _ _ _ _ hbx]; rfl
          have hc : Lib.ctz 64 x < 64 := (low_bits x HX.out hx).1
          obtain ⟨hv0, hv1, hv2⟩ := hv
          have hstep : Hid (done ++ (64 * A k + (Lib.ctz 64 x : Int)) :: (bitsOf (x &&& (x - 1))).map (fun i : Nat => 64 * A k + (i : Int)) = slotsOf (A k, B k)) := by
            have hd := HD.out
            rw [bitsOf_step x HX.out hx, List.map_cons] at hd
            exact hd
          have hpre : (slots (chunks A B k) ++ done) ++ [64 * A k + (Lib.ctz 64 x : Int)] <+: slots (chunks A B n) := slots_prefix hlt hstep.out
          have hY := hy _ _ _ (hD _ _ 1 hRx) hpre
          rw [← World.drew_is_drewN] at hY
          have HY := hY
          clear hY
          have hand := and_step x HX.out hx
          have hTw : TabAt wr := hT _ _ hRx
          have e1 : IntKind.i64.wrap (64 * A k) = 64 * A k := wrap_i64 (by omega) (by omega)
          have e2 : IntKind.i64.wrap (64 * A k + (Lib.ctz 64 x : Int)) = 64 * A k + (Lib.ctz 64 x : Int) := wrap_i64 (by omega) (by omega)
          go_wp2
          go_region_with (first
            | (go_at_call 30; refine (tz64_any x hx HX.out _ (by exact hTw)).mono ?_; rintro e w' ⟨rfl, rfl⟩)
            | (go_at_call 25; refine HY.mono ?_; rintro e w' ⟨b, rfl, hb1, hb2⟩))
          all_goals
            cases b
            · have hS := hb2 rfl
              clear hb1 hb2 HY hand e1 e2 hcA
              go_wp2
              refine bodyPost_ret (results_none rfl _ _ _) rfl ?_
              exact ⟨rfl, .inr ⟨_, hpre, hS⟩⟩
            · obtain ⟨hR2, hK2⟩ := hb1 rfl
              clear hb1 hb2 HY e1 e2 hcA
              have hx1 : 1 ≤ x := by have := HX.out; omega
              go_wp2
              go_roundw
              case rel =>
                refine ⟨x &&& (x - 1), done ++ [64 * A k + (Lib.ctz 64 x : Int)], by first | rfl | rw [hand], and_pred_lt x hx, ?_, ?_, hrx.keep hK2, hK2 _ _ hbx⟩
                · rw [← hstep.out]; simp
                · rw [← List.append_assoc]; exact hR2
              case measure =>
                have hb := congrArg List.length (bitsOf_step x HX.out hx)
                simp only [intOf, Int.toNat_natCast, List.length_cons] at hb ⊢
                omega
    · go_wp2
      go_end0
      obtain rfl : k = n := by omega
      exact ⟨rfl, .inl hRk⟩
end Go.Proofs.Qxb6614702aDoor

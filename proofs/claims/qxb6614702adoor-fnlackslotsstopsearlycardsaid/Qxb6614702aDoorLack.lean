/-
  WALKS: ZZnewLack, the two yields, Lack.Slots, ZZallSlots, ZZfirstSlots.
-/
import Derived.Test.Qxb6614702aDoorLeaf
import Derived.RangeFuncBox
import Derived.Deep.RegionWith
namespace Go.Proofs.Qxb6614702aDoor
open Go.RowKit
/-- Whatever cells of the type t lie in W lie so in W'. -/
def KeepT (t : TypeId) (W W' : World) : Prop := ∀ (k : Nat) (cs : Array Value), W.heap[k]? = some (Obj.cells cs t (0, 0)) → W'.heap[k]? = some (Obj.cells cs t (0, 0))
/-! ### Rows of chunks -/
def ChunkRow (w : World) (g n : Nat) (A : Nat → Int) (B : Nat → Nat) : Prop :=
  ∃ cur : Array Value, w.heap[g]? = some (.cells cur 56 (0, 0)) ∧ ∀ i, i < n → cur[i * 2]? = some (.int .i64 (A i)) ∧ cur[i * 2 + 1]? = some (.int .u64 (B i : Int))
theorem ChunkRow.keep {w w' : World} {g n : Nat} {A : Nat → Int} {B : Nat → Nat} (h : ChunkRow w g n A B) (hk : KeepT 56 w w') : ChunkRow w' g n A B := by
  obtain ⟨cur, h1, h2⟩ := h
  exact ⟨cur, hk _ _ h1, h2⟩
theorem KeepT.alloc (t : TypeId) (w : World) (o : Obj) : KeepT t w (w.alloc o) := fun k _ h => (Below.heap_alloc w o k (lt_of_block h)).trans h
theorem KeepT.trans {t : TypeId} {a b c : World} (h1 : KeepT t a b) (h2 : KeepT t b c) : KeepT t a c := fun _ _ h => h2 _ _ (h1 _ _ h)
theorem ChunkRow.cells {w : World} {g n : Nat} {A : Nat → Int} {B : Nat → Nat} (h : ChunkRow w g n A B) {i : Nat} (hi : i < n) :
    w.cell? ⟨g, i * 2, none⟩ = some (.int .i64 (A i)) ∧ w.cell? ⟨g, i * 2 + 1, none⟩ = some (.int .u64 (B i : Int)) := by
  obtain ⟨cur, h1, h2⟩ := h
  rw [cell_of_row _ _ _ _ _ _ h1, cell_of_row _ _ _ _ _ _ h1]
  exact h2 i hi

theorem info56 : (Tryd.prog.info? 56).map (fun i => (i.zero, i.size, i.bytes)) = some (some (.agg #[.int .i64 0, .int .u64 0]), 2, 16) := by kernel_rfl
theorem info3 : (Tryd.prog.info? 3).map (fun i => (i.zero, i.size, i.bytes)) = some (some (.int .i64 0), 1, 8) := by kernel_rfl

theorem newLack_step {w wr : World} {n k : Nat} {xs : List Value} {A : Nat → Int} {B : Nat → Nat} (hk : k < n)
    (hpre : ∀ i, i < k → xs[i * 2]? = some (.int .i64 (A i)) ∧ xs[i * 2 + 1]? = some (.int .u64 (B i : Int)))
    (hown : wr.ownsRow (w.heap.size + 1) 56 2 (.slice (some ⟨w.heap.size + 1, 0, none⟩) n n) n xs) (hbel : Below w.heap.size w wr)
    (hrc : wr.cell? ⟨w.heap.size, 0, none⟩ = some (.slice none 0 0)) (hrf : wr.frozen? ⟨w.heap.size, 0, none⟩ = false) :
    ∃ ys : List Value, ((wr.setCell ⟨w.heap.size + 1, k * 2, none⟩ (.int .i64 (A k))).setCell ⟨w.heap.size + 1, k * 2 + 1, none⟩ (.int .u64 (B k : Int))).ownsRow (w.heap.size + 1) 56 2 (.slice (some ⟨w.heap.size + 1, 0, none⟩) n n) n ys ∧
      (∀ i, i < k + 1 → ys[i * 2]? = some (.int .i64 (A i)) ∧ ys[i * 2 + 1]? = some (.int .u64 (B i : Int))) ∧
      Below w.heap.size w ((wr.setCell ⟨w.heap.size + 1, k * 2, none⟩ (.int .i64 (A k))).setCell ⟨w.heap.size + 1, k * 2 + 1, none⟩ (.int .u64 (B k : Int))) ∧
      ((wr.setCell ⟨w.heap.size + 1, k * 2, none⟩ (.int .i64 (A k))).setCell ⟨w.heap.size + 1, k * 2 + 1, none⟩ (.int .u64 (B k : Int))).cell? ⟨w.heap.size, 0, none⟩ = some (.slice none 0 0) ∧
      ((wr.setCell ⟨w.heap.size + 1, k * 2, none⟩ (.int .i64 (A k))).setCell ⟨w.heap.size + 1, k * 2 + 1, none⟩ (.int .u64 (B k : Int))).frozen? ⟨w.heap.size, 0, none⟩ = false := by
  have hl := hown.1
  refine ⟨_, ((hown.stored (k * 2) (.int .i64 (A k))).1.stored (k * 2 + 1) (.int .u64 (B k : Int))).1, ?_, (hbel.setCell (by simp) _).setCell (by simp) _, ?_, ?_⟩
  · intro i hi
    rw [List.getElem?_set, List.getElem?_set, List.getElem?_set, List.getElem?_set]
    by_cases e : i = k
    · subst e
      rw [if_neg (by omega), if_pos rfl, if_pos rfl, if_pos (by omega), if_pos (by rw [List.length_set]; omega)]
      exact ⟨rfl, rfl⟩
    · rw [if_neg (by omega), if_neg (by omega), if_neg (by omega), if_neg (by omega)]
      exact hpre i (by omega)
  · rw [World.cell?_of_block (heap_setCell_other _ _ _ _ (by simp)), World.cell?_of_block (heap_setCell_other _ _ _ _ (by simp))]; exact hrc
  · rw [World.frozen?_of_block (heap_setCell_other _ _ _ _ (by simp)), World.frozen?_of_block (heap_setCell_other _ _ _ _ (by simp))]; exact hrf

set_option maxHeartbeats 400000 in
theorem newLack_some (ba oa ca bb ob cb n : Nat) (A : Nat → Int) (B : Nat → Nat) (w : World) (hm : n ≤ 4096) (hba : ba < w.heap.size) (hbb : bb < w.heap.size)
    (hA : ∀ i, i < n → w.cell? ⟨ba, oa + i, none⟩ = some (.int .i64 (A i))) 
    (hB : ∀ i, i < n → w.cell? ⟨bb, ob + i, none⟩ = some (.int .u64 (B i : Int))) :
    Calls Tryd.prog 18 #[.slice (some ⟨ba, oa, none⟩) n ca, .slice (some ⟨bb, ob, none⟩) n cb] w fun e w' => e = .returned (.agg #[.slice (some ⟨w.heap.size + 1, 0, none⟩) n n]) ∧
      ChunkRow w' (w.heap.size + 1) n A B ∧ Below w.heap.size w w' ∧ w.heap.size + 1 < w'.heap.size := by
  obtain ⟨i0, hi, hz0, hz1, hz2⟩ := info_parts info56
  go_enter Tryd.func18, Tryd.ntmps18
  go_wp2_with (at_make; refine wpList_make_full _ rfl _ _ 43 rfl (w.heap.size + 1) 56 i0 _ 2 Tryd.underlying43 hi hz0 hz1 .i64 .i64 _ _ n rfl rfl rfl rfl (by rw [hz2]; omega) (by unfold maxLen; omega) (by simp) ?_; intro w1 hown1 hgrow1; simp only [World.size_alloc] at hown1)
  go_loopw [6, 12] (fun _ i wr => ∃ (k : Nat) (xs : List Value), k ≤ n ∧ i = .int .i64 k ∧ wr.ownsRow (w.heap.size + 1) 56 2 (.slice (some ⟨w.heap.size + 1, 0, none⟩) n n) n xs ∧
      (∀ i, i < k → xs[i * 2]? = some (.int .i64 (A i)) ∧ xs[i * 2 + 1]? = some (.int .u64 (B i : Int))) ∧ Below w.heap.size w wr ∧ wr.cell? ⟨w.heap.size, 0, none⟩ = some (.slice none 0 0) ∧ wr.frozen? ⟨w.heap.size, 0, none⟩ = false) (fun _ i _ => n - (intOf i).toNat)
  case atStart =>
    refine ⟨0, _, by omega, rfl, hown1, fun _ h => by omega, ((Below.refl _ _).alloc (Nat.le_refl _) _).grown hgrow1 (by simp) (fun _ h => by cases h), ?_, ?_⟩
    · exact (World.cell?_of_block (hgrow1.block _ (by simp) (by simp))).trans (World.cell?_alloc_at _ _ _ _ rfl)
    · exact (World.frozen?_of_block (hgrow1.block _ (by simp) (by simp))).trans (World.frozen?_alloc_at _ _ _ _ rfl)
  case round =>
    obtain ⟨k, xs, hk, rfl, hown, hpre, hbel, hrc, hrf⟩ := hrel
    have HP : Hid (∀ i, i < k → xs[i * 2]? = some (.int .i64 (A i)) ∧ xs[i * 2 + 1]? = some (.int .u64 (B i : Int))) := hpre
    clear hpre
    have hlen := hown.1
    by_cases hlt : k < n
    · have hcA := (hbel.cell (p := ⟨ba, oa + k, none⟩) hba).trans (hA k hlt)
      have hcB := (hbel.cell (p := ⟨bb, ob + k, none⟩) hbb).trans (hB k hlt)
      have hc0 := (hown.cellAt (k * 2) (by omega)).trans (List.getElem?_eq_getElem (by omega))
      have hc1 := (hown.cellAt (k * 2 + 1) (by omega)).trans (List.getElem?_eq_getElem (by omega))
      have hf0 := hown.frozenAt (k * 2)
      have hf1 := hown.frozenAt (k * 2 + 1)
      have R := newLack_step hlt HP.out hown hbel hrc hrf
      have HL : Hid (xs.length = n * 2) := hlen
      generalize xs[k * 2] = v0 at hc0
      generalize xs[k * 2 + 1] = v1 at hc1
      clear hlen
      go_wp2
      go_region
      all_goals
        go_wp2
        go_roundw
        case rel =>
          obtain ⟨ys, r1, r2, r3, r4, r5⟩ := R
          exact ⟨k + 1, ys, by omega, by go_num, r1.drew, r2, r3.drew, r4, r5⟩
        case measure => simp [intOf]; omega
    · obtain rfl : k = n := by omega
      have hsz : w.heap.size + 1 < wr.heap.size := (hown.lt _ rfl).2
      have hres := World.cell?_setCell_same' wr ⟨w.heap.size, 0, none⟩ (.slice (some ⟨w.heap.size + 1, 0, none⟩) k k) (by rw [hrc]; rfl)
      have HL : Hid (xs.length = k * 2) := hlen
      clear hlen
      go_wp2
      refine bodyPost_ret (v := .agg #[.slice (some ⟨w.heap.size + 1, 0, none⟩) k k]) (by simp [results, Tryd.results18, go_sem, hres]) rfl ⟨rfl, ?_, ?_, ?_⟩
      · rcases hown.2 with ⟨h, _⟩ | ⟨g, cap, cur, h, _, hg, _, _, _, htake⟩
        · cases h
        · simp only [Value.slice.injEq, Option.some.injEq, Addr.mk.injEq, and_true, true_and] at h
          obtain ⟨rfl, _⟩ := h
          refine ⟨cur, by rw [heap_setCell_other _ _ _ _ (by simp)]; exact hg, fun i hi => ?_⟩
          have h0 := (HP.out i hi).1
          have h1 := (HP.out i hi).2
          rw [← htake, List.getElem?_take, if_pos (by omega)] at h0 h1
          rw [Array.getElem?_toList] at h0 h1
          exact ⟨h0, h1⟩
      · exact hbel.setCell (Nat.le_refl _) _
      · simpa using hsz

/-! ### The two yields: a box that holds the slice of what has come -/
def Collected (n₀ Bx : Nat) (l : List Int) (W : World) : Prop := ∃ v, Boxed W Bx 36 v ∧ W.ownsRow n₀ 3 1 v l.length (l.map (Value.int .i64)) ∧ n₀ ≤ W.heap.size ∧ n₀ ≤ Bx

theorem KeepT.appended {W w1 : World} {n₀ Bx : Nat} {v v' : Value} {m : Nat} {xs : List Value} {tmp : Obj} (t : TypeId) (h3 : t ≠ 3) (h36 : t ≠ 36)
    (hv : Boxed W Bx 36 v) (hrow : W.ownsRow n₀ 3 1 v m xs) (hgrow : (W.alloc tmp).grownBy w1 v.ownBlock) : KeepT t W (w1.setCell ⟨Bx, 0, none⟩ v') := by
  intro k cs hk
  have hlt := lt_of_block hk
  have hne : k ≠ Bx := by
    rintro rfl
    have := hk.symm.trans (show W.heap[k]? = _ from hv)
    simp at this
    exact h36 this.2
  have hnr : some k ≠ v.ownBlock := by
    rcases hrow.2 with ⟨rfl, _⟩ | ⟨g, cap, cur, rfl, _, hgb, _⟩
    · simp [Value.ownBlock]
    · intro e'
      obtain rfl : k = g := by simpa [Value.ownBlock] using e'
      have := hk.symm.trans hgb
      simp at this
      exact h3 this.2
  rw [heap_setCell_other _ _ _ _ (by simpa using hne), hgrow.block k (by simp; omega) hnr, Below.heap_alloc _ _ _ hlt]
  exact hk

set_option maxHeartbeats 400000 in
theorem yieldAll_any (n₀ Bx : Nat) (x : Int) (l : List Int) (w : World) (h : Collected n₀ Bx l w) (hlen : l.length ≤ 1048576) :
    Calls Tryd.prog 24 #[.int .i64 x, .pointer (some ⟨Bx, 0, none⟩)] w fun e w' => e = .returned (.bool true) ∧ Collected n₀ Bx (l ++ [x]) w' ∧ KeepT 56 w w' ∧ Below n₀ w w' := by
  obtain ⟨v, hv, hrow, hn, hB⟩ := h
  obtain ⟨i0, hi, hz0, hz1, hz2⟩ := info_parts info3
  have hc := hv.cell
  have hf := hv.frozen
  go_enter Tryd.func24, Tryd.ntmps24
  go_wp2_with (at_builtin; refine wpList_append_own _ rfl _ _ 36 rfl n₀ 3 i0 (.int .i64 0) 1 8 Tryd.underlying36 hi hz0 hz1 hz2 rfl (by decide) _ _ _ rfl (hrow.alloc _) ⟨w.heap.size, 0, none⟩ 1 1 [.int .i64 x] rfl rfl (cell_one_new _ _ _) (by simp [Value.oneCell']) (by unfold maxLen; omega) (by omega) (by simp; omega) ?_; intro v' w1 hown' hgrow _; obtain ⟨g', cap', rfl⟩ := ownsRow_succ hown'; obtain ⟨hv1, hv2, hr2, hk2, hb2⟩ := hv.appended (by decide) hrow hn hB hown' hgrow; have hkt := KeepT.appended (v' := .slice (some ⟨g', 0, none⟩) (l.length + 1) cap') 56 (by decide) (by decide) hv hrow hgrow; have hc1 := hv1.cell; have hf1 := hv1.frozen)
  go_ret
  refine ⟨rfl, ⟨_, hv2, by simpa using hr2, ?_, hB⟩, hkt, hb2⟩
  have := hb2.size
  omega

set_option maxHeartbeats 400000 in
theorem yieldFirst_any (n₀ Bx Bl : Nat) (x lim : Int) (l : List Int) (w : World) (h : Collected n₀ Bx l w) (hl : w.cell? ⟨Bl, 0, none⟩ = some (.int .i64 lim)) (hBl : Bl < n₀) (hlen : l.length ≤ 1048576) :
    Calls Tryd.prog 25 #[.int .i64 x, .pointer (some ⟨Bx, 0, none⟩), .pointer (some ⟨Bl, 0, none⟩)] w fun e w' => e = .returned (.bool (decide (((l.length + 1 : Nat) : Int) < lim))) ∧ Collected n₀ Bx (l ++ [x]) w' ∧ KeepT 56 w w' ∧ Below n₀ w w' := by
  obtain ⟨v, hv, hrow, hn, hB⟩ := h
  obtain ⟨i0, hi, hz0, hz1, hz2⟩ := info_parts info3
  have hc := hv.cell
  have hf := hv.frozen
  go_enter Tryd.func25, Tryd.ntmps25
  go_wp2_with (at_builtin; refine wpList_append_own _ rfl _ _ 36 rfl n₀ 3 i0 (.int .i64 0) 1 8 Tryd.underlying36 hi hz0 hz1 hz2 rfl (by decide) _ _ _ rfl (hrow.alloc _) ⟨w.heap.size, 0, none⟩ 1 1 [.int .i64 x] rfl rfl (cell_one_new _ _ _) (by simp [Value.oneCell']) (by unfold maxLen; omega) (by omega) (by simp; omega) ?_; intro v' w1 hown' hgrow _; obtain ⟨g', cap', rfl⟩ := ownsRow_succ hown'; obtain ⟨hv1, hv2, hr2, hk2, hb2⟩ := hv.appended (by decide) hrow hn hB hown' hgrow; have hkt := KeepT.appended (v' := .slice (some ⟨g', 0, none⟩) (l.length + 1) cap') 56 (by decide) (by decide) hv hrow hgrow; have hc1 := hv1.cell; have hf1 := hv1.frozen; have hc2 := hv2.cell; have hl2 := (hb2.cell (p := ⟨Bl, 0, none⟩) hBl).trans hl)
  go_ret
  refine ⟨?_, ⟨_, hv2, by simpa using hr2, ?_, hB⟩, hkt, hb2⟩
  · exact ret_bool (by simp)
  have := hb2.size
  omega

/-! ### A slice of numbers, read: 'n numbers from ao on'; nothing is said where n = 0 -/
def IntsAt (w : World) (kd : IntKind) (ao : Option Addr) (n : Nat) (f : Nat → Int) : Prop :=
  n = 0 ∨ ∃ b o, ao = some ⟨b, o, none⟩ ∧ b < w.heap.size ∧ ∀ i, i < n → w.cell? ⟨b, o + i, none⟩ = some (.int kd (f i))
theorem IntsAt.below {B : Nat} {w w' : World} {kd : IntKind} {ao : Option Addr} {n : Nat} {f : Nat → Int} (h : IntsAt w kd ao n f) (hB : w.heap.size ≤ B) (hb : Below B w w') : IntsAt w' kd ao n f := by
  rcases h with h | ⟨b, o, rfl, hlt, hc⟩
  · exact .inl h
  · exact .inr ⟨b, o, rfl, Nat.lt_of_lt_of_le hlt hb.size, fun i hi => (hb.cell (p := ⟨b, o + i, none⟩) (Nat.lt_of_lt_of_le hlt hB)).trans (hc i hi)⟩
theorem IntsAt.drewN {w : World} {kd : IntKind} {ao : Option Addr} {n : Nat} {f : Nat → Int} (h : IntsAt w kd ao n f) (q : Nat) : IntsAt (w.drewN q) kd ao n f := h
theorem intsAt_ownsRow {w : World} {base : Nat} {v : Value} {l : List Int} (h : w.ownsRow base 3 1 v l.length (l.map (Value.int .i64))) :
    ∃ ao c, v = .slice ao l.length c ∧ IntsAt w .i64 ao l.length (fun i => l.getD i 0) := by
  rcases h.2 with ⟨rfl, h0⟩ | ⟨g, cap, cur, rfl, _, hg, _⟩
  · exact ⟨none, 0, by rw [h0], .inl h0⟩
  · refine ⟨_, _, rfl, .inr ⟨g, 0, rfl, lt_of_block hg, fun i hi => ?_⟩⟩
    rw [Nat.zero_add, h.cellAt i (by omega), List.getElem?_map, List.getElem?_eq_getElem hi]
    simp [List.getD_eq_getElem?_getD, List.getElem?_eq_getElem hi]

theorem chunksValid_any (aa ab : Option Addr) (ca cb n : Nat) (A : Nat → Int) (B : Nat → Nat) (w : World) (hm : n ≤ 4096)
    (hA : IntsAt w .i64 aa n A) (hB : IntsAt w .u64 ab n fun i => (B i : Int)) :
    Calls Tryd.prog 16 #[.slice aa n ca, .slice ab n cb] w fun e w' => e = .returned (.bool (validB A B n)) ∧ ∃ q, w' = w.drewN q := by
  rcases hA with rfl | ⟨ba, oa, rfl, _, hA⟩
  · exact chunksValid_none aa ab ca cb A B w
  rcases hB with rfl | ⟨bb, ob, rfl, _, hB⟩
  · exact chunksValid_none _ ab ca cb A B w
  exact chunksValid_some ba oa ca bb ob cb n A B w hm hA hB

set_option maxHeartbeats 400000 in
theorem newLack_none (aa ab : Option Addr) (ca cb : Nat) (w : World) :
    Calls Tryd.prog 18 #[.slice aa 0 ca, .slice ab 0 cb] w fun e w' => e = .returned (.agg #[.slice (some ⟨w.heap.size + 1, 0, none⟩) 0 0]) ∧
      (∃ cur, w'.heap[w.heap.size + 1]? = some (.cells cur 56 (0, 0))) ∧ Below w.heap.size w w' ∧ w.heap.size + 1 < w'.heap.size := by
  obtain ⟨i0, hi, hz0, hz1, hz2⟩ := info_parts info56
  go_enter Tryd.func18, Tryd.ntmps18
  go_wp2_with (at_make; refine wpList_make_full _ rfl _ _ 43 rfl (w.heap.size + 1) 56 i0 _ 2 Tryd.underlying43 hi hz0 hz1 .i64 .i64 _ _ 0 rfl rfl rfl rfl (by rw [hz2]; omega) (by unfold maxLen; omega) (by simp) ?_; intro w1 hown1 hgrow1; simp only [World.size_alloc] at hown1)
  have hrc : w1.cell? ⟨w.heap.size, 0, none⟩ = some (.slice none 0 0) := (World.cell?_of_block (hgrow1.block _ (by simp) (by simp))).trans (World.cell?_alloc_at _ _ _ _ rfl)
  have hrf : w1.frozen? ⟨w.heap.size, 0, none⟩ = false := (World.frozen?_of_block (hgrow1.block _ (by simp) (by simp))).trans (World.frozen?_alloc_at _ _ _ _ rfl)
  have hsz : w.heap.size + 1 < w1.heap.size := (hown1.lt _ rfl).2
  have hbel := ((Below.refl w.heap.size w).alloc (Nat.le_refl _) (.cells #[.slice none 0 0] 45)).grown hgrow1 (by simp) (fun _ h => by cases h)
  have hres := World.cell?_setCell_same' w1 ⟨w.heap.size, 0, none⟩ (.slice (some ⟨w.heap.size + 1, 0, none⟩) 0 0) (by rw [hrc]; rfl)
  refine wp_loop_rounds 1 ?_
  rw [rounds_succ]
  go_wp2
  refine bodyPost_ret (v := .agg #[.slice (some ⟨w.heap.size + 1, 0, none⟩) 0 0]) (by simp [results, Tryd.results18, go_sem, hres]) rfl ⟨rfl, ?_, ?_, ?_⟩
  · rcases hown1.2 with ⟨h, _⟩ | ⟨g, cap, cur, h, _, hg, _⟩
    · cases h
    · simp only [Value.slice.injEq, Option.some.injEq, Addr.mk.injEq, and_true, true_and] at h
      obtain ⟨rfl, _⟩ := h
      exact ⟨cur, by rw [heap_setCell_other _ _ _ _ (by simp)]; exact hg⟩
  · exact hbel.setCell (Nat.le_refl _) _
  · simpa using hsz

theorem newLack_any (aa ab : Option Addr) (ca cb n : Nat) (A : Nat → Int) (B : Nat → Nat) (w : World) (hm : n ≤ 4096)
    (hA : IntsAt w .i64 aa n A) (hB : IntsAt w .u64 ab n fun i => (B i : Int)) :
    Calls Tryd.prog 18 #[.slice aa n ca, .slice ab n cb] w fun e w' => e = .returned (.agg #[.slice (some ⟨w.heap.size + 1, 0, none⟩) n n]) ∧
      ChunkRow w' (w.heap.size + 1) n A B ∧ Below w.heap.size w w' ∧ w.heap.size + 1 < w'.heap.size := by
  by_cases h0 : n = 0
  · subst h0
    refine (newLack_none aa ab ca cb w).mono ?_
    rintro e w' ⟨rfl, ⟨cur, h⟩, hb, hs⟩
    exact ⟨rfl, ⟨cur, h, fun i hi => by omega⟩, hb, hs⟩
  rcases hA with h | ⟨ba, oa, rfl, hba, hA⟩
  · exact absurd h h0
  rcases hB with h | ⟨bb, ob, rfl, hbb, hB⟩
  · exact absurd h h0
  exact newLack_some ba oa ca bb ob cb n A B w hm hba hbb hA hB
end Go.Proofs.Qxb6614702aDoor

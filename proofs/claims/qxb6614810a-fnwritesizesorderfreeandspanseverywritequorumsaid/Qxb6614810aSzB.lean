/-
  WALKS: setList.set; the iterator of setList.all.
-/
import Derived.Test.Qxb6614810aSzA
import Derived.RangeFuncNested
import Derived.RangeFuncBound
import Derived.RangeFuncCalls
import Derived.RangeFuncLeaves
import Derived.Shelf.Abstract
import Derived.Shelf.RegionOpen
import Derived.OwnWalkIn
import Derived.TacticsInMore
import Derived.LoopNIn
import Derived.LoopIn
namespace Go.Proofs.Qxb6614810a
open Go.RowKit

/-- The words of the block of a place, from the place on. -/
def wordsAt (X : Nat → Nat → Nat) (Bk F : Nat → Nat) (j i : Nat) : Nat := X (Bk j) (F j + i)
def sizeAt (X : Nat → Nat → Nat) (Bk F R : Nat → Nat) (j : Nat) : Nat := sizeOf' (wordsAt X Bk F j) (R j)
/-- Every place lies in its block. -/
def PFit (np nb : Nat) (Bk F R LB : Nat → Nat) (X : Nat → Nat → Nat) : Prop :=
  ∀ j, j < np → Bk j < nb ∧ F j + R j + sizeAt X Bk F R j ≤ LB (Bk j)

/-- The cells of a setList, and what its two slices hold. -/
structure SetsAt (w : World) (sb so pg np : Nat) (ab : Option Addr) (nb cb : Nat) (Bk F R : Nat → Nat) (AB : Nat → Option Addr) (LB CB : Nat → Nat) (X : Nat → Nat → Nat) : Prop where
  cplaces : w.cell? ⟨sb, so, none⟩ = some (.slice (some ⟨pg, 0, none⟩) np np)
  cblocks : w.cell? ⟨sb, so + 1, none⟩ = some (.slice ab nb cb)
  place0 : ∀ j, j < np → w.cell? ⟨pg, j * 3, none⟩ = some (.int .i32 (Bk j : Int))
  place1 : ∀ j, j < np → w.cell? ⟨pg, j * 3 + 1, none⟩ = some (.int .i32 (F j : Int))
  place2 : ∀ j, j < np → w.cell? ⟨pg, j * 3 + 2, none⟩ = some (.int .i32 (R j : Int))
  pgl : pg < w.heap.size
  sbl : sb < w.heap.size
  rowB : RowAt w ab nb fun i => .slice (AB i) (LB i) (CB i)
  rows : ∀ i, i < nb → RowAt w (AB i) (LB i) fun c => .int .u64 (X i c : Int)
  cap : ∀ i, i < nb → LB i ≤ CB i
  small : ∀ i, i < nb → LB i ≤ 1048576
  word : ∀ i c, X i c < 18446744073709551616
  npl : np ≤ 1048576
  nbl : nb ≤ 1048576
  fit : PFit np nb Bk F R LB X

theorem SetsAt.below {B : Nat} {w w' : World} {sb so pg np : Nat} {ab : Option Addr} {nb cb : Nat} {Bk F R : Nat → Nat} {AB : Nat → Option Addr} {LB CB : Nat → Nat} {X : Nat → Nat → Nat}
    (h : SetsAt w sb so pg np ab nb cb Bk F R AB LB CB X) (hB : w.heap.size ≤ B) (hb : Below B w w') : SetsAt w' sb so pg np ab nb cb Bk F R AB LB CB X :=
  { h with
    cplaces := (hb.cell (p := ⟨sb, so, none⟩) (Nat.lt_of_lt_of_le h.sbl hB)).trans h.cplaces
    cblocks := (hb.cell (p := ⟨sb, so + 1, none⟩) (Nat.lt_of_lt_of_le h.sbl hB)).trans h.cblocks
    place0 := fun j hj => (hb.cell (p := ⟨pg, j * 3, none⟩) (Nat.lt_of_lt_of_le h.pgl hB)).trans (h.place0 j hj)
    place1 := fun j hj => (hb.cell (p := ⟨pg, j * 3 + 1, none⟩) (Nat.lt_of_lt_of_le h.pgl hB)).trans (h.place1 j hj)
    place2 := fun j hj => (hb.cell (p := ⟨pg, j * 3 + 2, none⟩) (Nat.lt_of_lt_of_le h.pgl hB)).trans (h.place2 j hj)
    pgl := Nat.lt_of_lt_of_le h.pgl hb.size
    sbl := Nat.lt_of_lt_of_le h.sbl hb.size
    rowB := h.rowB.below hB hb
    rows := fun i hi => (h.rows i hi).below hB hb }

/-- Where a slice begins that is cut at lo. -/
def adv (a : Option Addr) (c lo : Nat) : Option Addr := if c = lo then a else a.map fun x => x.add lo
theorem RowAt.adv {w : World} {ao : Option Addr} {n m lo c : Nat} {v : Nat → Value} (h : RowAt w ao n v) (hm : lo + m ≤ n) (hc : n ≤ c) : RowAt w (adv ao c lo) m (fun i => v (lo + i)) := by
  unfold Qxb6614810a.adv
  by_cases h0 : c = lo
  · exact .inl (by omega)
  · rw [if_neg h0]; exact h.drop hm
def fromAt (AB : Nat → Option Addr) (CB Bk F : Nat → Nat) (j : Nat) : Option Addr := adv (AB (Bk j)) (CB (Bk j)) (F j)
def wordsFrom (AB : Nat → Option Addr) (CB Bk F R : Nat → Nat) (j : Nat) : Option Addr := adv (fromAt AB CB Bk F j) (CB (Bk j) - F j) (R j)
/-- The set at position j, as a value. -/
def setVal (AB : Nat → Option Addr) (CB Bk F R : Nat → Nat) (X : Nat → Nat → Nat) (j : Nat) : Value :=
  .agg #[.slice (fromAt AB CB Bk F j) (R j) (R j), .slice (wordsFrom AB CB Bk F R j) (sizeAt X Bk F R j) (sizeAt X Bk F R j)]

set_option maxRecDepth 100000 in
set_option maxHeartbeats 1000000 in
theorem setAt_any (sb so pg np : Nat) (ab : Option Addr) (nb cb : Nat) (Bk F R : Nat → Nat) (AB : Nat → Option Addr) (LB CB : Nat → Nat) (X : Nat → Nat → Nat) (w : World)
    (h : SetsAt w sb so pg np ab nb cb Bk F R AB LB CB X) (j : Nat) (hj : j < np) :
    Calls Try.prog 38 #[.pointer (some ⟨sb, so, none⟩), .int .i64 j] w fun e w' => e = .returned (setVal AB CB Bk F R X j) ∧ Below w.heap.size w w' := by
  obtain ⟨w1, e1⟩ : ∃ w1, w.alloc (.cells #[.slice none 0 0, .slice none 0 0] 83) = w1 := ⟨_, rfl⟩
  have b1 : Below w.heap.size w w1 := by rw [← e1]; exact (Below.refl _ w).alloc (Nat.le_refl _) _
  have z1 : w1.heap.size = w.heap.size + 1 := by rw [← e1]; simp
  have k1 : w1.heap[w.heap.size]? = some (.cells #[.slice none 0 0, .slice none 0 0] 83) := by rw [← e1]; exact World.alloc_heap_new _ _
  replace h := h.below (Nat.le_refl _) b1
  have h1 := h.cplaces
  have h3 := h.place0 j hj
  have h4 := h.place1 j hj
  have h5 := h.place2 j hj
  obtain ⟨f1, f2⟩ := h.fit j hj
  have hnp := h.npl
  have hnb := h.nbl
  go_enter Try.func38, Try.ntmps38
  go_wp2
  obtain ⟨w2, e2⟩ : ∃ w2, w1.alloc (.cells #[.int .i32 (Bk j : Int), .int .i32 (F j : Int), .int .i32 (R j : Int)] 67) = w2 := ⟨_, rfl⟩
  have b2 : Below w1.heap.size w1 w2 := by rw [← e2]; exact (Below.refl _ w1).alloc (Nat.le_refl _) _
  have k2 : w2.heap[w.heap.size + 1]? = some (.cells #[.int .i32 (Bk j : Int), .int .i32 (F j : Int), .int .i32 (R j : Int)] 67) := by rw [← e2, ← z1]; exact World.alloc_heap_new _ _
  have k3 : w2.heap[w.heap.size]? = some (.cells #[.slice none 0 0, .slice none 0 0] 83) := (b2.block _ (by omega)).trans k1
  have b0 : Below w.heap.size w w2 := b1.trans (b2.mono (by omega))
  replace h := h.below (Nat.le_refl _) b2
  have c0 : w2.cell? ⟨w.heap.size + 1, 0, none⟩ = some (.int .i32 (Bk j : Int)) := by rw [cell_of_row _ _ _ _ _ _ k2]; rfl
  have c1 : w2.cell? ⟨w.heap.size + 1, 1, none⟩ = some (.int .i32 (F j : Int)) := by rw [cell_of_row _ _ _ _ _ _ k2]; rfl
  have c2 : w2.cell? ⟨w.heap.size + 1, 2, none⟩ = some (.int .i32 (R j : Int)) := by rw [cell_of_row _ _ _ _ _ _ k2]; rfl
  rw [e2]
  have h2 := h.cblocks
  obtain ⟨bb, bo, rfl, hbl, hbc⟩ := h.rowB.pos (by omega)
  have h6 := hbc (Bk j) f1
  have h7 := h.cap (Bk j) f1
  have h8 := h.small (Bk j) f1
  have hrow : RowAt w2 (fromAt AB CB Bk F j) (LB (Bk j) - F j) fun i => .int .u64 (wordsAt X Bk F j i : Int) := (h.rows (Bk j) f1).adv (by omega) h7
  have hword := h.word
  clear e1 e2 b1 z1 k1 h1 h3 h4 h5 b2 k2 hbc h
  go_quiet (fail)
  replace hrow : RowAt (w2.drewN nq) (fromAt AB CB Bk F j) (LB (Bk j) - F j) fun i => .int .u64 (wordsAt X Bk F j i : Int) := hrow
  replace c2 : (w2.drewN nq).cell? ⟨w.heap.size + 1, 2, none⟩ = some (.int .i32 (R j : Int)) := c2
  replace b0 : Below w.heap.size w (w2.drewN nq) := ⟨b0.os, b0.tape, b0.output, b0.size, b0.block⟩
  replace k3 : (w2.drewN nq).heap[w.heap.size]? = some (.cells #[.slice none 0 0, .slice none 0 0] 83) := k3
  generalize w2.drewN nq = w3 at hrow c2 b0 k3 ⊢
  show Exit.then _ _ _ { tmps := _, defers := _ } w3
  have e3 : (if CB (Bk j) = F j then AB (Bk j) else Option.map (fun x => x.add (F j)) (AB (Bk j))) = fromAt AB CB Bk F j := rfl
  rw [e3]
  obtain ⟨lf, hlf⟩ : ∃ lf, LB (Bk j) - F j = lf := ⟨_, rfl⟩
  obtain ⟨cf, hcf⟩ : ∃ cf, CB (Bk j) - F j = cf := ⟨_, rfl⟩
  have hval : setVal AB CB Bk F R X j = .agg #[.slice (fromAt AB CB Bk F j) (R j) (R j), .slice (adv (fromAt AB CB Bk F j) cf (R j)) (sizeOf' (wordsAt X Bk F j) (R j)) (sizeOf' (wordsAt X Bk F j) (R j))] := by rw [← hcf]; rfl
  rw [hlf] at hrow ⊢
  rw [hcf]
  have g1 : R j + sizeOf' (wordsAt X Bk F j) (R j) ≤ lf := by unfold sizeAt at f2; omega
  have g2 : lf ≤ cf := by omega
  have g3 : lf ≤ 1048576 := by omega
  have hx : ∀ i, i < R j → wordsAt X Bk F j i < 18446744073709551616 := fun i _ => hword _ _
  have hrr : RowAt w3 (fromAt AB CB Bk F j) (R j) fun i => .int .u64 (wordsAt X Bk F j i : Int) := hrow.less (by omega)
  have d0 : w3.cell? ⟨w.heap.size, 0, none⟩ = some (.slice none 0 0) := by rw [cell_of_row _ _ _ _ _ _ k3]; rfl
  have d1 : w3.cell? ⟨w.heap.size, 1, none⟩ = some (.slice none 0 0) := by rw [cell_of_row _ _ _ _ _ _ k3]; rfl
  have d2 : w3.frozen? ⟨w.heap.size, 0, none⟩ = false := frozen_of_row _ _ _ _ _ k3
  have d3 : w3.frozen? ⟨w.heap.size, 1, none⟩ = false := frozen_of_row _ _ _ _ _ k3
  generalize fromAt AB CB Bk F j = af at *
  have hcall := before_any af (R j) (R j) (wordsAt X Bk F j) w3 (by omega) hx hrr
  generalize sizeOf' (wordsAt X Bk F j) (R j) = sz at *
  have fin : ∀ aw : Option Addr, aw = adv af cf (R j) → ∀ tm, tm[4]? = some (.pointer (some ⟨w.heap.size, 0, none⟩)) →
      bodyPost Try.prog Try.f38 (fun e w' => e = Ending.returned (Value.agg #[Value.slice af (R j) (R j), Value.slice (adv af cf (R j)) sz sz]) ∧ Below w.heap.size w w') Exit.ret { tmps := tm, defers := [] } ((w3.setCell ⟨w.heap.size, 0, none⟩ (Value.slice af (R j) (R j))).setCell ⟨w.heap.size, 1, none⟩ (Value.slice aw sz sz)) := by
    rintro aw rfl tm htm
    have r1 := heap_setCell_same w3 w.heap.size 0 _ _ (Value.slice af (R j) (R j)) k3
    have r2 := heap_setCell_same _ w.heap.size 1 _ _ (Value.slice (adv af cf (R j)) sz sz) r1
    have q0 : ((w3.setCell ⟨w.heap.size, 0, none⟩ (Value.slice af (R j) (R j))).setCell ⟨w.heap.size, 1, none⟩ (Value.slice (adv af cf (R j)) sz sz)).cell? ⟨w.heap.size, 0, none⟩ = some (Value.slice af (R j) (R j)) := by rw [cell_of_row _ _ _ _ _ _ r2]; rfl
    have q1 : ((w3.setCell ⟨w.heap.size, 0, none⟩ (Value.slice af (R j) (R j))).setCell ⟨w.heap.size, 1, none⟩ (Value.slice (adv af cf (R j)) sz sz)).cell? ⟨w.heap.size, 1, none⟩ = some (Value.slice (adv af cf (R j)) sz sz) := by rw [cell_of_row _ _ _ _ _ _ r2]; rfl
    refine bodyPost_ret (v := .agg #[.slice af (R j) (R j), .slice (adv af cf (R j)) sz sz]) ?_ rfl ⟨rfl, ?_⟩
    · simp [results, Try.results38, go_sem, htm, q0, q1]
    · exact (b0.setCell (p := ⟨w.heap.size, 0, none⟩) (Nat.le_refl _) _).setCell (p := ⟨w.heap.size, 1, none⟩) (Nat.le_refl _) _
  go_wp2_with (go_at_call 40; refine hcall.mono ?_; rintro e w' ⟨rfl, rfl⟩)
  · have hcr : cf = R j := by assumption
    rw [hcr] at fin
    refine fin _ ?_ _ ?_
    · simp [adv]
    · rfl
  · refine fin _ ?_ _ ?_
    · rw [adv, if_neg (by assumption)]
    · rfl

/-! ### The iterator -/
attribute [local go_sem] Oper.semAt_some
/-- The first k of a list of positions. -/
def upTo (n : Nat) : Nat → List (Fin n)
  | 0 => []
  | k + 1 => if h : k < n then upTo n k ++ [⟨k, h⟩] else upTo n k
theorem upTo_succ {n k : Nat} (h : k < n) : upTo n (k + 1) = upTo n k ++ [⟨k, h⟩] := by rw [upTo, dif_pos h]
theorem upTo_length {n : Nat} : ∀ k, k ≤ n → (upTo n k).length = k
  | 0, _ => rfl
  | k + 1, h => by rw [upTo_succ (by omega), List.length_append, upTo_length k (by omega)]; rfl

/-- What a round keeps: what lay below n₀; the block Bs. -/
def KpB (n₀ Bs : Nat) (W W' : World) : Prop := Below n₀ W W' ∧ W'.heap[Bs]? = W.heap[Bs]?
theorem KpB.refl (n₀ Bs : Nat) (W : World) : KpB n₀ Bs W W := ⟨Below.refl _ _, rfl⟩
theorem KpB.trans {n₀ Bs : Nat} {A B C : World} (h : KpB n₀ Bs A B) (k : KpB n₀ Bs B C) : KpB n₀ Bs A C := ⟨h.1.trans k.1, k.2.trans h.2⟩
theorem KpB.of {n₀ Bs : Nat} {A B : World} (h : Below A.heap.size A B) (h1 : n₀ ≤ A.heap.size) (h2 : Bs < A.heap.size) : KpB n₀ Bs A B := ⟨h.mono h1, h.block Bs h2⟩

set_option maxRecDepth 100000 in
set_option maxHeartbeats 1000000 in
theorem all1_in (n l Bs n₀ sb so pg np : Nat) (ab : Option Addr) (nb cb : Nat) (Bk F R : Nat → Nat) (AB : Nat → Option Addr) (LB CB : Nat → Nat) (X : Nat → Nat → Nat) (hn : 2 ≤ n) (J Jx : List (Fin np) → World → Prop)
    (W : World) (hJ : AbidesFrom W.heap.size J)
    (hY : ∀ pre x W, J pre W → pre.length < np → YieldAt Fence.wide (n - 1) Try.prog l #[.int .i64 (x.1 : Int), setVal AB CB Bk F R X x.1] W fun e W' =>
      (e = .returned (.bool true) ∧ J (pre ++ [x]) W' ∧ KpB n₀ Bs W W') ∨ (e = .returned (.bool false) ∧ Jx (pre ++ [x]) W'))
    (hBs : W.cell? ⟨Bs, 0, none⟩ = some (.pointer (some ⟨sb, so, none⟩))) (hBl : Bs < W.heap.size) (hn₀ : n₀ ≤ W.heap.size)
    (hS : SetsAt W sb so pg np ab nb cb Bk F R AB LB CB X) (hkeep : ∀ W', Below n₀ W W' → SetsAt W' sb so pg np ab nb cb Bk F R AB LB CB X) (h0 : J [] W) :
    CallsIn Fence.wide n Try.prog 37 #[.func (.yield l) #[] #[], .pointer (some ⟨Bs, 0, none⟩)] W fun e W' => (∃ v, e = .returned v) ∧
      ((∃ ys, ys = upTo np np ∧ J ys W') ∨ (∃ pre, (∃ k, k ≤ np ∧ pre = upTo np k) ∧ Jx pre W')) := by
  have hcp := hS.cplaces
  have hnp := hS.npl
  refine callsIn_of_wp Try.func37 rfl trivial ?_ rfl
  simp only [Try.ntmps37, List.size_toArray, List.length_cons, List.length_nil, Nat.reduceAdd, Nat.reduceSub, Array.replicate_succ, Array.replicate_zero, List.push_toArray, List.append_toArray, List.nil_append, List.cons_append]
  gi_wp2
  gi_loopw [9] (fun i wr => ∃ k : Nat, k ≤ np ∧ i = .int .i64 k ∧ J (upTo np k) wr ∧ KpB n₀ Bs W wr)
    (fun i _ => np - (intOf i).toNat)
  case atStart => exact ⟨0, Nat.zero_le _, rfl, h0, KpB.refl _ _ _⟩
  case round =>
    obtain ⟨k, hk, rfl, hJs, hnx⟩ := hrel
    have hSr := hkeep wr hnx.1
    have hBr : wr.cell? ⟨Bs, 0, none⟩ = some (.pointer (some ⟨sb, so, none⟩)) := (World.cell?_of_block hnx.2).trans hBs
    by_cases hlt : k < np
    · have hset := setAt_any sb so pg np ab nb cb Bk F R AB LB CB X wr hSr k hlt
      gi_wp2
      refine ⟨trivial, fun _ => by omega, (callsIn_wide.2 hset).mono ?_⟩
      rintro e w2 ⟨rfl, hb2⟩
      have hJ2 : J (upTo np k) w2 := hJ _ wr w2 none hJs ⟨hb2.os, hb2.tape, hb2.output, hb2.size, fun i hi _ => hb2.block i hi⟩ (fun _ e => by cases e)
      obtain ⟨fn, tmps, assign, body, hy, hR⟩ := hY _ ⟨k, hlt⟩ w2 hJ2 (by rw [upTo_length k (by omega)]; exact hlt)
      dsimp only at hy
      clear hset
      gi_wp2
      refine ⟨fun _ => by omega, hR.mono ?_⟩
      rintro e W3 (⟨rfl, hJ3, hk3⟩ | ⟨rfl, hJx3⟩)
      · gi_wp2
        go_roundw
        case rel => exact ⟨k + 1, by omega, by simp, by rw [upTo_succ hlt]; exact hJ3, hnx.trans ((KpB.of hb2 (Nat.le_trans hn₀ hnx.1.size) (Nat.lt_of_lt_of_le hBl hnx.1.size)).trans hk3)⟩
        case measure => simp [intOf]; omega
      · gi_wp2
        refine bodyPost_ret (results_none rfl _ _ _) rfl ?_
        exact ⟨⟨_, rfl⟩, .inr ⟨_, ⟨k + 1, by omega, (upTo_succ hlt).symm⟩, hJx3⟩⟩
    · obtain rfl : k = np := by omega
      gi_wp2
      go_end0
      exact ⟨⟨_, rfl⟩, .inl ⟨_, rfl, hJs⟩⟩
end Go.Proofs.Qxb6614810a

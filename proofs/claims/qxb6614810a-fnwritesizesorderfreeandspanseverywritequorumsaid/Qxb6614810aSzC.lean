/-
  WALKS: setList.all, setList.sizes.
-/
import Derived.Test.Qxb6614810aSzB
namespace Go.Proofs.Qxb6614810a
open Go.RowKit
attribute [local go_sem] Oper.semAt_some

set_option maxHeartbeats 1000000 in
theorem all_in (n : Nat) (p0 : Option Addr) (w : World) :
    CallsIn Fence.wide n Try.prog 34 #[.pointer p0] w fun e w' => e = .returned (.func (.func 37) #[] #[.pointer (some ⟨w.heap.size, 0, none⟩)]) ∧ w' = w.alloc (.cells #[.pointer p0] 78) := by
  refine callsIn_of_wp Try.func34 rfl trivial ?_ rfl
  simp only [Try.ntmps34, List.size_toArray, List.length_cons, List.length_nil, Nat.reduceAdd, Nat.reduceSub, Array.replicate_succ, Array.replicate_zero, List.push_toArray, List.append_toArray, List.nil_append, List.cons_append]
  gi_wp2
  go_ret
  exact ⟨rfl, rfl⟩

theorem all_stops (n Bs n₀ sb so pg np : Nat) (ab : Option Addr) (nb cb : Nat) (Bk F R : Nat → Nat) (AB : Nat → Option Addr) (LB CB : Nat → Nat) (X : Nat → Nat → Nat) (hn : 2 ≤ n) (w w0 : World) (hBs : Bs < w.heap.size) (hn₀ : n₀ ≤ w.heap.size)
    (hc : w.cell? ⟨Bs, 0, none⟩ = some (.pointer (some ⟨sb, so, none⟩))) (hS : SetsAt w0 sb so pg np ab nb cb Bk F R AB LB CB X) (h0 : w0.heap.size ≤ n₀) (hb : Below w0.heap.size w0 w) :
    SeqStopsK Fence.wide n Try.prog 37 #[.pointer (some ⟨Bs, 0, none⟩)] (fun x : Fin np => #[Value.int .i64 (x.1 : Int), setVal AB CB Bk F R X x.1]) (KpB n₀ Bs) (fun ys => ys = upTo np np) (fun pre => ∃ k, k ≤ np ∧ pre = upTo np k) np w := fun l J Jx W hW hJ _ hY h1 => by
  have hk : ∀ W', Below n₀ W W' → SetsAt W' sb so pg np ab nb cb Bk F R AB LB CB X := fun W' h => hS.below (Nat.le_refl _) (hb.trans ((hW.mono hb.size).trans (h.mono h0)))
  exact all1_in n l Bs n₀ sb so pg np ab nb cb Bk F R AB LB CB X hn J Jx W hJ hY ((hW.cell (p := ⟨Bs, 0, none⟩) hBs).trans hc) (Nat.lt_of_lt_of_le hBs hW.size) (Nat.le_trans hn₀ hW.size) (hk W (Below.refl _ _)) hk h1

/-- The members of the set at position j. -/
def cntAt (X : Nat → Nat → Nat) (Bk F R : Nat → Nat) (j : Nat) : Nat := popS (fun i => wordsAt X Bk F j (R j + i)) (sizeAt X Bk F R j)
def mnL {np : Nat} (c : Nat → Nat) (n : Nat) (pre : List (Fin np)) : Nat := pre.foldl (fun m x => min m (c x.1)) n
def mxL {np : Nat} (c : Nat → Nat) (pre : List (Fin np)) : Nat := pre.foldl (fun m x => max m (c x.1)) 0
theorem mnL_snoc {np : Nat} (c : Nat → Nat) (n : Nat) (pre : List (Fin np)) (x : Fin np) : mnL c n (pre ++ [x]) = min (mnL c n pre) (c x.1) := by simp [mnL]
theorem mxL_snoc {np : Nat} (c : Nat → Nat) (pre : List (Fin np)) (x : Fin np) : mxL c (pre ++ [x]) = max (mxL c pre) (c x.1) := by simp [mxL]
def mnS (c : Nat → Nat) (n : Nat) : Nat → Nat
  | 0 => n
  | k + 1 => min (mnS c n k) (c k)
def mxS (c : Nat → Nat) : Nat → Nat
  | 0 => 0
  | k + 1 => max (mxS c k) (c k)
theorem mnL_upTo (c : Nat → Nat) (n np : Nat) : ∀ k, k ≤ np → mnL c n (upTo np k) = mnS c n k
  | 0, _ => rfl
  | k + 1, h => by rw [upTo_succ (by omega), mnL_snoc, mnL_upTo c n np k (by omega)]; rfl
theorem mxL_upTo (c : Nat → Nat) (np : Nat) : ∀ k, k ≤ np → mxL c (upTo np k) = mxS c k
  | 0, _ => rfl
  | k + 1, h => by rw [upTo_succ (by omega), mxL_snoc, mxL_upTo c np k (by omega)]; rfl

/-- A box of two cells. -/
def Boxed2 (W : World) (B : Nat) (u v : Value) : Prop := W.heap[B]? = some (.cells #[u, v] 83)
theorem Boxed2.kept {W W' : World} {B : Nat} {u v : Value} (h : Boxed2 W B u v) {row : Option Nat} (hg : W.grownBy W' row) (hr : ∀ r, row = some r → ∃ o : Obj, W.heap[r]? = some o ∧ o.isCells = false) : Boxed2 W' B u v := by
  refine (hg.block B (lt_of_block h) ?_).trans h
  intro e
  obtain ⟨o, ho, hc⟩ := hr B e.symm
  rw [show W.heap[B]? = _ from h] at ho
  cases ho
  cases hc
theorem cnt_le (X : Nat → Nat → Nat) (Bk F R : Nat → Nat) (j : Nat) (h : sizeAt X Bk F R j ≤ 1048576) : cntAt X Bk F R j ≤ 67108864 := by
  have := popS_le (fun i => wordsAt X Bk F j (R j + i)) (sizeAt X Bk F R j)
  unfold cntAt
  omega
theorem SetsAt.wordsRow {w : World} {sb so pg np : Nat} {ab : Option Addr} {nb cb : Nat} {Bk F R : Nat → Nat} {AB : Nat → Option Addr} {LB CB : Nat → Nat} {X : Nat → Nat → Nat}
    (h : SetsAt w sb so pg np ab nb cb Bk F R AB LB CB X) {j : Nat} (hj : j < np) :
    RowAt w (wordsFrom AB CB Bk F R j) (sizeAt X Bk F R j) (fun i => .int .u64 (wordsAt X Bk F j (R j + i) : Int)) ∧ sizeAt X Bk F R j ≤ 1048576 := by
  obtain ⟨f1, f2⟩ := h.fit j hj
  have h7 := h.cap (Bk j) f1
  have h8 := h.small (Bk j) f1
  have h1 : RowAt w (fromAt AB CB Bk F j) (LB (Bk j) - F j) fun i => .int .u64 (wordsAt X Bk F j i : Int) := (h.rows (Bk j) f1).adv (by omega) h7
  exact ⟨h1.adv (by omega) (by omega), by omega⟩

set_option maxRecDepth 100000 in
set_option maxHeartbeats 4000000 in
theorem sizes_any (n sb so pg np : Nat) (ab : Option Addr) (nb cb : Nat) (Bk F R : Nat → Nat) (AB : Nat → Option Addr) (LB CB : Nat → Nat) (X : Nat → Nat → Nat) (w : World) (hS : SetsAt w sb so pg np ab nb cb Bk F R AB LB CB X) :
    Calls Try.prog 30 #[.pointer (some ⟨sb, so, none⟩), .int .i64 n] w fun e w' => e = .returned (.tuple #[.int .i64 (mnS (cntAt X Bk F R) n np : Int), .int .i64 (mxS (cntAt X Bk F R) np : Int)]) ∧ Below w.heap.size w w' := by
  refine (callsIn_wide (n := 5)).1 ?_
  refine callsIn_of_wp_marks Try.func30 rfl trivial ?_ rfl
  simp only [Try.ntmps30, List.size_toArray, List.length_cons, List.length_nil, Nat.reduceAdd, Nat.reduceSub, Array.replicate_succ, Array.replicate_zero, List.push_toArray, List.append_toArray, List.nil_append, List.cons_append]
  gi_wp2
  refine ⟨trivial, (all_in 4 _ _).mono ?_⟩
  rintro e w' ⟨rfl, rfl⟩
  gi_wp2
  have bS := ((Boxed.new w 3 (.int .i64 n)).alloc (.cells #[.int .i64 0] 3)).alloc (.cells #[.pointer (some ⟨sb, so, none⟩)] 78)
  have bL := (Boxed.new (w.alloc (.cells #[.int .i64 n] 3)) 3 (.int .i64 0)).alloc (.cells #[.pointer (some ⟨sb, so, none⟩)] 78)
  have bA := Boxed.new ((w.alloc (.cells #[.int .i64 n] 3)).alloc (.cells #[.int .i64 0] 3)) 78 (.pointer (some ⟨sb, so, none⟩))
  simp only [World.size_alloc] at bL bA
  have hB0 : Below w.heap.size w (((w.alloc (.cells #[.int .i64 n] 3)).alloc (.cells #[.int .i64 0] 3)).alloc (.cells #[.pointer (some ⟨sb, so, none⟩)] 78)) := (((Below.refl _ w).alloc (Nat.le_refl _) _).alloc (by simp) _).alloc (by simp; omega) _
  have hsz : (((w.alloc (.cells #[.int .i64 n] 3)).alloc (.cells #[.int .i64 0] 3)).alloc (.cells #[.pointer (some ⟨sb, so, none⟩)] 78)).heap.size = w.heap.size + 3 := by simp
  obtain ⟨W0, hW0⟩ : ∃ W0, ((w.alloc (.cells #[.int .i64 n] 3)).alloc (.cells #[.int .i64 0] 3)).alloc (.cells #[.pointer (some ⟨sb, so, none⟩)] 78) = W0 := ⟨_, rfl⟩
  rw [hW0] at bS bL bA hB0 hsz ⊢
  clear hW0
  refine wpIn_rangeFunc_ownH rfl (by omega) (gf := 37) (lb := #[.pointer (some ⟨w.heap.size + 1 + 1, 0, none⟩)]) rfl trivial (enters_of Try.func37 (by kernel_rfl) rfl)
    (all_stops 4 (w.heap.size + 1 + 1) w.heap.size sb so pg np ab nb cb Bk F R AB LB CB X (by omega) W0 w (by omega) (by omega) bA.cell hS (by omega) hB0) KpB.trans (fun W l o o' hl ho h1 h2 => ⟨belowK_b (w := W0) (by omega) W l o o' hl ho h1 h2, World.putObj_heap_other (by omega)⟩) (Below.refl _ _) (fun _ => rfl)
    (fun pre W => (Boxed W w.heap.size 3 (.int .i64 (mnL (cntAt X Bk F R) n pre : Int)) ∧ Boxed W (w.heap.size + 1) 3 (.int .i64 (mxL (cntAt X Bk F R) pre : Int)) ∧ Boxed W (w.heap.size + 1 + 1) 78 (.pointer (some ⟨sb, so, none⟩))) ∧ Below w.heap.size w W)
    (fun _ _ _ => False)
    (OwnFrom.and (OwnFrom.and (Own.from (boxed_own _ _ _) _) (OwnFrom.and (Own.from (boxed_own _ _ _) _) (Own.from (boxed_own _ _ _) _))) (ownFrom_below (Nat.le_refl _) (by omega)))
    (fun _ _ _ _ _ hs _ _ => hs)
    ⟨⟨bS, bL, bA⟩, hB0⟩
    (fun x a' W => ∃ Bx, w.heap.size + 1 < Bx ∧ Boxed2 W Bx (.slice (fromAt AB CB Bk F x.1) (R x.1) (R x.1)) (.slice (wordsFrom AB CB Bk F R x.1) (sizeAt X Bk F R x.1) (sizeAt X Bk F R x.1)) ∧ a' = { tmps := #[.pointer (some ⟨sb, so, none⟩), .int .i64 (n : Int), undef, undef, .pointer (some ⟨w.heap.size, 0, none⟩), .pointer (some ⟨w.heap.size + 1, 0, none⟩), undef, .pointer (some ⟨Bx, 0, none⟩), undef, .int .i64 (n : Int), .pointer (some ⟨sb, so, none⟩), .func (.func 37) #[] #[.pointer (some ⟨w.heap.size + 1 + 1, 0, none⟩)], .int .i64 (x.1 : Int), setVal AB CB Bk F R X x.1, undef, undef, undef, undef, undef, undef, undef, undef, undef, undef], defers := [] })
    (fun x a' _ X Y row hs hg hr => by obtain ⟨Bx, h1, h2, h3⟩ := hs; exact ⟨Bx, h1, h2.kept hg (fun r e => (hr r e).2), h3⟩)
    ?assign ?body ?done ?stop
  case assign =>
    rintro l pre x W K ⟨⟨bS1, bL1, bA1⟩, hB1⟩ hK
    unfold setVal
    gi_wp2
    exact hK _ _ ((KeepsOthers.alloc _ _).from _) (KpB.of ((Below.refl _ W).alloc (Nat.le_refl _) _) hB1.size bA1.lt) ⟨⟨bS1.alloc _, bL1.alloc _, bA1.alloc _⟩, hB1.alloc hB1.size _⟩ ⟨W.heap.size, bL1.lt, World.alloc_heap_new _ _, rfl⟩
  case body =>
    rintro l pre x a' W hl ⟨r, hr⟩ ⟨⟨bS1, bL1, bA1⟩, hB1⟩ ⟨Bx, hBx, bX, rfl⟩ hlt
    obtain ⟨hrow, hsl⟩ := (hS.below (Nat.le_refl _) hB1).wordsRow x.2
    have hcnt := cnt_le X Bk F R x.1 hsl
    have hcall : Calls Try.prog 35 #[.agg #[.slice (fromAt AB CB Bk F x.1) (R x.1) (R x.1), .slice (wordsFrom AB CB Bk F R x.1) (sizeAt X Bk F R x.1) (sizeAt X Bk F R x.1)]] W fun e w' => e = .returned (.int .i64 (cntAt X Bk F R x.1 : Int)) ∧ w' = W.alloc (.cells #[.slice (fromAt AB CB Bk F x.1) (R x.1) (R x.1), .slice (wordsFrom AB CB Bk F R x.1) (sizeAt X Bk F R x.1) (sizeAt X Bk F R x.1)] 83) := count_any (fromAt AB CB Bk F x.1) (wordsFrom AB CB Bk F R x.1) (R x.1) (R x.1) _ (sizeAt X Bk F R x.1) (fun i => wordsAt X Bk F x.1 (R x.1 + i)) W hsl (fun _ _ => hS.word _ _) hrow
    have cX : W.cell? ⟨Bx, 0, none⟩ = some (.slice (fromAt AB CB Bk F x.1) (R x.1) (R x.1)) := by rw [cell_of_row _ _ _ _ _ _ bX]; rfl
    have cY : W.cell? ⟨Bx, 1, none⟩ = some (.slice (wordsFrom AB CB Bk F R x.1) (sizeAt X Bk F R x.1) (sizeAt X Bk F R x.1)) := by rw [cell_of_row _ _ _ _ _ _ bX]; rfl
    gi_wp2
    refine ⟨trivial, (CallsIn.inRound l (callsIn_wide.2 hcall)).mono ?_⟩
    rintro e W2 ⟨rfl, hW2⟩
    have hb2 : Below W.heap.size W W2 := by rw [hW2]; exact (Below.refl _ W).alloc (Nat.le_refl _) _
    have hk2 : KeepsOthers W W2 := by rw [hW2]; exact KeepsOthers.alloc _ _
    have bS2 := bS1.alloc (.cells #[.slice (fromAt AB CB Bk F x.1) (R x.1) (R x.1), .slice (wordsFrom AB CB Bk F R x.1) (sizeAt X Bk F R x.1) (sizeAt X Bk F R x.1)] 83)
    have bL2 := bL1.alloc (.cells #[.slice (fromAt AB CB Bk F x.1) (R x.1) (R x.1), .slice (wordsFrom AB CB Bk F R x.1) (sizeAt X Bk F R x.1) (sizeAt X Bk F R x.1)] 83)
    have bA2 := bA1.alloc (.cells #[.slice (fromAt AB CB Bk F x.1) (R x.1) (R x.1), .slice (wordsFrom AB CB Bk F R x.1) (sizeAt X Bk F R x.1) (sizeAt X Bk F R x.1)] 83)
    rw [← hW2] at bS2 bL2 bA2
    have cS := bS2.cell
    have fS := bS2.frozen
    have cL := bL2.cell
    have fL := bL2.frozen
    clear hcall hW2
    have fin : ∀ a b : Nat, a = min (mnL (cntAt X Bk F R) n pre) (cntAt X Bk F R x.1) → b = max (mxL (cntAt X Bk F R) pre) (cntAt X Bk F R x.1) →
        ∀ W3, W3 = (W2.setCell ⟨w.heap.size, 0, none⟩ (.int .i64 (a : Int))).setCell ⟨w.heap.size + 1, 0, none⟩ (.int .i64 (b : Int)) → KeepsFrom (w.heap.size + 3) W W3 ∧ KpB w.heap.size (w.heap.size + 1 + 1) W W3 ∧
          (Boxed W3 w.heap.size 3 (.int .i64 (mnL (cntAt X Bk F R) n (pre ++ [x]) : Int)) ∧ Boxed W3 (w.heap.size + 1) 3 (.int .i64 (mxL (cntAt X Bk F R) (pre ++ [x]) : Int)) ∧ Boxed W3 (w.heap.size + 1 + 1) 78 (.pointer (some ⟨sb, so, none⟩))) ∧ Below w.heap.size w W3 := by
      rintro a b ha hb W3 rfl
      rw [mnL_snoc, mxL_snoc, ← ha, ← hb]
      have q2 : Boxed ((W2.setCell ⟨w.heap.size, 0, none⟩ (.int .i64 (a : Int))).setCell ⟨w.heap.size + 1, 0, none⟩ (.int .i64 (b : Int))) (w.heap.size + 1 + 1) 78 (.pointer (some ⟨sb, so, none⟩)) := (bA2.other (by omega) _).other (by omega) _
      have q3 : Below w.heap.size W ((W2.setCell ⟨w.heap.size, 0, none⟩ (.int .i64 (a : Int))).setCell ⟨w.heap.size + 1, 0, none⟩ (.int .i64 (b : Int))) :=
        ((hb2.mono hB1.size).setCell (p := ⟨w.heap.size, 0, none⟩) (Nat.le_refl _) _).setCell (p := ⟨w.heap.size + 1, 0, none⟩) (by simp) _
      refine ⟨((hk2.trans (KeepsOthers.setCell _ _ _)).trans (KeepsOthers.setCell _ _ _)).from _, ⟨q3, (show _ = _ from q2).trans (show _ = _ from bA1).symm⟩, ⟨(bS2.set _).other (by omega) _, (bL2.other (by omega) _).set _, q2⟩, hB1.trans q3⟩
    gi_wp2
    all_goals
      refine fin _ _ ?_ ?_ _ rfl
      · omega
      · omega
  case done =>
    rintro D zs W hD rfl ⟨⟨bS1, bL1, bA1⟩, hB1⟩ hK
    rw [mnL_upTo _ _ _ _ (Nat.le_refl _)] at bS1
    rw [mxL_upTo _ _ _ (Nat.le_refl _)] at bL1
    have cS := bS1.cell
    have fS := bS1.frozen
    have cL := bL1.cell
    have fL := bL1.frozen
    have hmx : Try.prog.follows .mixedOrders = true := by kernel_rfl
    gi_wp2
    gi_region
    gi_wp2
    have r1 : Boxed (W.setCell ⟨w.heap.size, 0, none⟩ (.int .i64 (mnS (cntAt X Bk F R) n np : Int))) w.heap.size 3 _ := bS1.set _
    have r2 := (r1.other (B' := w.heap.size + 1) (by omega) (.int .i64 (mxS (cntAt X Bk F R) np : Int)))
    have r3 := (bL1.other (B' := w.heap.size) (by omega) (.int .i64 (mnS (cntAt X Bk F R) n np : Int))).set (.int .i64 (mxS (cntAt X Bk F R) np : Int))
    have hB2 := (hB1.setCell (p := ⟨w.heap.size, 0, none⟩) (Nat.le_refl _) (.int .i64 (mnS (cntAt X Bk F R) n np : Int))).setCell (p := ⟨w.heap.size + 1, 0, none⟩) (by simp) (.int .i64 (mxS (cntAt X Bk F R) np : Int))
    have hK2 := (KeepsOthers.setCell (W.setCell ⟨w.heap.size, 0, none⟩ (.int .i64 (mnS (cntAt X Bk F R) n np : Int))) ⟨w.heap.size + 1, 0, none⟩ (.int .i64 (mxS (cntAt X Bk F R) np : Int))).same D _ ((KeepsOthers.setCell W ⟨w.heap.size, 0, none⟩ (.int .i64 (mnS (cntAt X Bk F R) n np : Int))).same D _ hK rfl) rfl
    generalize (W.setCell ⟨w.heap.size, 0, none⟩ (.int .i64 (mnS (cntAt X Bk F R) n np : Int))).setCell ⟨w.heap.size + 1, 0, none⟩ (.int .i64 (mxS (cntAt X Bk F R) np : Int)) = W4 at *
    have hK3 : W4.drew.heap[D]? = some (.deferred (some [])) := hK2
    have r2' : Boxed W4.drew w.heap.size 3 (.int .i64 (mnS (cntAt X Bk F R) n np : Int)) := r2
    have r3' : Boxed W4.drew (w.heap.size + 1) 3 (.int .i64 (mxS (cntAt X Bk F R) np : Int)) := r3
    have r4 := cell_kept r2'.cell (grownBy_putObj' _ D (.deferred none)) (fun r e => by cases e; exact ⟨_, hK3, rfl⟩)
    have r5 := cell_kept r3'.cell (grownBy_putObj' _ D (.deferred none)) (fun r e => by cases e; exact ⟨_, hK3, rfl⟩)
    refine ⟨by simp, .inl ⟨_, _, rfl, run_takeDeferred hK3, ?_⟩⟩
    refine ⟨.tuple #[.int .i64 (mnS (cntAt X Bk F R) n np : Int), .int .i64 (mxS (cntAt X Bk F R) np : Int)], ?_, rfl, ?_⟩
    · simp [results, Try.results30, go_sem, r4, r5]
    · exact Below.trans (b := W4.drew) ⟨hB2.os, hB2.tape, hB2.output, hB2.size, hB2.block⟩ (belowK_b (w := w) (Nat.le_refl _) _ D _ _ (by omega) hK3 rfl rfl)
  case stop =>
    rintro D c pre W _ _ h _
    exact h.elim
end Go.Proofs.Qxb6614810a

/-
  PLAIN: one more set put in at a place: the least and the greatest count.
-/
import Derived.Test.Qxb6614810aSzF
namespace Go.Proofs.Qxb6614810a
open Go.RowKit

theorem mnS_congr {c d : Nat → Nat} (n : Nat) : ∀ k, (∀ j, j < k → c j = d j) → mnS c n k = mnS d n k
  | 0, _ => rfl
  | k + 1, h => by simp only [mnS]; rw [mnS_congr n k (fun j hj => h j (by omega)), h k (by omega)]
theorem mxS_congr {c d : Nat → Nat} : ∀ k, (∀ j, j < k → c j = d j) → mxS c k = mxS d k
  | 0, _ => rfl
  | k + 1, h => by simp only [mxS]; rw [mxS_congr k (fun j hj => h j (by omega)), h k (by omega)]
theorem mnS_ins {c d : Nat → Nat} {n k v : Nat} (h1 : ∀ j, j < k → d j = c j) (h2 : d k = v) : ∀ t, (∀ j, k ≤ j → j < k + t → d (j + 1) = c j) → mnS d n (k + t + 1) = min (mnS c n (k + t)) v
  | 0, _ => by show min (mnS d n k) (d k) = _; rw [mnS_congr n k h1, h2]; rfl
  | t + 1, h3 => by
    have ih := mnS_ins (n := n) h1 h2 t (fun j hj hk => h3 j hj (by omega))
    show min (mnS d n (k + t + 1)) (d (k + t + 1)) = min (min (mnS c n (k + t)) (c (k + t))) v
    rw [ih, h3 (k + t) (by omega) (by omega)]
    omega
theorem mxS_ins {c d : Nat → Nat} {k v : Nat} (h1 : ∀ j, j < k → d j = c j) (h2 : d k = v) : ∀ t, (∀ j, k ≤ j → j < k + t → d (j + 1) = c j) → mxS d (k + t + 1) = max (mxS c (k + t)) v
  | 0, _ => by show max (mxS d k) (d k) = _; rw [mxS_congr k h1, h2]; rfl
  | t + 1, h3 => by
    have ih := mxS_ins h1 h2 t (fun j hj hk => h3 j hj (by omega))
    show max (mxS d (k + t + 1)) (d (k + t + 1)) = max (max (mxS c (k + t)) (c (k + t))) v
    rw [ih, h3 (k + t) (by omega) (by omega)]
    omega

def ins (k : Nat) (f : Nat → Nat) (v : Nat) (j : Nat) : Nat := if j < k then f j else if j = k then v else f (j - 1)
def upd {α : Type} (nb : Nat) (f : Nat → α) (v : α) (i : Nat) : α := if i = nb then v else f i
theorem ins_lt {k j v : Nat} {f : Nat → Nat} (h : j < k) : ins k f v j = f j := if_pos h
theorem ins_eq {k v : Nat} {f : Nat → Nat} : ins k f v k = v := by rw [ins, if_neg (by omega), if_pos rfl]
theorem ins_gt {k j v : Nat} {f : Nat → Nat} (h : k ≤ j) : ins k f v (j + 1) = f j := by rw [ins, if_neg (by omega), if_neg (by omega)]; rfl
theorem upd_ne {α : Type} {nb i : Nat} {f : Nat → α} {v : α} (h : i ≠ nb) : upd nb f v i = f i := if_neg h
theorem upd_eq {α : Type} {nb : Nat} {f : Nat → α} {v : α} : upd nb f v nb = v := if_pos rfl

def szx (x : Nat → Nat) (f r : Nat) : Nat := sizeOf' (fun i => x (f + i)) r
def ctx' (x : Nat → Nat) (f r : Nat) : Nat := popS (fun i => x (f + (r + i))) (szx x f r)
theorem sizeAt_eq (X : Nat → Nat → Nat) (Bk F R : Nat → Nat) (j : Nat) : sizeAt X Bk F R j = szx (X (Bk j)) (F j) (R j) := rfl
theorem cntAt_eq (X : Nat → Nat → Nat) (Bk F R : Nat → Nat) (j : Nat) : cntAt X Bk F R j = ctx' (X (Bk j)) (F j) (R j) := rfl

/-- The cells of the set that is put in. -/
def nrOf (m : Nat) : Nat := if 0 < m then 1 else 0
def newX (NW : Nat → Nat) (m c : Nat) : Nat := if 0 < m ∧ c = 0 then m * 4294967296 else NW (c - nrOf m)
theorem szx_new (NW : Nat → Nat) (m : Nat) : szx (newX NW m) 0 (nrOf m) = m := by
  unfold szx sizeOf' nrOf newX
  by_cases h : 0 < m
  · simp [h]
  · simp [h]; omega
theorem ctx_new (NW : Nat → Nat) (m : Nat) : ctx' (newX NW m) 0 (nrOf m) = popS NW m := by
  unfold ctx'
  rw [szx_new]
  refine popS_congr m fun i hi => ?_
  have h : 0 < m := by omega
  simp only [newX, nrOf, if_pos h]
  rw [if_neg (by omega)]
  congr 1
  omega

theorem fit_ins {np nb k m : Nat} {Bk F R LB : Nat → Nat} {X : Nat → Nat → Nat} (NW : Nat → Nat) (hf : PFit np nb Bk F R LB X) (hk : k ≤ np) :
    PFit (np + 1) (nb + 1) (ins k Bk nb) (ins k F 0) (ins k R (nrOf m)) (upd nb LB (nrOf m + m)) (upd nb X (newX NW m)) := by
  intro j hj
  rw [sizeAt_eq]
  by_cases h1 : j < k
  · obtain ⟨g1, g2⟩ := hf j (by omega)
    rw [ins_lt h1, ins_lt h1, ins_lt h1, upd_ne (by omega), upd_ne (by omega)]
    exact ⟨by omega, g2⟩
  · by_cases h2 : j = k
    · subst h2
      rw [ins_eq, ins_eq, ins_eq, upd_eq, upd_eq, szx_new]
      omega
    · obtain ⟨i, rfl⟩ : ∃ i, j = i + 1 := ⟨j - 1, by omega⟩
      obtain ⟨g1, g2⟩ := hf i (by omega)
      rw [ins_gt (by omega), ins_gt (by omega), ins_gt (by omega), upd_ne (by omega), upd_ne (by omega)]
      exact ⟨by omega, g2⟩
theorem cnt_ins {np nb k m : Nat} {Bk F R LB : Nat → Nat} {X : Nat → Nat → Nat} (NW : Nat → Nat) (hf : PFit np nb Bk F R LB X) (n : Nat) (hk : k ≤ np) :
    mnS (cntAt (upd nb X (newX NW m)) (ins k Bk nb) (ins k F 0) (ins k R (nrOf m))) n (np + 1) = min (mnS (cntAt X Bk F R) n np) (popS NW m) ∧
    mxS (cntAt (upd nb X (newX NW m)) (ins k Bk nb) (ins k F 0) (ins k R (nrOf m))) (np + 1) = max (mxS (cntAt X Bk F R) np) (popS NW m) := by
  obtain ⟨t, rfl⟩ : ∃ t, np = k + t := ⟨np - k, by omega⟩
  have h1 : ∀ j, j < k → cntAt (upd nb X (newX NW m)) (ins k Bk nb) (ins k F 0) (ins k R (nrOf m)) j = cntAt X Bk F R j := by
    intro j hj
    have := (hf j (by omega)).1
    rw [cntAt_eq, cntAt_eq, ins_lt hj, ins_lt hj, ins_lt hj, upd_ne (by omega)]
  have h2 : cntAt (upd nb X (newX NW m)) (ins k Bk nb) (ins k F 0) (ins k R (nrOf m)) k = popS NW m := by
    rw [cntAt_eq, ins_eq, ins_eq, ins_eq, upd_eq, ctx_new]
  have h3 : ∀ j, k ≤ j → j < k + t → cntAt (upd nb X (newX NW m)) (ins k Bk nb) (ins k F 0) (ins k R (nrOf m)) (j + 1) = cntAt X Bk F R j := by
    intro j hj hl
    have := (hf j hl).1
    rw [cntAt_eq, cntAt_eq, ins_gt hj, ins_gt hj, ins_gt hj, upd_ne (by omega)]
  exact ⟨mnS_ins h1 h2 t h3, mxS_ins h1 h2 t h3⟩

theorem blocks_upd {w : World} {ab : Option Addr} {nb gc m : Nat} {AB : Nat → Option Addr} {LB CB : Nat → Nat} {X : Nat → Nat → Nat} (gB : Nat) (NW : Nat → Nat) (h : BlocksAt w ab nb AB LB CB X) (hm : m ≤ 131072) (hnb : nb ≤ 131072) (hNW : ∀ i, NW i < 18446744073709551616)
    (hrow : RowAt w (some ⟨gB, 0, none⟩) (nb + 1) fun i => .slice (upd nb AB (some ⟨gc, 0, none⟩) i) (upd nb LB (nrOf m + m) i) (upd nb CB (nrOf m + m) i)) (hc : RowAt w (some ⟨gc, 0, none⟩) (nrOf m + m) fun i => .int .u64 (newX NW m i : Int)) :
    BlocksAt w (some ⟨gB, 0, none⟩) (nb + 1) (upd nb AB (some ⟨gc, 0, none⟩)) (upd nb LB (nrOf m + m)) (upd nb CB (nrOf m + m)) (upd nb X (newX NW m)) := by
  have hnr : nrOf m ≤ 1 := by unfold nrOf; split <;> omega
  refine ⟨hrow, fun i hi => ?_, fun i hi => ?_, fun i hi => ?_, fun i c => ?_, by omega⟩
  · by_cases e : i = nb
    · subst e; simp only [upd_eq]; exact hc
    · simp only [upd_ne e]; exact h.rows i (by omega)
  · by_cases e : i = nb
    · subst e; simp only [upd_eq]; omega
    · simp only [upd_ne e]; exact h.cap i (by omega)
  · by_cases e : i = nb
    · subst e; simp only [upd_eq]; omega
    · simp only [upd_ne e]; exact h.small i (by omega)
  · by_cases e : i = nb
    · subst e; simp only [upd_eq]; unfold newX; split
      · omega
      · exact hNW _
    · simp only [upd_ne e]; exact h.word i c
end Go.Proofs.Qxb6614810a

/-
  PLAIN: two positions swapped; the least and the greatest count are met.
-/
import Derived.Test.Qxb6614810aSzH
namespace Go.Proofs.Qxb6614810a
open Go.RowKit

theorem mnS_le {c : Nat → Nat} {n : Nat} : ∀ k, mnS c n k ≤ n
  | 0 => Nat.le_refl _
  | k + 1 => by have := mnS_le (c := c) (n := n) k; simp only [mnS]; omega
theorem mnS_at {c : Nat → Nat} {n : Nat} : ∀ k j, j < k → mnS c n k ≤ c j
  | 0, j, h => by omega
  | k + 1, j, h => by
    simp only [mnS]
    by_cases e : j = k
    · subst e; omega
    · have := mnS_at (c := c) (n := n) k j (by omega); omega
theorem mnS_is {c : Nat → Nat} {n : Nat} : ∀ k, mnS c n k = n ∨ ∃ j, j < k ∧ c j = mnS c n k
  | 0 => .inl rfl
  | k + 1 => by
    simp only [mnS]
    by_cases e : c k ≤ mnS c n k
    · exact .inr ⟨k, by omega, by omega⟩
    · rcases mnS_is (c := c) (n := n) k with h | ⟨j, h1, h2⟩
      · exact .inl (by omega)
      · exact .inr ⟨j, by omega, by omega⟩
theorem mxS_at {c : Nat → Nat} : ∀ k j, j < k → c j ≤ mxS c k
  | 0, j, h => by omega
  | k + 1, j, h => by
    simp only [mxS]
    by_cases e : j = k
    · subst e; omega
    · have := mxS_at (c := c) k j (by omega); omega
theorem mxS_is {c : Nat → Nat} : ∀ k, 0 < k → ∃ j, j < k ∧ c j = mxS c k
  | 0, h => by omega
  | k + 1, _ => by
    simp only [mxS]
    by_cases e : mxS c k ≤ c k
    · exact ⟨k, by omega, by omega⟩
    · by_cases h0 : k = 0
      · subst h0; simp [mxS] at e
      · obtain ⟨j, h1, h2⟩ := mxS_is (c := c) k (by omega)
        exact ⟨j, by omega, by omega⟩
theorem mnS_same {c d : Nat → Nat} {n k : Nat} (h1 : ∀ j, j < k → ∃ i, i < k ∧ c i = d j) : mnS c n k ≤ mnS d n k := by
  rcases mnS_is (c := d) (n := n) k with h | ⟨j, hj, h⟩
  · rw [h]; exact mnS_le k
  · obtain ⟨i, hi, e⟩ := h1 j hj
    have := mnS_at (c := c) (n := n) k i hi
    omega
theorem mxS_same {c d : Nat → Nat} {k : Nat} (h1 : ∀ j, j < k → ∃ i, i < k ∧ c i = d j) : mxS d k ≤ mxS c k := by
  by_cases h0 : k = 0
  · subst h0; exact Nat.le_refl _
  · obtain ⟨j, hj, h⟩ := mxS_is (c := d) k (by omega)
    obtain ⟨i, hi, e⟩ := h1 j hj
    have := mxS_at (c := c) k i hi
    omega

def sw (i j : Nat) (f : Nat → Nat) (t : Nat) : Nat := if t = i then f j else if t = j then f i else f t
def swp (i j t : Nat) : Nat := if t = i then j else if t = j then i else t
theorem sw_eq (i j : Nat) (f : Nat → Nat) (t : Nat) : sw i j f t = f (swp i j t) := by unfold sw swp; split; rfl; split <;> rfl
theorem swp_swp (i j t : Nat) : swp i j (swp i j t) = t := by
  unfold swp
  by_cases h1 : t = i
  · rw [if_pos h1]
    by_cases h2 : j = i
    · rw [if_pos h2]; omega
    · rw [if_neg h2, if_pos rfl]; omega
  · rw [if_neg h1]
    by_cases h2 : t = j
    · rw [if_pos h2, if_pos rfl]; omega
    · rw [if_neg h2, if_neg h1, if_neg h2]
theorem swp_lt {i j t n : Nat} (hi : i < n) (hj : j < n) (ht : t < n) : swp i j t < n := by unfold swp; split; omega; split <;> omega
theorem cnt_sw (X : Nat → Nat → Nat) (Bk F R : Nat → Nat) (i j t : Nat) : cntAt X (sw i j Bk) (sw i j F) (sw i j R) t = cntAt X Bk F R (swp i j t) := by
  rw [cntAt_eq, cntAt_eq, sw_eq, sw_eq, sw_eq]
theorem fit_sw {np nb i j : Nat} {Bk F R LB : Nat → Nat} {X : Nat → Nat → Nat} (hf : PFit np nb Bk F R LB X) (hi : i < np) (hj : j < np) : PFit np nb (sw i j Bk) (sw i j F) (sw i j R) LB X := by
  intro t ht
  have h := hf (swp i j t) (swp_lt hi hj ht)
  rw [sizeAt_eq] at h ⊢
  rw [sw_eq, sw_eq, sw_eq]
  exact h
theorem mn_sw {np i j : Nat} (X : Nat → Nat → Nat) (Bk F R : Nat → Nat) (n : Nat) (hi : i < np) (hj : j < np) : mnS (cntAt X (sw i j Bk) (sw i j F) (sw i j R)) n np = mnS (cntAt X Bk F R) n np := by
  apply Nat.le_antisymm
  · exact mnS_same fun t ht => ⟨swp i j t, swp_lt hi hj ht, by rw [cnt_sw, swp_swp]⟩
  · exact mnS_same fun t ht => ⟨swp i j t, swp_lt hi hj ht, by rw [cnt_sw]⟩
theorem mx_sw {np i j : Nat} (X : Nat → Nat → Nat) (Bk F R : Nat → Nat) (hi : i < np) (hj : j < np) : mxS (cntAt X (sw i j Bk) (sw i j F) (sw i j R)) np = mxS (cntAt X Bk F R) np := by
  apply Nat.le_antisymm
  · exact mxS_same fun t ht => ⟨swp i j t, swp_lt hi hj ht, by rw [cnt_sw]⟩
  · exact mxS_same fun t ht => ⟨swp i j t, swp_lt hi hj ht, by rw [cnt_sw, swp_swp]⟩

/-- Two cells of a laid row, swapped. -/
def swapW (w : World) (g i j : Nat) (V : Nat → Nat) : World := (w.setCell ⟨g, i, none⟩ (.int .i32 (V j : Int))).setCell ⟨g, j, none⟩ (.int .i32 (V i : Int))
theorem LaidG.swap {w : World} {g n i j : Nat} {e : TypeId} {V : Nat → Nat} (h : LaidG w g e n n fun t => .int .i32 (V t : Int)) (hi : i < n) (hj : j < n) :
    LaidG (swapW w g i j V) g e n n (fun t => .int .i32 (sw i j V t : Int)) := by
  unfold swapW
  obtain ⟨c, h1, h2, h3⟩ := h
  have e1 := heap_setCell_same w g i c.toArray e (.int .i32 (V j : Int)) h2
  have e2 := heap_setCell_same _ g j _ e (.int .i32 (V i : Int)) e1
  refine ⟨(c.set i (.int .i32 (V j : Int))).set j (.int .i32 (V i : Int)), by simpa using h1, by rw [e2]; simp, fun t ht => ?_⟩
  have h4 := h3 t ht
  show _ = some (Value.int .i32 (sw i j V t : Int))
  rw [List.getElem?_set, List.length_set, List.getElem?_set]
  unfold sw
  by_cases x1 : j = t
  · subst x1
    rw [if_pos rfl, if_pos (by omega)]
    by_cases x2 : j = i
    · subst x2; rw [if_pos rfl]
    · rw [if_neg x2, if_pos rfl]
  · rw [if_neg x1]
    by_cases x2 : i = t
    · subst x2; rw [if_pos rfl, if_pos (by omega), if_pos rfl]
    · rw [if_neg x2, if_neg (by omega), if_neg (by omega)]; exact h4
theorem LaidG.put {w : World} {g n i : Nat} {e : TypeId} {v : Nat → Value} (h : LaidG w g e n n v) (u : Value) {k : Nat} (hk : k < n) : (∃ u', (w.setCell ⟨g, i, none⟩ u).cell? ⟨g, k, none⟩ = some u') ∧ (w.setCell ⟨g, i, none⟩ u).frozen? ⟨g, k, none⟩ = false := by
  obtain ⟨c, h1, h2, h3⟩ := h
  have e1 := heap_setCell_same w g i c.toArray e u h2
  refine ⟨⟨(c.toArray.setIfInBounds i u)[k]'(by simp; omega), ?_⟩, frozen_of_row _ _ _ _ _ e1⟩
  rw [cell_of_row _ _ _ _ _ _ e1]
  exact Array.getElem?_eq_getElem (by simp; omega)
theorem LaidG.below {w w' : World} {B g n t : Nat} {e : TypeId} {v : Nat → Value} (h : LaidG w g e n t v) (hg : g < B) (hb : Below B w w') : LaidG w' g e n t v := by
  obtain ⟨c, h1, h2, h3⟩ := h
  exact ⟨c, h1, (hb.block _ hg).trans h2, h3⟩
theorem LaidG.lt {w : World} {g n t : Nat} {e : TypeId} {v : Nat → Value} (h : LaidG w g e n t v) : g < w.heap.size := by
  obtain ⟨c, h1, h2, h3⟩ := h
  exact lt_of_block h2
theorem LaidG.nth {w : World} {g n t : Nat} {e : TypeId} {v : Nat → Value} (h : LaidG w g e n t v) {i : Nat} (hi : i < t) : w.cell? ⟨g, i, none⟩ = some (v i) := by
  obtain ⟨c, h1, h2, h3⟩ := h
  rw [cell_of_row _ _ _ _ _ _ h2, List.getElem?_toArray]
  exact h3 i hi
theorem RowAt.congr {w : World} {ao : Option Addr} {n : Nat} {v u : Nat → Value} (h : RowAt w ao n v) (e : ∀ i, i < n → v i = u i) : RowAt w ao n u := by
  rcases h with h | ⟨b, o, h1, h2, h3⟩
  · exact .inl h
  · exact .inr ⟨b, o, h1, h2, fun i hi => by rw [← e i hi]; exact h3 i hi⟩
theorem RowAt.nth {w : World} {b o n : Nat} {v : Nat → Value} (h : RowAt w (some ⟨b, o, none⟩) n v) {i : Nat} (hi : i < n) : w.cell? ⟨b, o + i, none⟩ = some (v i) := by
  rcases h with h | ⟨b', o', h1, _, h3⟩
  · omega
  · cases h1; exact h3 i hi
theorem LaidG.other {w : World} {g n t g' i : Nat} {e : TypeId} {v : Nat → Value} (h : LaidG w g e n t v) (hne : g ≠ g') (u : Value) : LaidG (w.setCell ⟨g', i, none⟩ u) g e n t v := by
  obtain ⟨c, h1, h2, h3⟩ := h
  exact ⟨c, h1, by rw [heap_setCell_other _ _ _ _ (by simpa using hne)]; exact h2, h3⟩
theorem LaidG.swapO {w : World} {g n t g' i j : Nat} {e : TypeId} {v : Nat → Value} {V : Nat → Nat} (h : LaidG w g e n t v) (hne : g ≠ g') : LaidG (swapW w g' i j V) g e n t v := (h.other hne _).other hne _
theorem below_swap {B : Nat} {w w' : World} {g i j : Nat} {V : Nat → Nat} (h : Below B w w') (hg : B ≤ g) : Below B w (swapW w' g i j V) := (h.setCell (p := ⟨g, i, none⟩) hg _).setCell (p := ⟨g, j, none⟩) hg _
theorem size_swap {w : World} {g i j : Nat} {V : Nat → Nat} (h : Below 0 w w) : w.heap.size ≤ (swapW w g i j V).heap.size := (below_swap h (Nat.zero_le _)).size
end Go.Proofs.Qxb6614810a

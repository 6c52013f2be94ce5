/-
  PLAIN FACTS on the numbers that FnLackSlotsCut compares at its end.
-/
import Derived.Test.Qxb6614702aDoorPlain
namespace Go.Proofs.Qxb6614702aDoor
open Go

theorem getD_get {α : Type} {l : List α} {d : α} {i : Nat} (h : i < l.length) : l.getD i d = l[i] := by rw [List.getD_eq_getElem?_getD, List.getElem?_eq_getElem h]; rfl
theorem getD_left {α : Type} {a b : List α} {d : α} {i : Nat} (h : i < a.length) : (a ++ b).getD i d = a.getD i d := by rw [List.getD_eq_getElem?_getD, List.getElem?_append_left h, ← List.getD_eq_getElem?_getD]
theorem getD_right {α : Type} {a b : List α} {d : α} {i : Nat} : (a ++ b).getD (a.length + i) d = b.getD i d := by
  rw [List.getD_eq_getElem?_getD, List.getElem?_append_right (by omega), List.getD_eq_getElem?_getD]
  congr 2
  omega

/-- What the last loops of FnLackSlotsCut find: f the whole list, f1 and f2 its two parts. -/
structure Found (A : Nat → Int) (B : Nat → Nat) (n L l1 l2 : Nat) (f f1 f2 : Nat → Int) : Prop where
  sum : l1 + l2 = L
  pos : 0 < L
  one : ∀ j, j < l1 → f j = f1 j
  two : ∀ j, j < l2 → f (l1 + j) = f2 j
  asc : ∀ i j, i < j → j < L → f i < f j
  low : ∀ j, j < L → 0 ≤ f j ∧ f j < 1073741824
  at' : ∀ j, j < L → ∃ m, m < n ∧ A m = f j / 64 ∧ (B m).testBit (f j % 64).toNat = true
  rise : ∀ i j, i < j → j < n → A i < A j

theorem found_of {A : Nat → Int} {B : Nat → Nat} {n c : Nat} (hn : 0 < n) (hc : c ≤ n) (h : validB A B n = true) (hB : ∀ i, i < n → B i < 18446744073709551616) :
    Found A B n (slots (chunks A B n)).length (slots (chunks A B c)).length (slots (chunks (fun i => A (c + i)) (fun i => B (c + i)) (n - c))).length
      (fun i => (slots (chunks A B n)).getD i 0) (fun i => (slots (chunks A B c)).getD i 0) (fun i => (slots (chunks (fun i => A (c + i)) (fun i => B (c + i)) (n - c))).getD i 0) := by
  have hcut : slots (chunks A B n) = slots (chunks A B c) ++ slots (chunks (fun i => A (c + i)) (fun i => B (c + i)) (n - c)) := by rw [chunks_cut A B n c hc, slots_append]
  have hv := valid_of h hB
  have hasc := slots_asc hv.2
  have hmem : ∀ j, j < (slots (chunks A B n)).length → ∃ m, m < n ∧ A m = (slots (chunks A B n)).getD j 0 / 64 ∧ (B m).testBit ((slots (chunks A B n)).getD j 0 % 64).toNat = true := by
    intro j hj
    rw [getD_get hj]
    obtain ⟨m, hm, h1, h2⟩ := slots_mem (List.getElem_mem hj)
    rw [chunks_get] at h1 h2
    exact ⟨m, by simpa [chunks] using hm, h1, h2⟩
  refine ⟨by rw [hcut, List.length_append], ?_, ?_, ?_, ?_, ?_, hmem, fun i j hij hj => asc_of h j hj i hij⟩
  · obtain ⟨m, rfl⟩ : ∃ m, n = m + 1 := ⟨n - 1, by omega⟩
    have hb := (okB_iff.1 (validB_iff.1 h m (by omega))).2.2.1
    have := bitsOf_eq_nil (B m) hb (hB m (by omega))
    rw [slots_succ, List.length_append]
    simp only [slotsOf, List.length_map]
    have : 0 < (bitsOf (B m)).length := List.length_pos_iff.2 this
    omega
  · intro j hj
    show (slots (chunks A B n)).getD j 0 = _
    rw [hcut, getD_left hj]
  · intro j hj
    show (slots (chunks A B n)).getD _ 0 = _
    rw [hcut, getD_right]
  · intro i j hij hj
    show (slots (chunks A B n)).getD i 0 < (slots (chunks A B n)).getD j 0
    rw [getD_get hj, getD_get (by omega)]
    exact List.pairwise_iff_getElem.1 hasc i j (by omega) hj hij
  · intro j hj
    obtain ⟨m, hm, h1, _⟩ := hmem j hj
    have := okB_iff.1 (validB_iff.1 h m hm)
    show 0 ≤ (slots (chunks A B n)).getD j 0 ∧ (slots (chunks A B n)).getD j 0 < 1073741824
    omega

theorem Found.place {A : Nat → Int} {B : Nat → Nat} {n L l1 l2 : Nat} {f f1 f2 : Nat → Int} (F : Found A B n L l1 l2 f f1 f2) {t m m' : Nat} (hm : m < n) (h : A m = f t / 64)
    {t' : Nat} (ht' : t + 1 ≤ t') (hL : t' < L) (h' : A m' = f t' / 64) : m ≤ m' := by
  have h1 := F.asc t t' (by omega) hL
  apply Nat.le_of_not_lt
  intro hlt
  have h2 := F.rise m' m hlt hm
  omega
end Go.Proofs.Qxb6614702aDoor

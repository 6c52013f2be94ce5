/-
  SLICES OF SLICES THAT CAME IN; ROWS WHOSE NUMBERS ARE IN BOUNDS AT EVERY INDEX.
-/
import Derived.Test.Qxb6614810aFrame
import Derived.Test.Qxb6614810aSzG
import Derived.Deep.Matrix
namespace Go.Proofs.Qxb6614810a
open Go.ChangeShapes Go.WideShapes Go.ChangeAt Go.RowKit

theorem rowCongr {w : World} {ao : Option Addr} {n : Nat} {v u : Nat → Value} (h : RowAt w ao n v) (e : ∀ i, i < n → v i = u i) : RowAt w ao n u := by
  rcases h with h | ⟨b, o, h1, h2, h3⟩
  · exact .inl h
  · exact .inr ⟨b, o, h1, h2, fun i hi => by rw [← e i hi]; exact h3 i hi⟩
theorem bnd_i32 {n : Int} (h : (Lit.int .i32 n).wf = true) : -2147483648 ≤ n ∧ n ≤ 2147483647 := bounds_i32 h
theorem bnd_u64 {n : Int} (h : (Lit.int .u64 n).wf = true) : 0 ≤ n ∧ n ≤ 18446744073709551615 := bounds_u64 h

/-- Numbers of 32 bits: in bounds at every index. -/
theorem ints32 {w : World} {a : Option Addr} {len cap : Nat} (h : IsInts .i32 w a len cap) : ∃ D : Nat → Int, RowAt w a len (fun i => .int .i32 (D i)) ∧ (∀ i, -2147483648 ≤ D i ∧ D i ≤ 2147483647) ∧ len ≤ maxLen := by
  obtain ⟨f, h1, h2, _, h4⟩ := h
  refine ⟨fun i => if i < len then f i else 0, rowCongr h1 (fun i hi => by simp [hi]), fun i => ?_, h4⟩
  by_cases hi : i < len
  · simp only [if_pos hi]; exact bnd_i32 (h2 i hi)
  · simp only [if_neg hi]; omega
theorem words64 {w : World} {a : Option Addr} {len cap : Nat} (h : IsInts .u64 w a len cap) : ∃ D : Nat → Nat, RowAt w a len (fun i => .int .u64 (D i : Int)) ∧ (∀ i, D i < 18446744073709551616) ∧ len ≤ maxLen := by
  obtain ⟨f, h1, h2, _, h4⟩ := h
  refine ⟨fun i => if i < len then (f i).toNat else 0, rowCongr h1 (fun i hi => ?_), fun i => ?_, h4⟩
  · have := (bnd_u64 (h2 i hi)).1
    simp only [if_pos hi]; rw [Int.toNat_of_nonneg this]
  · by_cases hi : i < len
    · have := bnd_u64 (h2 i hi); simp only [if_pos hi]; omega
    · simp only [if_neg hi]; omega

/-- A slice of slices of words that came in. -/
def IsBlocks (w : World) (a : Option Addr) (len : Nat) : Prop :=
  ∃ (AB : Nat → Option Addr) (LB CB : Nat → Nat) (X : Nat → Nat → Nat), RowAt w a len (fun i => .slice (AB i) (LB i) (CB i)) ∧ (∀ i, i < len → RowAt w (AB i) (LB i) fun c => .int .u64 (X i c : Int)) ∧ (∀ i, i < len → LB i ≤ CB i) ∧ (∀ i, i < len → LB i ≤ maxLen) ∧
    (∀ i c, X i c < 18446744073709551616) ∧ len ≤ maxLen
theorem isBlocks_nil (w : World) : IsBlocks w none 0 := ⟨fun _ => none, fun _ => 0, fun _ => 0, fun _ _ => 0, .inl rfl, fun _ h => by omega, fun _ h => by omega, fun _ h => by omega, fun _ _ => (by show 0 < 18446744073709551616; decide), Nat.zero_le _⟩
theorem isBlocks_some {w : World} {a : Addr} {len cap base : Nat} {A : Nat → Option Addr} {L C : Nat → Nat} {Z : Nat → List Int} (hl : len ≤ cap) (hm : cap ≤ maxLen)
    (h : ∀ r, r < cap → w.cell? (a.add r) = some (.slice (A r) (L r) (C r)) ∧ L r ≤ C r ∧ C r ≤ maxLen ∧ (Z r).length = C r ∧ (∀ n ∈ Z r, (Lit.int .u64 n).wf = true) ∧ (A r = none → C r = 0) ∧
        ∀ a', A r = some a' → base ≤ a'.block ∧ ∀ c, c < C r → w.cell? (a'.add c) = some (.int .u64 ((Z r).getD c 0))) : IsBlocks w (some a) len := by
  have hz : ∀ r c, r < cap → c < C r → 0 ≤ (Z r).getD c 0 ∧ (Z r).getD c 0 ≤ 18446744073709551615 := by
    intro r c hr hc
    obtain ⟨_, _, _, h4, h5, _⟩ := h r hr
    refine bnd_u64 (h5 _ ?_)
    rw [List.getD_eq_getElem?_getD, List.getElem?_eq_getElem (by omega)]
    exact List.getElem_mem _
  refine ⟨A, L, C, fun i c => if i < cap ∧ c < C i then ((Z i).getD c 0).toNat else 0, row_in (fun i hi => (h i hi).1) hl, fun i hi => ?_, fun i hi => (h i (by omega)).2.1, fun i hi => by have := h i (by omega); omega, fun i c => ?_, by omega⟩
  · obtain ⟨_, h2, _, _, _, h6, h7⟩ := h i (by omega)
    rcases hA : A i with _ | a'
    · exact .inl (by have := h6 hA; omega)
    · refine row_in (n := C i) (fun c hc => ?_) h2
      rw [(h7 a' hA).2 c hc]
      have := (hz i c (by omega) hc).1
      simp only [if_pos (show i < cap ∧ c < C i from ⟨by omega, hc⟩)]
      rw [Int.toNat_of_nonneg this]
  · by_cases e : i < cap ∧ c < C i
    · have := hz i c e.1 e.2; simp only [if_pos e]; omega
    · simp only [if_neg e]; omega
end Go.Proofs.Qxb6614810a

/-
  WHAT THE ROWS OF THIS SEAT SHARE: slices that came in, read as rows.
-/
import Derived.Test.Qxb6614810aRows
import Derived.Test.Qxb6614810aBase
import Derived.ProofKit
import Derived.OpenShut
import Derived.ShutString
import Derived.ChangeOld
import Derived.SliceStrings
namespace Go.Proofs.Qxb6614810a
open Go.ChangeShapes Go.WideShapes Go.ChangeAt Go.RowKit

theorem own : ownKnob Try.prog.godebug = none := by kernel_rfl
theorem laidOut : laidOutB Try.prog = true := by kernel_rfl

/-- A row of cells 'len' long at an address that came in. -/
theorem row_in {w : World} {x : Addr} {len n : Nat} {v : Nat → Value} (h : ∀ i, i < n → w.cell? (x.add i) = some (v i)) (hl : len ≤ n) : RowAt w (some x) len v := by
  by_cases h0 : len = 0
  · exact .inl h0
  · obtain ⟨b, o, spot⟩ := x
    have hspot : spot = none := by simpa [Addr.add] using World.cell?_spot (h 0 (by omega))
    subst hspot
    have hc : ∀ i, i < len → w.cell? ⟨b, o + i, none⟩ = some (v i) := fun i hi => by rw [← add_plain]; exact h i (by omega)
    exact .inr ⟨b, o, rfl, block_lt_of_cell (hc 0 (by omega)), hc⟩

/-- A slice of integers that came in. -/
def IsInts (k : IntKind) (w : World) (a : Option Addr) (len cap : Nat) : Prop :=
  ∃ f : Nat → Int, RowAt w a len (fun i => .int k (f i)) ∧ (∀ i, i < len → (Lit.int k (f i)).wf = true) ∧ len ≤ cap ∧ len ≤ maxLen
theorem isInts_nil (k : IntKind) (w : World) : IsInts k w none 0 0 := ⟨fun _ => 0, .inl rfl, fun _ h => by omega, Nat.le_refl _, Nat.zero_le _⟩
theorem isInts_some {k : IntKind} {w : World} {x : Addr} {len cap : Nat} {zs : List Int} (hl : len ≤ cap) (hm : cap ≤ maxLen) (hz : zs.length = cap)
    (hc : ∀ i, i < zs.length → w.cell? (x.add i) = some (.int k (zs.getD i 0))) (hw : ∀ n ∈ zs, (Lit.int k n).wf = true) : IsInts k w (some x) len cap := by
  refine ⟨fun i => zs.getD i 0, row_in hc (by omega), fun i hi => hw _ ?_, hl, by omega⟩
  show zs.getD i 0 ∈ zs
  rw [List.getD_eq_getElem?_getD, List.getElem?_eq_getElem (by omega)]
  exact List.getElem_mem _

/-- A slice of strings that came in. -/
def IsStrs (w : World) (a : Option Addr) (len : Nat) : Prop :=
  ∃ S : Nat → ByteArray, RowAt w a len (fun i => .string (S i)) ∧ (∀ i, i < len → (S i).size ≤ maxLen) ∧ len ≤ maxLen
theorem isStrs_nil (w : World) : IsStrs w none 0 := ⟨fun _ => ByteArray.empty, .inl rfl, fun _ h => by omega, Nat.zero_le _⟩
theorem isStrs_some {w : World} {x : Addr} {len cap : Nat} {ss : List ByteArray} (hl : len ≤ cap) (hm : cap ≤ maxLen) (hz : ss.length = cap)
    (hc : ∀ i, i < ss.length → w.cell? (x.add i) = some (.string (ss.getD i ByteArray.empty))) (hw : ∀ s ∈ ss, s.size ≤ maxLen) : IsStrs w (some x) len := by
  refine ⟨fun i => ss.getD i ByteArray.empty, row_in hc (by omega), fun i hi => hw _ ?_, by omega⟩
  show ss.getD i ByteArray.empty ∈ ss
  rw [List.getD_eq_getElem?_getD, List.getElem?_eq_getElem (by omega)]
  exact List.getElem_mem _
end Go.Proofs.Qxb6614810a

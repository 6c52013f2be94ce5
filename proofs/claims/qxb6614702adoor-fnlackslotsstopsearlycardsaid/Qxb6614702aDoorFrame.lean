/-
  WHAT BOTH ROWS SHARE: a slice that came in, read as numbers; the listed table; the door's own heap.
-/
import Derived.Test.Qxb6614702aDoorRows
import Derived.Test.Qxb6614702aDoorLeaf
import Derived.ProofKit
import Derived.OpenShut
import Derived.ShutString
import Derived.ChangeOld
import Derived.Below
import Derived.LaidMore
import Derived.Lib.LaidTab
import Derived.Stop.Joined
namespace Go.Proofs.Qxb6614702aDoor
open Go.ChangeShapes Go.WideShapes Go.ChangeAt Go.RowKit

theorem own : ownKnob Tryd.prog.godebug = none := by kernel_rfl
theorem laidOut : laidOutB Tryd.prog = true := by kernel_rfl

/-- A slice of integers that came in: nil; or a row of 'cap' cells, the numbers 'zs'. -/
def IsRow (k : IntKind) (w : World) (a : Option Addr) (len cap : Nat) (zs : List Int) : Prop :=
  (a = none ∧ len = 0 ∧ cap = 0 ∧ zs = []) ∨
  ∃ x, a = some x ∧ len ≤ cap ∧ cap ≤ maxLen ∧ zs.length = cap ∧ (∀ i, i < zs.length → w.cell? (x.add i) = some (.int k (zs.getD i 0))) ∧ ∀ n ∈ zs, (Lit.int k n).wf = true

theorem IsRow.le {k : IntKind} {w : World} {a : Option Addr} {len cap : Nat} {zs : List Int} (h : IsRow k w a len cap zs) : len ≤ maxLen := by
  rcases h with ⟨_, rfl, _⟩ | ⟨_, _, h1, h2, _⟩
  · exact Nat.zero_le _
  · omega

/-- A row with an element: where it lies. -/
theorem IsRow.cells {k : IntKind} {w : World} {a : Option Addr} {len cap : Nat} {zs : List Int} (h : IsRow k w a len cap zs) (hl : 0 < len) :
    ∃ b o, a = some ⟨b, o, none⟩ ∧ b < w.heap.size ∧ (∀ i, i < len → w.cell? ⟨b, o + i, none⟩ = some (.int k (zs.getD i 0))) ∧ ∀ i, i < len → (Lit.int k (zs.getD i 0)).wf = true := by
  rcases h with ⟨_, rfl, _⟩ | ⟨⟨b, o, spot⟩, rfl, h1, _, hz, hc, hw⟩
  · omega
  · have hspot : spot = none := by simpa [Addr.add] using World.cell?_spot (hc 0 (by omega))
    subst hspot
    have hc' : ∀ i, i < len → w.cell? ⟨b, o + i, none⟩ = some (.int k (zs.getD i 0)) := fun i hi => by rw [← add_plain]; exact hc i (by omega)
    refine ⟨b, o, rfl, block_lt_of_cell (hc' 0 hl), hc', fun i hi => hw _ ?_⟩
    rw [List.getD_eq_getElem?_getD, List.getElem?_eq_getElem (by omega)]
    exact List.getElem_mem _

/-! ### The listed table -/
abbrev laidTab : List (String × DataW Unit) := Rows.fnLackSlotsCutRow.laid
/-- The listed variable, by the name that the row gives it. -/
def tabName : String := Rows.fnLackSlotsCutRow.named.headD ""
theorem gTab : Tryd.prog.globalNamed tabName = some 0 := by kernel_rfl
theorem tTab : (Tryd.prog.globals[0]?).map (·.type) = some 72 := by kernel_rfl
theorem tab_eq {H : Type} : Rows.laid_math_bits_deBruijn64tab (H := H) = Lib.tabData .u8 (Lib.deBruijn64tab.map fun n : Nat => (n : Int)) := rfl

theorem of_laid {W : World} (h : laidMetH Tryd.prog laidTab W) : TabAt W := by
  rw [MakeChecks.laidMetH_plain _ _ _ (by kernel_rfl)] at h
  have ht : Lib.TabIs Tryd.prog W tabName .u8 (Lib.deBruijn64tab.map fun n : Nat => (n : Int)) :=
    Lib.tabIs_of_head gTab tTab Tryd.underlying72 Tryd.underlying5 (by kernel_rfl) (by kernel_rfl) h
  intro j hj
  have hc := ht.cell gTab j (by simpa [Lib.deBruijn64tab] using hj)
  rw [hc]
  have hl : Lib.deBruijn64tab.length = 64 := rfl
  simp [List.getD_eq_getElem?_getD, List.getElem?_map, List.getElem?_eq_getElem (show j < Lib.deBruijn64tab.length by omega)]

/-- The door's own heap meets the condition. -/
theorem door_met (os : Os) (args : Array Value) : laidMetH Tryd.prog laidTab ((World.doorLaid Tryd.prog 14 os).forCall (fun _ _ => 0) ⟨#[], args, []⟩).memory :=
  laidMetH_of_parts3 (fuel := 8) (laidMet_of_run' 8 (by kernel_rfl) (by kernel_rfl)) (by kernel_rfl) (by kernel_rfl)
end Go.Proofs.Qxb6614702aDoor

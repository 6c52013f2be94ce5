/-
  WALKS: ZZdescriptionWithWrites, Description.Writes.
-/
import Derived.Test.Qxb6614810aWrB
namespace Go.Proofs.Qxb6614810a
open Go.RowKit

theorem desc_any (an ai ae : Option Addr) (nn cn nd cd ne ce : Nat) (w : World) :
    Calls Try.prog 15 #[.slice an nn cn, .slice ai nd cd, .slice ae ne ce] w fun e w' => e = .returned (.pointer (some ⟨w.heap.size, 0, none⟩)) ∧
      w'.cell? ⟨w.heap.size, 8, none⟩ = some (.slice an nn cn) ∧ w'.cell? ⟨w.heap.size, 9, none⟩ = some (.slice ai nd cd) ∧ w'.cell? ⟨w.heap.size, 10, none⟩ = some (.slice ae ne ce) ∧ Below w.heap.size w w' ∧ w.heap.size < w'.heap.size := by
  go_enter Try.func15, Try.ntmps15
  go_wp2
  go_ret
  refine ⟨rfl, ?_, ?_, ?_, (Below.refl _ _).alloc (Nat.le_refl _) _, by simp⟩
  · rw [World.cell?_alloc_at _ _ _ _ rfl]; rfl
  · rw [World.cell?_alloc_at _ _ _ _ rfl]; rfl
  · rw [World.cell?_alloc_at _ _ _ _ rfl]; rfl

theorem writes_any (b : Nat) (an ai ae : Option Addr) (nn cn nd cd ne ce : Nat) (N : Nat → ByteArray) (D P : Nat → Nat) (w : World) (h : Sets w b 8 an ai ae nn cn nd cd ne ce N D P) (hm0 : nn ≤ 131072) (hm1 : nd ≤ 131072) (hm2 : ne ≤ 131072) (hb : b < w.heap.size) :
    Calls Try.prog 16 #[.pointer (some ⟨b, 0, none⟩)] w fun e w' => e = .returned (.slice (some ⟨w.heap.size, 0, none⟩) ne ne) ∧ ListsAt w' (some ⟨w.heap.size, 0, none⟩) ne (fun j => P (j + 1) - P j) (fun j i => N (D (P j + i))) ∧ Below w.heap.size w w' := by
  go_enter Try.func16, Try.ntmps16
  go_wp2_with (go_at_call 29; refine (lists_any b 8 an ai ae nn cn nd cd ne ce N D P w h hm0 hm1 hm2 hb).mono ?_; rintro e w' ⟨rfl, hl, hbel⟩)
  go_ret
  exact ⟨rfl, hl, hbel⟩

/-- What the three slices hold, in whatever world. -/
structure Rows3 (w : World) (an ai ae : Option Addr) (nn nd cd ne : Nat) (N : Nat → ByteArray) (D P : Nat → Nat) : Prop where
  rowN : RowAt w an nn fun i => .string (N i)
  rowD : RowAt w ai nd fun i => .int .i32 (D i : Int)
  rowE : RowAt w ae ne fun i => .int .i64 (P (i + 1) : Int)
  cap : nd ≤ cd
  zero : P 0 = 0
  mono : ∀ j, j < ne → P j ≤ P (j + 1)
  last : P ne = nd
  within : ∀ p, p < nd → D p < nn

/-- 'ZZdescriptionWithWrites(names, ids, end).Writes()': the two calls' worlds joined. -/
theorem sets_of {w w' : World} {an ai ae : Option Addr} {nn cn nd cd ne ce : Nat} {N : Nat → ByteArray} {D P : Nat → Nat} (h : Rows3 w an ai ae nn nd cd ne N D P)
    (h8 : w'.cell? ⟨w.heap.size, 8, none⟩ = some (.slice an nn cn)) (h9 : w'.cell? ⟨w.heap.size, 9, none⟩ = some (.slice ai nd cd)) (h10 : w'.cell? ⟨w.heap.size, 10, none⟩ = some (.slice ae ne ce)) (hb : Below w.heap.size w w') :
    Sets w' w.heap.size 8 an ai ae nn cn nd cd ne ce N D P :=
  ⟨h8, h9, h10, h.rowN.below (Nat.le_refl _) hb, h.rowD.below (Nat.le_refl _) hb, h.rowE.below (Nat.le_refl _) hb, h.cap, h.zero, h.mono, h.last, h.within⟩
end Go.Proofs.Qxb6614810a

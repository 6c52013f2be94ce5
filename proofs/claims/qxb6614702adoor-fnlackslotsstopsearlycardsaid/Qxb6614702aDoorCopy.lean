/-
  LAWS, of whatever program: 'make([]T, n)' and 'copy(new, old)' for a slice of one-cell elements: a copy first.
-/
import Derived.WalkKit
import Derived.Laws.CopyOwn
namespace Go.Proofs.Qxb6614702aDoor
open Go.RowKit

theorem wpList_make_row {P : Program} (w : World) {ops : Array Oper} {rest : List Oper} {o : Oper} {a : Act} {Q : Exit → Act → World → Prop}
    (hg : o.guard = none) (l : Operand) (t : TypeId) (hop : o.op = Op.makeSlice t l l)
    (e : TypeId) (i : TypeInfo) (z : Value) (h1 : P.underlying t = some (.slice e)) (h2 : P.info? e = some i) (h3 : i.zero = some z) (h4 : i.size = 1)
    (kl : IntKind) (L : Int) (n : Nat) (hl : a.eval l = .int kl L) (hL : L = (n : Int)) (b2 : i.bytes * n ≤ 281474976710656) (b3 : n ≤ maxLen)
    (B : Nat) (w0 : World) (hb : Below B w0 w) (hB : B ≤ w.heap.size)
    (hK : ∀ (w' : World) (cur : List Value), cur.length = n → Hid (w'.heap[w.heap.size]? = some (.cells cur.toArray e (0, 0))) → Below B w0 w' → Below w.heap.size w w' → w.heap.size < w'.heap.size →
      wpList P ops Q rest (a.put o.dst (.slice (some ⟨w.heap.size, 0, none⟩) n n)) w') :
    wpList P ops Q (o :: rest) a w := by
  refine wpList_make_full w hg l l t hop w.heap.size e i z 1 h1 h2 h3 h4 kl kl L L n hl hl hL hL b2 b3 (Nat.le_refl _) ?_
  intro w' hown hgrow
  have hbel : Below w.heap.size w w' := (Below.refl _ _).grown hgrow (Nat.le_refl _) (fun _ h => by cases h)
  rcases hown.2 with ⟨h, _⟩ | ⟨g, cap, cur, h, _, hgg, _, _, hcs, _⟩
  · cases h
  · simp only [Value.slice.injEq, Option.some.injEq, Addr.mk.injEq, and_true, true_and] at h
    obtain ⟨rfl, rfl⟩ := h
    exact hK w' cur.toList (by simpa using hcs) (show _ = _ by simpa using hgg) (hb.trans (hbel.mono hB)) hbel (lt_of_block hgg)

theorem splice_all {α : Type} (L cs : List α) (h : L.length = cs.length) : splice L 0 cs = cs := by simp [splice, h]

/-- 'copy(new, old)' into a row that has just been made, as long as the old slice: what the row then holds. -/
theorem copy_first {P : Program} {w : World} (dT ty elem : TypeId) (g n c B : Nat) (w0 : World) (ad : Option Addr) (cur cs : List Value) (hu : P.underlying dT = some (.slice elem)) (hsz : (P.info? elem).map (·.size) = some 1)
    (hg : w.heap[g]? = some (.cells cur.toArray elem (0, 0))) (hcur : cur.length = n) (hcs : cs.length = n)
    (hsrc : 0 < n → ∃ a, ad = some a ∧ ∀ j v, cs[j]? = some v → w.cell? (a.add j) = some v) (h1 : ∀ v ∈ cs, v.oneCell' = true) (hb : Below B w0 w) (hBg : B ≤ g) :
    ∃ w', (Builtin.copy_ #[dT, dT] ty #[.slice (some ⟨g, 0, none⟩) n n, .slice ad n c]).run P w = .ok (.int .i64 n) w' ∧ Hid (w'.heap[g]? = some (.cells cs.toArray elem (0, 0))) ∧ Below B w0 w' ∧ g < w'.heap.size := by
  by_cases h0 : n = 0
  · subst h0
    obtain rfl : cs = [] := List.eq_nil_of_length_eq_zero hcs
    obtain rfl : cur = [] := List.eq_nil_of_length_eq_zero hcur
    exact ⟨w, run_copy_none (P := P) w dT dT ty elem _ _ 0 0 0 c hu hsz rfl, hg, hb, lt_of_block hg⟩
  · obtain ⟨a, rfl, hs⟩ := hsrc (by omega)
    have hrun := run_copy_row (P := P) w dT dT ty elem g 0 n n a n c cur.toArray elem cs hu hsz hg (by simp [hcs]) hs (by simp; omega) h1
    have e : (cur.toArray.toList.take 0 ++ cs ++ cur.toArray.toList.drop (0 + cs.length)).toArray = cs.toArray := by simp [hcs, hcur]
    rw [e, hcs] at hrun
    have hrow := setRow_heap w g cur.toArray cs.toArray elem (0, 0) hg
    exact ⟨_, hrun, hrow, below_setRow hb hBg _, lt_of_block hrow⟩
end Go.Proofs.Qxb6614702aDoor

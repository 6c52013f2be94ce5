/-
  LAWS AND WORDS that the walks of this seat share: rows of one-cell elements; a copy first.
-/
import Derived.WalkKit
import Derived.WalkSpells
import Derived.WalkLawsBesides
import Derived.Deep.QuietTactic
import Derived.BigQuiet
import Derived.Laws.CopyOwn
import Derived.Deep.RegionWith
import Derived.Deep.DeepCutAuto
namespace Go.Proofs.Qxb6614810a
open Go.RowKit

theorem ret_bool {a b : Bool} (h : a = b) : Ending.returned (.bool a) = .returned (.bool b) := by rw [h]
theorem ret_int {k : IntKind} {a b : Int} (h : a = b) : Ending.returned (.int k a) = .returned (.int k b) := by rw [h]

/-- n one-cell elements from ao on: nothing is said where n = 0. -/
def RowAt (w : World) (ao : Option Addr) (n : Nat) (v : Nat → Value) : Prop :=
  n = 0 ∨ ∃ b o, ao = some ⟨b, o, none⟩ ∧ b < w.heap.size ∧ ∀ i, i < n → w.cell? ⟨b, o + i, none⟩ = some (v i)
theorem RowAt.below {B : Nat} {w w' : World} {ao : Option Addr} {n : Nat} {v : Nat → Value} (h : RowAt w ao n v) (hB : w.heap.size ≤ B) (hb : Below B w w') : RowAt w' ao n v := by
  rcases h with h | ⟨b, o, rfl, hlt, hc⟩
  · exact .inl h
  · exact .inr ⟨b, o, rfl, Nat.lt_of_lt_of_le hlt hb.size, fun i hi => (hb.cell (p := ⟨b, o + i, none⟩) (Nat.lt_of_lt_of_le hlt hB)).trans (hc i hi)⟩
theorem RowAt.drewN {w : World} {ao : Option Addr} {n : Nat} {v : Nat → Value} (h : RowAt w ao n v) (q : Nat) : RowAt (w.drewN q) ao n v := h
theorem RowAt.pos {w : World} {ao : Option Addr} {n : Nat} {v : Nat → Value} (h : RowAt w ao n v) (hn : 0 < n) : ∃ b o, ao = some ⟨b, o, none⟩ ∧ b < w.heap.size ∧ ∀ i, i < n → w.cell? ⟨b, o + i, none⟩ = some (v i) := by
  rcases h with h | h
  · omega
  · exact h
theorem RowAt.less {w : World} {ao : Option Addr} {n m : Nat} {v : Nat → Value} (h : RowAt w ao n v) (hm : m ≤ n) : RowAt w ao m v := by
  rcases h with h | ⟨b, o, rfl, hlt, hc⟩
  · exact .inl (by omega)
  · exact .inr ⟨b, o, rfl, hlt, fun i hi => hc i (by omega)⟩

theorem wpList_make_row {P : Program} (w : World) {ops : Array Oper} {rest : List Oper} {o : Oper} {a : Act} {Q : Exit → Act → World → Prop}
    (hg : o.guard = none) (l : Operand) (t : TypeId) (hop : o.op = Op.makeSlice t l l)
    (e : TypeId) (i : TypeInfo) (z : Value) (h1 : P.underlying t = some (.slice e)) (h2 : P.info? e = some i) (h3 : i.zero = some z) (h4 : i.size = 1)
    (kl : IntKind) (L : Int) (n : Nat) (hl : a.eval l = .int kl L) (hL : L = (n : Int)) (b2 : i.bytes * n ≤ 281474976710656) (b3 : n ≤ maxLen)
    (B : Nat) (w0 : World) (hb : Below B w0 w) (hB : B ≤ w.heap.size)
    (hK : ∀ (w' : World) (cur : List Value), cur.length = n → Hid (w'.heap[w.heap.size]? = some (.cells cur.toArray e (0, 0))) → Below B w0 w' → Below w.heap.size w w' → w.heap.size < w'.heap.size →
      wpList P ops Q rest (a.put o.dst (.slice (some ⟨w.heap.size, 0, none⟩) n n)) w') :
    wpList P ops Q (o :: rest) a w := by
  refine wpList_make_full w hg l l t hop w.heap.size e i z 1 h1 h2 h3 h4 kl kl L L n hl hl hL hL b2 b3 (Nat.le_refl _) ?_
  intro w' hown hgrow
  have hbel : Below w.heap.size w w' := (Below.refl _ _).grown hgrow (Nat.le_refl _) (fun _ h => by cases h)
  rcases hown.2 with ⟨h, _⟩ | ⟨g, cap, cur, h, _, hgg, _, _, hcs, _⟩
  · cases h
  · simp only [Value.slice.injEq, Option.some.injEq, Addr.mk.injEq, and_true, true_and] at h
    obtain ⟨rfl, rfl⟩ := h
    exact hK w' cur.toList (by simpa using hcs) (show _ = _ by simpa using hgg) (hb.trans (hbel.mono hB)) hbel (lt_of_block hgg)

/-- 'copy(new, old)' into a row that has just been made, as long as the old slice. -/
theorem copy_first {P : Program} {w : World} (dT ty elem : TypeId) (g n c B : Nat) (w0 : World) (ad : Option Addr) (cur cs : List Value) (hu : P.underlying dT = some (.slice elem)) (hsz : (P.info? elem).map (·.size) = some 1)
    (hg : w.heap[g]? = some (.cells cur.toArray elem (0, 0))) (hcur : cur.length = n) (hcs : cs.length = n)
    (hsrc : 0 < n → ∃ a, ad = some a ∧ ∀ j v, cs[j]? = some v → w.cell? (a.add j) = some v) (h1 : ∀ v ∈ cs, v.oneCell' = true) (hb : Below B w0 w) (hBg : B ≤ g) :
    ∃ w', (Builtin.copy_ #[dT, dT] ty #[.slice (some ⟨g, 0, none⟩) n n, .slice ad n c]).run P w = .ok (.int .i64 n) w' ∧ Hid (w'.heap[g]? = some (.cells cs.toArray elem (0, 0))) ∧ Below B w0 w' ∧ g < w'.heap.size := by
  by_cases h0 : n = 0
  · subst h0
    obtain rfl : cs = [] := List.eq_nil_of_length_eq_zero hcs
    obtain rfl : cur = [] := List.eq_nil_of_length_eq_zero hcur
    exact ⟨w, run_copy_none (P := P) w dT dT ty elem _ _ 0 0 0 c hu hsz rfl, hg, hb, lt_of_block hg⟩
  · obtain ⟨a, rfl, hs⟩ := hsrc (by omega)
    have hrun := run_copy_row (P := P) w dT dT ty elem g 0 n n a n c cur.toArray elem cs hu hsz hg (by simp [hcs]) hs (by simp; omega) h1
    have e : (cur.toArray.toList.take 0 ++ cs ++ cur.toArray.toList.drop (0 + cs.length)).toArray = cs.toArray := by simp [hcs, hcur]
    rw [e, hcs] at hrun
    have hrow := setRow_heap w g cur.toArray cs.toArray elem (0, 0) hg
    exact ⟨_, hrun, hrow, below_setRow hb hBg _, lt_of_block hrow⟩

theorem add_none (b o j : Nat) : (⟨b, o, none⟩ : Addr).add j = ⟨b, o + j, none⟩ := by unfold Addr.add; split <;> simp_all
/-- The copy's source, out of a row that lay there before. -/
theorem RowAt.src {B : Nat} {w w' : World} {ao : Option Addr} {n : Nat} {v : Nat → Value} (h : RowAt w ao n v) (hB : w.heap.size ≤ B) (hb : Below B w w') :
    0 < n → ∃ a, ao = some a ∧ ∀ j u, ((List.range n).map v)[j]? = some u → w'.cell? (a.add j) = some u := by
  intro hn
  obtain ⟨b, o, rfl, _, hc⟩ := (h.below hB hb).pos hn
  refine ⟨_, rfl, fun j u hj => ?_⟩
  rw [List.getElem?_map, Option.map_eq_some_iff] at hj
  obtain ⟨a, ha, rfl⟩ := hj
  obtain ⟨hj, rfl⟩ := List.getElem?_eq_some_iff.1 ha
  simp only [List.length_range] at hj
  simp only [List.getElem_range]
  rw [add_none]
  exact hc j hj
theorem one_of (v : Nat → Value) (h : ∀ i, (v i).oneCell' = true) (n : Nat) : ∀ u ∈ (List.range n).map v, u.oneCell' = true := by
  intro u hu
  simp only [List.mem_map] at hu
  obtain ⟨i, _, rfl⟩ := hu
  exact h i
theorem row_cell {w : World} {g n : Nat} {t : TypeId} {v : Nat → Value} (h : w.heap[g]? = some (.cells ((List.range n).map v).toArray t (0, 0))) {i : Nat} (hi : i < n) : w.cell? ⟨g, i, none⟩ = some (v i) := by
  rw [cell_of_row _ _ _ _ _ _ h]
  simp [hi]
/-- A row that has been made, as a row. -/
theorem RowAt.made {w : World} {g n : Nat} {t : TypeId} {v : Nat → Value} (h : w.heap[g]? = some (.cells ((List.range n).map v).toArray t (0, 0))) : RowAt w (some ⟨g, 0, none⟩) n v :=
  .inr ⟨g, 0, rfl, lt_of_block h, fun i hi => by rw [Nat.zero_add]; exact row_cell h hi⟩
end Go.Proofs.Qxb6614810a

/-
  ZZStringTestPrefix.
-/
import Derived.Test.Qxb6615507aB
namespace Go.Proofs.Qxb6615507a
open Go.Shelf Go.RowKit

/-- What a run returns. -/
def RunSaid (P : Bool) (v steps : Int) (e : Ending) : Prop :=
  ∃ (f : Bool) (es : Int), e = .returned (.agg #[.bool P, .bool true, .bool f, .bool f, .int .i64 es, .int .i64 v]) ∧ Hid (f = decide (v < 0) ∧ (f = true → es = steps))
theorem run_said (k bb : Nat) (s t : ByteArray) (left steps : Int) (w : World) (h : Bud w k bb left steps) (hs : s.size + t.size ≤ 1048576) (hl : -9223372036854775808 ≤ left - ((s.size + t.size) / 32 : Nat)) (hu : left ≤ 9223372036854775807) :
    Calls Try.prog 19 #[.pointer (some ⟨k, 0, none⟩), .string s, .string t] w fun e w' => RunSaid (hp s t) (left - ((s.size + t.size) / 32 : Nat)) steps e ∧ Bud w' k bb (left - ((s.size + t.size) / 32 : Nat)) steps ∧ Keep bb w w' :=
  (run_any k bb s t left steps w h hs hl hu).mono fun e w' ⟨he, h1, h2⟩ => ⟨by
    subst he
    unfold runVal
    split
    · rename_i hv; exact ⟨true, steps, rfl, (decide_eq_true hv).symm, fun _ => rfl⟩
    · rename_i hv; exact ⟨false, 0, rfl, (decide_eq_false hv).symm, fun h => by cases h⟩, h1, h2⟩

/-- A struct of six cells, as a block. -/
def Six (w : World) (r : Nat) (u0 u1 u2 u3 u4 u5 : Value) : Prop := w.heap[r]? = some (.cells #[u0, u1, u2, u3, u4, u5] 29 (0, 0))
theorem Six.lt {w : World} {r : Nat} {u0 u1 u2 u3 u4 u5 : Value} (h : Six w r u0 u1 u2 u3 u4 u5) : r < w.heap.size := (Array.getElem?_eq_some_iff.1 h).1
theorem Six.c0 {w : World} {r : Nat} {u0 u1 u2 u3 u4 u5 : Value} (h : Six w r u0 u1 u2 u3 u4 u5) : w.cell? ⟨r, 0, none⟩ = some u0 := by rw [Lib.cell_of_heap h]; rfl
theorem Six.c1 {w : World} {r : Nat} {u0 u1 u2 u3 u4 u5 : Value} (h : Six w r u0 u1 u2 u3 u4 u5) : w.cell? ⟨r, 1, none⟩ = some u1 := by rw [Lib.cell_of_heap h]; rfl
theorem Six.c2 {w : World} {r : Nat} {u0 u1 u2 u3 u4 u5 : Value} (h : Six w r u0 u1 u2 u3 u4 u5) : w.cell? ⟨r, 2, none⟩ = some u2 := by rw [Lib.cell_of_heap h]; rfl
theorem Six.c3 {w : World} {r : Nat} {u0 u1 u2 u3 u4 u5 : Value} (h : Six w r u0 u1 u2 u3 u4 u5) : w.cell? ⟨r, 3, none⟩ = some u3 := by rw [Lib.cell_of_heap h]; rfl
theorem Six.c4 {w : World} {r : Nat} {u0 u1 u2 u3 u4 u5 : Value} (h : Six w r u0 u1 u2 u3 u4 u5) : w.cell? ⟨r, 4, none⟩ = some u4 := by rw [Lib.cell_of_heap h]; rfl
theorem Six.c5 {w : World} {r : Nat} {u0 u1 u2 u3 u4 u5 : Value} (h : Six w r u0 u1 u2 u3 u4 u5) : w.cell? ⟨r, 5, none⟩ = some u5 := by rw [Lib.cell_of_heap h]; rfl
theorem Six.fz {w : World} {r : Nat} {u0 u1 u2 u3 u4 u5 : Value} (h : Six w r u0 u1 u2 u3 u4 u5) (i : Nat) : w.frozen? ⟨r, i, none⟩ = false := by
  have h' : w.heap[r]? = _ := h
  simp [World.frozen?, h']
theorem Six.kept {w w' : World} {r bb : Nat} {u0 u1 u2 u3 u4 u5 : Value} (h : Six w r u0 u1 u2 u3 u4 u5) (hr : r ≠ bb) (hk : Keep bb w w') : Six w' r u0 u1 u2 u3 u4 u5 := (hk.block r h.lt hr).trans h
theorem Six.below {w w' : World} {r B : Nat} {u0 u1 u2 u3 u4 u5 : Value} (h : Six w r u0 u1 u2 u3 u4 u5) (hr : r < B) (hk : Below B w w') : Six w' r u0 u1 u2 u3 u4 u5 := (hk.block r hr).trans h
def put (w : World) (r : Nat) (u0 u1 u2 u3 u4 u5 : Value) : World := (((((w.setCell ⟨r, 0, none⟩ u0).setCell ⟨r, 1, none⟩ u1).setCell ⟨r, 2, none⟩ u2).setCell ⟨r, 3, none⟩ u3).setCell ⟨r, 4, none⟩ u4).setCell ⟨r, 5, none⟩ u5
theorem Six.put {w : World} {r : Nat} {v0 v1 v2 v3 v4 v5 : Value} (u0 u1 u2 u3 u4 u5 : Value) (h : Six w r v0 v1 v2 v3 v4 v5) : Six (put w r u0 u1 u2 u3 u4 u5) r u0 u1 u2 u3 u4 u5 := by
  have s0 := heap_setCell_same w r 0 _ 29 u0 h
  have s1 := heap_setCell_same _ r 1 _ 29 u1 s0
  have s2 := heap_setCell_same _ r 2 _ 29 u2 s1
  have s3 := heap_setCell_same _ r 3 _ 29 u3 s2
  have s4 := heap_setCell_same _ r 4 _ 29 u4 s3
  have s5 := heap_setCell_same _ r 5 _ 29 u5 s4
  exact s5
theorem below_put {B : Nat} {a w : World} {r : Nat} (u0 u1 u2 u3 u4 u5 : Value) (h : Below B a w) (hr : B ≤ r) : Below B a (put w r u0 u1 u2 u3 u4 u5) :=
  (((((h.setCell (p := ⟨r, 0, none⟩) hr u0).setCell (p := ⟨r, 1, none⟩) hr u1).setCell (p := ⟨r, 2, none⟩) hr u2).setCell (p := ⟨r, 3, none⟩) hr u3).setCell (p := ⟨r, 4, none⟩) hr u4).setCell (p := ⟨r, 5, none⟩) hr u5

set_option maxHeartbeats 2000000 in
theorem prefix_any (s t : ByteArray) (left steps : Int) (w : World) (hs : s.size + t.size ≤ 1048576) (hl : -9223372036853727232 ≤ left) (hu : left ≤ 9223372036854775807) :
    Calls Try.prog 12 #[.string s, .string t, .int .i64 left, .int .i64 steps] w fun e w' => RunSaid (hp s t) (left - ((s.size + t.size) / 32 : Nat)) steps e ∧ Below w.heap.size w w' := by
  obtain ⟨w0, e0⟩ : ∃ w0, ((w.alloc (.cells #[.bool false, .bool false, .bool false, .bool false, .int .i64 0, .int .i64 0] 29)).alloc (.cells #[.int .i64 left, .int .i64 steps] 44)).alloc (.cells #[.map none, .pointer (some ⟨w.heap.size + 1, 0, none⟩), .slice none 0 0] 48) = w0 := ⟨_, rfl⟩
  have hb0 : Below w.heap.size w w0 := by rw [← e0]; exact ((((Below.refl _ w).alloc (Nat.le_refl _) _).alloc (by simp) _).alloc (by simp; omega) _)
  have r0 : Six w0 w.heap.size (.bool false) (.bool false) (.bool false) (.bool false) (.int .i64 0) (.int .i64 0) := by
    unfold Six
    rw [← e0, Below.heap_alloc _ _ _ (by simp; omega), Below.heap_alloc _ _ _ (by simp), heap_alloc_new]
  have r1 : w0.heap[w.heap.size + 1]? = some (.cells #[.int .i64 left, .int .i64 steps] 44 (0, 0)) := by
    rw [← e0, Below.heap_alloc _ _ _ (by simp)]
    have := heap_alloc_new (w.alloc (.cells #[.bool false, .bool false, .bool false, .bool false, .int .i64 0, .int .i64 0] 29)) (.cells #[.int .i64 left, .int .i64 steps] 44)
    simpa using this
  have r2 : w0.heap[w.heap.size + 1 + 1]? = some (.cells #[.map none, .pointer (some ⟨w.heap.size + 1, 0, none⟩), .slice none 0 0] 48 (0, 0)) := by
    rw [← e0]
    have := heap_alloc_new ((w.alloc (.cells #[.bool false, .bool false, .bool false, .bool false, .int .i64 0, .int .i64 0] 29)).alloc (.cells #[.int .i64 left, .int .i64 steps] 44)) (.cells #[.map none, .pointer (some ⟨w.heap.size + 1, 0, none⟩), .slice none 0 0] 48)
    simpa using this
  have hB : Bud w0 (w.heap.size + 1 + 1) (w.heap.size + 1) left steps := ⟨by rw [Lib.cell_of_heap r2]; rfl, r1, by omega, (Array.getElem?_eq_some_iff.1 r2).1⟩
  have hc := run_said (w.heap.size + 1 + 1) (w.heap.size + 1) s t left steps w0 hB hs (by omega) hu
  generalize hp s t = P at *
  generalize (s.size + t.size) / 32 = d at *
  generalize left - (d : Int) = v at *
  clear r1 r2 hB
  go_enter Try.func12, Try.ntmps12
  go_wp2_with (go_at_call 19; refine hc.mono ?_; clear hc; rintro e w2 ⟨⟨f, es, rfl, hf⟩, b2, b3⟩; clear e0; have r3 := r0.kept (by omega) b3; have q0 := r3.c0; have q1 := r3.c1; have q2 := r3.c2; have q3 := r3.c3; have q4 := r3.c4; have q5 := r3.c5; have z := r3.fz)
  have s3 := r3.put (.bool P) (.bool true) (.bool f) (.bool f) (.int .i64 es) (.int .i64 v)
  have hb : Below w.heap.size w (put w2 w.heap.size (.bool P) (.bool true) (.bool f) (.bool f) (.int .i64 es) (.int .i64 v)) := hb0.trans (below_put _ _ _ _ _ _ (b3.below (by omega) hb0.size) (Nat.le_refl _))
  clear q0 q1 q2 q3 q4 q5 z r3 r0 b2 b3 hb0
  unfold put at s3 hb
  generalize (((((w2.setCell ⟨w.heap.size, 0, none⟩ (.bool P)).setCell ⟨w.heap.size, 1, none⟩ (.bool true)).setCell ⟨w.heap.size, 2, none⟩ (.bool f)).setCell ⟨w.heap.size, 3, none⟩ (.bool f)).setCell ⟨w.heap.size, 4, none⟩ (.int .i64 es)).setCell ⟨w.heap.size, 5, none⟩ (.int .i64 v) = w3 at s3 hb ⊢
  have q0 := s3.c0
  have q1 := s3.c1
  have q2 := s3.c2
  have q3 := s3.c3
  have q4 := s3.c4
  have q5 := s3.c5
  refine bodyPost_ret (by simp [results, Try.results12, go_sem, q0, q1, q2, q3, q4, q5]; try rfl) rfl ?_
  exact ⟨⟨f, es, rfl, hf⟩, hb⟩

theorem bytes_one (s t : ByteArray) (a b : Int) (hs : s.size ≤ maxLen) (ht : t.size ≤ maxLen) (w : World) : Calls Try.prog 11 #[.string s, .string t, .int .i64 a, .int .i64 b] w fun e w' => (∃ b, e = .returned (.bool b)) ∧ w = w' := by
  unfold maxLen at hs ht
  by_cases h1 : 1048576 < s.size
  · go_enter Try.func11, Try.ntmps11
    go_wp2
    go_ret
    exact ⟨⟨_, rfl⟩, rfl⟩
  by_cases h2 : 1048576 < t.size
  · go_enter Try.func11, Try.ntmps11
    go_wp2
    go_ret
    exact ⟨⟨_, rfl⟩, rfl⟩
  by_cases h3 : 1048576 < s.size + t.size
  · go_enter Try.func11, Try.ntmps11
    go_wp2
    go_ret
    exact ⟨⟨_, rfl⟩, rfl⟩
  · go_enter Try.func11, Try.ntmps11
    go_wp2
    go_ret
    exact ⟨⟨_, rfl⟩, rfl⟩
end Go.Proofs.Qxb6615507a

/-
  ZZStringTestPrefixTwice.
-/
import Derived.Test.Qxb6615507aC
namespace Go.Proofs.Qxb6615507a
open Go.Shelf Go.RowKit

theorem alloc4 {w w0 : World} {o0 o1 o2 o3 : Obj} (e0 : (((w.alloc o0).alloc o1).alloc o2).alloc o3 = w0) :
    w0.heap[w.heap.size]? = some o0 ∧ w0.heap[w.heap.size + 1]? = some o1 ∧ w0.heap[w.heap.size + 1 + 1]? = some o2 ∧ w0.heap[w.heap.size + 1 + 1 + 1]? = some o3 ∧ Below w.heap.size w w0 := by
  refine ⟨?_, ?_, ?_, ?_, ?_⟩
  · rw [← e0, Below.heap_alloc _ _ _ (by simp; omega), Below.heap_alloc _ _ _ (by simp; omega), Below.heap_alloc _ _ _ (by simp), heap_alloc_new]
  · rw [← e0, Below.heap_alloc _ _ _ (by simp), Below.heap_alloc _ _ _ (by simp)]
    have := heap_alloc_new (w.alloc o0) o1
    simpa using this
  · rw [← e0, Below.heap_alloc _ _ _ (by simp)]
    have := heap_alloc_new ((w.alloc o0).alloc o1) o2
    simpa using this
  · rw [← e0]
    have := heap_alloc_new (((w.alloc o0).alloc o1).alloc o2) o3
    simpa using this
  · rw [← e0]
    exact (((((Below.refl _ w).alloc (Nat.le_refl _) _).alloc (by simp) _).alloc (by simp; omega) _).alloc (by simp; omega) _)

theorem Six.putO {w : World} {r r' : Nat} {v0 v1 v2 v3 v4 v5 : Value} (u0 u1 u2 u3 u4 u5 : Value) (h : Six w r v0 v1 v2 v3 v4 v5) (hr : r ≠ r') : Six (Qxb6615507a.put w r' u0 u1 u2 u3 u4 u5) r v0 v1 v2 v3 v4 v5 := by
  unfold Six Qxb6615507a.put
  rw [Below.heap_setCell _ _ _ _ hr, Below.heap_setCell _ _ _ _ hr, Below.heap_setCell _ _ _ _ hr, Below.heap_setCell _ _ _ _ hr, Below.heap_setCell _ _ _ _ hr, Below.heap_setCell _ _ _ _ hr]
  exact h

theorem Six.drew {w : World} {r : Nat} {v0 v1 v2 v3 v4 v5 : Value} (h : Six w r v0 v1 v2 v3 v4 v5) : Six w.drew r v0 v1 v2 v3 v4 v5 := h
theorem below_drew {B : Nat} {a w : World} (h : Below B a w) : Below B a w.drew := h.trans ⟨rfl, rfl, rfl, Nat.le_refl _, fun _ _ => rfl⟩

/-- What two runs return. -/
def TwoSaid (P1 P2 : Bool) (v1 v2 steps : Int) (e : Ending) : Prop :=
  ∃ (f1 f2 : Bool) (es1 es2 : Int), e = .returned (.tuple #[.agg #[.bool P1, .bool true, .bool f1, .bool f1, .int .i64 es1, .int .i64 v1], .agg #[.bool P2, .bool true, .bool f2, .bool f2, .int .i64 es2, .int .i64 v2]]) ∧
    Hid ((f1 = decide (v1 < 0) ∧ (f1 = true → es1 = steps)) ∧ (f2 = decide (v2 < 0) ∧ (f2 = true → es2 = steps)))

set_option maxHeartbeats 4000000 in
theorem twice_any (s1 t1 s2 t2 : ByteArray) (left steps : Int) (w : World) (h1 : s1.size + t1.size ≤ 1048576) (h2 : s2.size + t2.size ≤ 1048576) (hl : -9223372036853727232 ≤ left) (hu : left ≤ 9223372036854775807) :
    Calls Try.prog 16 #[.string s1, .string t1, .string s2, .string t2, .int .i64 left, .int .i64 steps] w fun e w' => TwoSaid (hp s1 t1) (hp s2 t2) (left - ((s1.size + t1.size) / 32 : Nat)) (left - ((s1.size + t1.size) / 32 : Nat) - ((s2.size + t2.size) / 32 : Nat)) steps e ∧ Below w.heap.size w w' := by
  obtain ⟨w0, e0⟩ : ∃ w0, (((w.alloc (.cells #[.bool false, .bool false, .bool false, .bool false, .int .i64 0, .int .i64 0] 29)).alloc (.cells #[.bool false, .bool false, .bool false, .bool false, .int .i64 0, .int .i64 0] 29)).alloc (.cells #[.int .i64 left, .int .i64 steps] 44)).alloc (.cells #[.map none, .pointer (some ⟨w.heap.size + 1 + 1, 0, none⟩), .slice none 0 0] 48) = w0 := ⟨_, rfl⟩
  obtain ⟨r0, r1, r2, r3, hb0⟩ := alloc4 e0
  have x0 : Six w0 w.heap.size (.bool false) (.bool false) (.bool false) (.bool false) (.int .i64 0) (.int .i64 0) := r0
  have x1 : Six w0 (w.heap.size + 1) (.bool false) (.bool false) (.bool false) (.bool false) (.int .i64 0) (.int .i64 0) := r1
  have hB : Bud w0 (w.heap.size + 1 + 1 + 1) (w.heap.size + 1 + 1) left steps := ⟨by rw [Lib.cell_of_heap r3]; rfl, r2, by omega, (Array.getElem?_eq_some_iff.1 r3).1⟩
  have hc := run_said (w.heap.size + 1 + 1 + 1) (w.heap.size + 1 + 1) s1 t1 left steps w0 hB h1 (by omega) hu
  have hd := fun (W : World) (v : Int) => run_said (w.heap.size + 1 + 1 + 1) (w.heap.size + 1 + 1) s2 t2 v steps W
  have g1 : -9223372036854775808 ≤ left - ((s1.size + t1.size) / 32 : Nat) - ((s2.size + t2.size) / 32 : Nat) := by omega
  have g2 : left - ((s1.size + t1.size) / 32 : Nat) ≤ 9223372036854775807 := by omega
  generalize hp s1 t1 = P1 at *
  generalize hp s2 t2 = P2 at *
  generalize (s1.size + t1.size) / 32 = d1 at *
  generalize (s2.size + t2.size) / 32 = d2 at *
  generalize left - (d1 : Int) = v1 at *
  generalize hv2 : v1 - (d2 : Int) = v2 at *
  clear r0 r1 r2 r3 hB
  go_enter Try.func16, Try.ntmps16
  go_upto_region 3 with (go_at_call 19; refine hc.mono ?_; clear hc; rintro e w1 ⟨⟨f1, es1, rfl, hf1⟩, b2, b3⟩)
  have b4 : Below w1.heap.size w1 (w1.alloc (.cells #[.bool P1, .bool true, .bool f1, .bool f1, .int .i64 es1, .int .i64 v1] 29)) := (Below.refl _ w1).alloc (Nat.le_refl _) _
  have y0 : Six (w1.alloc (.cells #[.bool P1, .bool true, .bool f1, .bool f1, .int .i64 es1, .int .i64 v1] 29)) w1.heap.size (.bool P1) (.bool true) (.bool f1) (.bool f1) (.int .i64 es1) (.int .i64 v1) := heap_alloc_new _ _
  have hpl := b2.lt
  generalize w1.alloc (.cells #[.bool P1, .bool true, .bool f1, .bool f1, .int .i64 es1, .int .i64 v1] 29) = wa at b4 y0 ⊢
  have k1 : Keep (w.heap.size + 1 + 1) w0 wa := b3.trans (Keep.of_below b4)
  have hc := hd wa v1 (b2.below b4) h2 (by omega) g2
  rw [hv2] at hc
  clear b2 b3 b4 hd e0 hv2
  generalize w1.heap.size = p at y0 hpl ⊢
  go_upto_region 4 with (go_at_call 19; refine hc.mono ?_; clear hc; rintro e w2 ⟨⟨f2, es2, rfl, hf2⟩, b2, b3⟩)
  have b4 : Below w2.heap.size w2 (w2.alloc (.cells #[.bool P2, .bool true, .bool f2, .bool f2, .int .i64 es2, .int .i64 v2] 29)) := (Below.refl _ w2).alloc (Nat.le_refl _) _
  have y1 : Six (w2.alloc (.cells #[.bool P2, .bool true, .bool f2, .bool f2, .int .i64 es2, .int .i64 v2] 29)) w2.heap.size (.bool P2) (.bool true) (.bool f2) (.bool f2) (.int .i64 es2) (.int .i64 v2) := heap_alloc_new _ _
  generalize w2.alloc (.cells #[.bool P2, .bool true, .bool f2, .bool f2, .int .i64 es2, .int .i64 v2] 29) = wb at b4 y1 ⊢
  have k2 : Keep (w.heap.size + 1 + 1) wa wb := b3.trans (Keep.of_below b4)
  have k3 := k1.trans k2
  have z0 := y0.kept (by omega) k2
  have z2 := x0.kept (by omega) k3
  have z3 := x1.kept (by omega) k3
  have hbw : Below w.heap.size w wb := hb0.trans (k3.below (by omega) hb0.size)
  have hqp : p < w2.heap.size := Nat.lt_of_lt_of_le y0.lt b3.size
  clear b2 b3 b4 k1 k2 k3 y0 x0 x1 hb0
  generalize w2.heap.size = q at y1 hqp ⊢
  have a0 := z0.c0
  have a1 := z0.c1
  have a2 := z0.c2
  have a3 := z0.c3
  have a4 := z0.c4
  have a5 := z0.c5
  have c0 := y1.c0
  have c1 := y1.c1
  have c2 := y1.c2
  have c3 := y1.c3
  have c4 := y1.c4
  have c5 := y1.c5
  have d0 := z2.c0
  have d1 := z2.c1
  have d2 := z2.c2
  have d3 := z2.c3
  have d4 := z2.c4
  have d5 := z2.c5
  have d6 := z2.fz
  have e0 := z3.c0
  have e1 := z3.c1
  have e2 := z3.c2
  have e3 := z3.c3
  have e4 := z3.c4
  have e5 := z3.c5
  have e6 := z3.fz
  go_region
  have m1 := (z2.put (.bool P1) (.bool true) (.bool f1) (.bool f1) (.int .i64 es1) (.int .i64 v1)).putO (r' := w.heap.size + 1) (.bool P2) (.bool true) (.bool f2) (.bool f2) (.int .i64 es2) (.int .i64 v2) (by omega)
  have m2 := (z3.putO (r' := w.heap.size) (.bool P1) (.bool true) (.bool f1) (.bool f1) (.int .i64 es1) (.int .i64 v1) (by omega)).put (.bool P2) (.bool true) (.bool f2) (.bool f2) (.int .i64 es2) (.int .i64 v2)
  have mb := below_put (r := w.heap.size + 1) (.bool P2) (.bool true) (.bool f2) (.bool f2) (.int .i64 es2) (.int .i64 v2) (below_put (r := w.heap.size) (.bool P1) (.bool true) (.bool f1) (.bool f1) (.int .i64 es1) (.int .i64 v1) hbw (Nat.le_refl _)) (by omega)
  replace m1 := m1.drew
  replace m2 := m2.drew
  replace mb := below_drew mb
  unfold put at m1 m2 mb
  clear a0 a1 a2 a3 a4 a5 c0 c1 c2 c3 c4 c5 d0 d1 d2 d3 d4 d5 d6 e0 e1 e2 e3 e4 e5 e6 z0 z2 z3 y1
  generalize ((((((((((((wb.setCell ⟨w.heap.size, 0, none⟩ (.bool P1)).setCell ⟨w.heap.size, 1, none⟩ (.bool true)).setCell ⟨w.heap.size, 2, none⟩ (.bool f1)).setCell ⟨w.heap.size, 3, none⟩ (.bool f1)).setCell ⟨w.heap.size, 4, none⟩ (.int .i64 es1)).setCell ⟨w.heap.size, 5, none⟩ (.int .i64 v1)).setCell ⟨w.heap.size + 1, 0, none⟩ (.bool P2)).setCell ⟨w.heap.size + 1, 1, none⟩ (.bool true)).setCell ⟨w.heap.size + 1, 2, none⟩ (.bool f2)).setCell ⟨w.heap.size + 1, 3, none⟩ (.bool f2)).setCell ⟨w.heap.size + 1, 4, none⟩ (.int .i64 es2)).setCell ⟨w.heap.size + 1, 5, none⟩ (.int .i64 v2)).drew = wz at m1 m2 mb ⊢
  have a0 := m1.c0
  have a1 := m1.c1
  have a2 := m1.c2
  have a3 := m1.c3
  have a4 := m1.c4
  have a5 := m1.c5
  have c0 := m2.c0
  have c1 := m2.c1
  have c2 := m2.c2
  have c3 := m2.c3
  have c4 := m2.c4
  have c5 := m2.c5
  go_wp2
  refine bodyPost_ret (by simp [results, Try.results16, go_sem, a0, a1, a2, a3, a4, a5, c0, c1, c2, c3, c4, c5]; try rfl) rfl ?_
  exact ⟨⟨f1, f2, es1, es2, rfl, hf1.out, hf2.out⟩, mb⟩

theorem bytes_four (s1 t1 s2 t2 : ByteArray) (a b : Int) (h1 : s1.size ≤ maxLen) (h2 : t1.size ≤ maxLen) (h3 : s2.size ≤ maxLen) (h4 : t2.size ≤ maxLen) (w : World) :
    Calls Try.prog 15 #[.string s1, .string t1, .string s2, .string t2, .int .i64 a, .int .i64 b] w fun e w' => (∃ b, e = .returned (.bool b)) ∧ w = w' := by
  unfold maxLen at h1 h2 h3 h4
  by_cases x1 : 1048576 < s1.size
  · go_enter Try.func15, Try.ntmps15
    go_wp2
    go_ret
    exact ⟨⟨_, rfl⟩, rfl⟩
  by_cases x2 : 1048576 < t1.size
  · go_enter Try.func15, Try.ntmps15
    go_wp2
    go_ret
    exact ⟨⟨_, rfl⟩, rfl⟩
  by_cases x3 : 1048576 < s1.size + t1.size
  · go_enter Try.func15, Try.ntmps15
    go_wp2
    go_ret
    exact ⟨⟨_, rfl⟩, rfl⟩
  by_cases x4 : 1048576 < s2.size
  · go_enter Try.func15, Try.ntmps15
    go_wp2
    go_ret
    exact ⟨⟨_, rfl⟩, rfl⟩
  by_cases x5 : 1048576 < s1.size + t1.size + s2.size
  · go_enter Try.func15, Try.ntmps15
    go_wp2
    go_ret
    exact ⟨⟨_, rfl⟩, rfl⟩
  by_cases x6 : 1048576 < t2.size
  · go_enter Try.func15, Try.ntmps15
    go_wp2
    go_ret
    exact ⟨⟨_, rfl⟩, rfl⟩
  by_cases x7 : 1048576 < s1.size + t1.size + s2.size + t2.size
  · go_enter Try.func15, Try.ntmps15
    go_wp2
    go_ret
    exact ⟨⟨_, rfl⟩, rfl⟩
  · go_enter Try.func15, Try.ntmps15
    go_wp2
    go_ret
    exact ⟨⟨_, rfl⟩, rfl⟩
end Go.Proofs.Qxb6615507a

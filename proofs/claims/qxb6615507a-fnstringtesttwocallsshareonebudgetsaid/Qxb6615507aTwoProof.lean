/-
  'Rows.FnStringTestTwoCallsShareOneBudgetSaid'.
-/
import Derived.Test.Qxb6615507aRows
import Derived.Test.Qxb6615507aD
import Derived.WalkKit
import Derived.ProofKit
import Derived.OpenShut
import Derived.ShutString
namespace Go.Proofs.Qxb6615507a.fnStringTestTwoCallsShareOneBudget
open Go.ChangeShapes Go.WideShapes Go.ChangeAt Go.RowKit
open Go.ChangeMaps (open_string shut_string)

theorem own : ownKnob Try.prog.godebug = none := by kernel_rfl

set_option maxHeartbeats 8000000 in
set_option maxRecDepth 100000 in
theorem walk_in (s1 t1 s2 t2 : ByteArray) (left steps : Int) (w0 : s1.size ≤ maxLen) (w1 : t1.size ≤ maxLen) (w2 : s2.size ≤ maxLen) (w3 : t2.size ≤ maxLen) (hs : s1.size + t1.size + s2.size + t2.size ≤ 1048576) (hl : -9223372036853727232 ≤ left) (hu : left ≤ 9223372036854775807) (w : World) :
    Calls Try.prog 6 #[.string s1, .string t1, .string s2, .string t2, .int .i64 left, .int .i64 steps] w fun e w' => e = .returned (.bool true) ∧ Below w.heap.size w w' := by
  have hc1 := bytes_four s1 t1 s2 t2 left steps w0 w1 w2 w3 w
  have hc2 := twice_any s1 t1 s2 t2 left steps w (by omega) (by omega) hl hu
  have hc3 := fun w => prefix_any s1 t1 left steps w (by omega) hl hu
  have hc4 := fun w => prefix_any s2 t2 left steps w (by omega) hl hu
  have hc5 := fun w => zhp_any s1 t1 w (by omega)
  have hc6 := fun w => zhp_any s2 t2 w (by omega)
  have hc7 := fun w => floor_any (s1.size + t1.size) w (by omega)
  have hc8 := fun w => floor_any (s2.size + t2.size) w (by omega)
  have h1 : s1.size ≤ 1048576 := by omega
  have h2 : t1.size ≤ 1048576 := by omega
  have h3 : s2.size ≤ 1048576 := by omega
  have h4 : t2.size ≤ 1048576 := by omega
  have g1 : (s1.size + t1.size) / 32 ≤ 1048576 := by omega
  have g2 : (s2.size + t2.size) / 32 ≤ 1048576 := by omega
  have g3 : (s1.size + t1.size) / 32 + (s2.size + t2.size) / 32 ≤ 1048576 := by omega
  obtain ⟨N1, hN1⟩ : ∃ N1, s1.size + t1.size = N1 := ⟨_, rfl⟩
  obtain ⟨N2, hN2⟩ : ∃ N2, s2.size + t2.size = N2 := ⟨_, rfl⟩
  obtain ⟨M, hM⟩ : ∃ M, N1 + s2.size = M := ⟨_, rfl⟩
  obtain ⟨N, hN⟩ : ∃ N, M + t2.size = N := ⟨_, rfl⟩
  have e1 : IntKind.i64.wrap ((s1.size : Int) + (t1.size : Int)) = (N1 : Int) := by rw [IntKind.wrap_i64]; omega
  have e2 : IntKind.i64.wrap ((s2.size : Int) + (t2.size : Int)) = (N2 : Int) := by rw [IntKind.wrap_i64]; omega
  have e3 : IntKind.i64.wrap ((N1 : Int) + (s2.size : Int)) = (M : Int) := by rw [IntKind.wrap_i64]; omega
  have e4 : IntKind.i64.wrap ((M : Int) + (t2.size : Int)) = (N : Int) := by rw [IntKind.wrap_i64]; omega
  have g4 : N ≤ 1048576 := by omega
  simp only [hN1, hN2] at hc2 hc3 hc4 hc7 hc8 g1 g2 g3
  clear hN1 hN2 hM hN hs w0 w1 w2 w3
  generalize hp s1 t1 = P1 at *
  generalize hp s2 t2 = P2 at *
  generalize N1 / 32 = d1 at *
  generalize N2 / 32 = d2 at *
  obtain ⟨v1, hv1⟩ : ∃ v, left - (d1 : Int) = v := ⟨_, rfl⟩
  obtain ⟨u2, hu2⟩ : ∃ v, left - (d2 : Int) = v := ⟨_, rfl⟩
  rw [hv1] at hc2
  simp only [hv1] at hc3
  simp only [hu2] at hc4
  obtain ⟨v2, hv2⟩ : ∃ v, v1 - (d2 : Int) = v := ⟨_, rfl⟩
  rw [hv2] at hc2
  obtain ⟨D, hD⟩ : ∃ D, d1 + d2 = D := ⟨_, rfl⟩
  have e5 : IntKind.i64.wrap (left - v1) = (d1 : Int) := by rw [IntKind.wrap_i64]; omega
  have e6 : IntKind.i64.wrap (left - u2) = (d2 : Int) := by rw [IntKind.wrap_i64]; omega
  have e7 : IntKind.i64.wrap (left - (d1 : Int)) = v1 := by rw [IntKind.wrap_i64]; omega
  have e8 : IntKind.i64.wrap (v1 - (d2 : Int)) = v2 := by rw [IntKind.wrap_i64]; omega
  have e9 : IntKind.i64.wrap ((d1 : Int) + (d2 : Int)) = (D : Int) := by rw [IntKind.wrap_i64]; omega
  have H1 : decide (v1 < 0) = decide (left < (d1 : Int)) := by rw [decide_eq_decide]; omega
  have H2 : decide (v2 < 0) = decide (left < (D : Int)) := by rw [decide_eq_decide]; omega
  have H3 : left < (d1 : Int) → left < (D : Int) := by omega
  have a1 : (P1 != P1) = false := by cases P1 <;> rfl
  have a2 : (P2 != P2) = false := by cases P2 <;> rfl
  have a3 : (v1 != v1) = false := by simp
  have a4 : (v2 != v2) = false := by simp
  clear hv1 hu2 hv2 hD g3
  go_enter Try.func6, Try.ntmps6
  go_upto_region 9 with (go_at_call 15; refine hc1.mono ?_; clear hc1; rintro e w' ⟨⟨b, rfl⟩, rfl⟩)
  · go_wp2
    go_ret
    exact ⟨rfl, Below.refl _ _⟩
  go_upto_region 10 with (go_at_call 16; refine hc2.mono ?_; clear hc2; rintro e w1 ⟨⟨f1, f2, es1, es2, rfl, hf⟩, hb⟩)
  have x1 : Six ((w1.alloc (.cells #[.bool P1, .bool true, .bool f1, .bool f1, .int .i64 es1, .int .i64 v1] 29)).alloc (.cells #[.bool P2, .bool true, .bool f2, .bool f2, .int .i64 es2, .int .i64 v2] 29)) w1.heap.size (.bool P1) (.bool true) (.bool f1) (.bool f1) (.int .i64 es1) (.int .i64 v1) := by
    unfold Six
    rw [Below.heap_alloc _ _ _ (by simp), heap_alloc_new]
  have x2 : Six ((w1.alloc (.cells #[.bool P1, .bool true, .bool f1, .bool f1, .int .i64 es1, .int .i64 v1] 29)).alloc (.cells #[.bool P2, .bool true, .bool f2, .bool f2, .int .i64 es2, .int .i64 v2] 29)) (w1.heap.size + 1) (.bool P2) (.bool true) (.bool f2) (.bool f2) (.int .i64 es2) (.int .i64 v2) := by
    have := heap_alloc_new (w1.alloc (.cells #[.bool P1, .bool true, .bool f1, .bool f1, .int .i64 es1, .int .i64 v1] 29)) (.cells #[.bool P2, .bool true, .bool f2, .bool f2, .int .i64 es2, .int .i64 v2] 29)
    unfold Six
    simpa using this
  have hb2 : Below w.heap.size w ((w1.alloc (.cells #[.bool P1, .bool true, .bool f1, .bool f1, .int .i64 es1, .int .i64 v1] 29)).alloc (.cells #[.bool P2, .bool true, .bool f2, .bool f2, .int .i64 es2, .int .i64 v2] 29)) := (hb.alloc hb.size _).alloc (by have := hb.size; simp; omega) _
  generalize (w1.alloc (.cells #[.bool P1, .bool true, .bool f1, .bool f1, .int .i64 es1, .int .i64 v1] 29)).alloc (.cells #[.bool P2, .bool true, .bool f2, .bool f2, .int .i64 es2, .int .i64 v2] 29) = wa at x1 x2 hb2 ⊢
  generalize w1.heap.size = r at x1 x2 ⊢
  have hc3 := hc3 wa
  clear hb
  go_upto_region 11 with (go_at_call 12; refine hc3.mono ?_; clear hc3; rintro e w2 ⟨⟨f3, es3, rfl, hf3⟩, hb⟩)
  have b2 : Below w2.heap.size w2 (w2.alloc (.cells #[.bool P1, .bool true, .bool f3, .bool f3, .int .i64 es3, .int .i64 v1] 29)) := (Below.refl _ _).alloc (Nat.le_refl _) _
  have x3 : Six (w2.alloc (.cells #[.bool P1, .bool true, .bool f3, .bool f3, .int .i64 es3, .int .i64 v1] 29)) w2.heap.size (.bool P1) (.bool true) (.bool f3) (.bool f3) (.int .i64 es3) (.int .i64 v1) := heap_alloc_new _ _
  generalize w2.alloc (.cells #[.bool P1, .bool true, .bool f3, .bool f3, .int .i64 es3, .int .i64 v1] 29) = wb at b2 x3 ⊢
  have k1 : Below wa.heap.size wa wb := hb.trans (b2.mono hb.size)
  have y1 := x1.below x1.lt k1
  have y2 := x2.below x2.lt k1
  have hb3 : Below w.heap.size w wb := hb2.trans (k1.mono hb2.size)
  clear hb b2 k1 x1 x2 hb2
  generalize w2.heap.size = r3 at x3 ⊢
  have hc4 := hc4 wb
  go_upto_region 12 with (go_at_call 12; refine hc4.mono ?_; clear hc4; rintro e w4 ⟨⟨f4, es4, rfl, hf4⟩, hb⟩)
  have b2 : Below w4.heap.size w4 (w4.alloc (.cells #[.bool P2, .bool true, .bool f4, .bool f4, .int .i64 es4, .int .i64 u2] 29)) := (Below.refl _ _).alloc (Nat.le_refl _) _
  have x4 : Six (w4.alloc (.cells #[.bool P2, .bool true, .bool f4, .bool f4, .int .i64 es4, .int .i64 u2] 29)) w4.heap.size (.bool P2) (.bool true) (.bool f4) (.bool f4) (.int .i64 es4) (.int .i64 u2) := heap_alloc_new _ _
  generalize w4.alloc (.cells #[.bool P2, .bool true, .bool f4, .bool f4, .int .i64 es4, .int .i64 u2] 29) = wc at b2 x4 ⊢
  have k1 : Below wb.heap.size wb wc := hb.trans (b2.mono hb.size)
  have z1 := y1.below y1.lt k1
  have z2 := y2.below y2.lt k1
  have z3 := (x3.below x3.lt k1).c5
  have z4 := x4.c5
  have hb4 : Below w.heap.size w wc := hb3.trans (k1.mono hb3.size)
  clear hb b2 k1 y1 y2 hb3 x3 x4
  generalize w4.heap.size = r4 at z4 ⊢
  have p1 := z1.c0
  have p2 := z1.c1
  have p3 := z1.c2
  have p4 := z1.c3
  have p5 := z1.c4
  have p6 := z1.c5
  have q1 := z2.c0
  have q2 := z2.c1
  have q3 := z2.c2
  have q4 := z2.c3
  have q5 := z2.c4
  have q6 := z2.c5
  clear z1 z2
  go_upto_region 14 with fail
  have hc7 := hc7 wc
  have hc8 := hc8 wc
  go_upto_region 16 with (first | (go_at_call 14; refine hc7.mono ?_; clear hc7; rintro e w' ⟨rfl, rfl⟩) | (go_at_call 14; refine hc8.mono ?_; clear hc8; rintro e wd ⟨rfl, rfl⟩))
  obtain ⟨⟨i1, i2⟩, i3, i4⟩ := hf.out
  clear hf hf3 hf4 z3 z4 e1 e2 e3 e4 e5 e6
  by_cases c1 : left < (d1 : Int)
  · have c2 := H3 c1
    have m1 : decide (left < (d1 : Int)) = true := decide_eq_true c1
    have m2 : decide (left < (D : Int)) = true := decide_eq_true c2
    rw [H1, m1] at i1
    rw [H2, m2] at i3
    subst i1 i3
    have j1 := i2 rfl
    subst j1
    have j2 := i4 rfl
    subst j2
    clear i2 i4 H1 H2 H3
    go_wp2_with fail
    go_quiet ((go_at_call 13; exact Calls.quiet_of (hc5 _)))
    go_wp2_with fail
    have k3 : (wd.drewN nq).cell? ⟨r, 2, none⟩ = some (.bool true) := p3
    have k4 : (wd.drewN nq).cell? ⟨r, 3, none⟩ = some (.bool true) := p4
    have k5 : (wd.drewN nq).cell? ⟨r, 4, none⟩ = _ := p5
    have l1 : (wd.drewN nq).cell? ⟨r + 1, 0, none⟩ = some (.bool P2) := q1
    have l2 : (wd.drewN nq).cell? ⟨r + 1, 1, none⟩ = some (.bool true) := q2
    have l3 : (wd.drewN nq).cell? ⟨r + 1, 2, none⟩ = some (.bool true) := q3
    have l4 : (wd.drewN nq).cell? ⟨r + 1, 3, none⟩ = some (.bool true) := q4
    have l5 : (wd.drewN nq).cell? ⟨r + 1, 4, none⟩ = _ := q5
    have hb5 : Below w.heap.size w (wd.drewN nq) := below_drewN hb4 nq
    clear p1 p2 p3 p4 p5 p6 q1 q2 q3 q4 q5 q6 hb4
    generalize wd.drewN nq = we at k3 k4 k5 l1 l2 l3 l4 l5 hb5 ⊢
    go_quiet ((go_at_call 13; exact Calls.quiet_of (hc6 _)))
    go_wp2_with fail
    go_ret
    exact ⟨rfl, below_drewN hb5 _⟩
  · have m1 : decide (left < (d1 : Int)) = false := decide_eq_false c1
    rw [H1, m1] at i1
    by_cases c2 : left < (D : Int)
    · have m2 : decide (left < (D : Int)) = true := decide_eq_true c2
      rw [H2, m2] at i3
      subst i1 i3
      have j2 := i4 rfl
      subst j2
      clear i2 i4 H1 H2 H3
      go_wp2_with fail
      go_quiet ((go_at_call 13; exact Calls.quiet_of (hc5 _)))
      go_wp2_with fail
      have k3 : (wd.drewN nq).cell? ⟨r, 2, none⟩ = some (.bool false) := p3
      have k4 : (wd.drewN nq).cell? ⟨r, 3, none⟩ = some (.bool false) := p4
      have k5 : (wd.drewN nq).cell? ⟨r, 4, none⟩ = _ := p5
      have l1 : (wd.drewN nq).cell? ⟨r + 1, 0, none⟩ = some (.bool P2) := q1
      have l2 : (wd.drewN nq).cell? ⟨r + 1, 1, none⟩ = some (.bool true) := q2
      have l3 : (wd.drewN nq).cell? ⟨r + 1, 2, none⟩ = some (.bool true) := q3
      have l4 : (wd.drewN nq).cell? ⟨r + 1, 3, none⟩ = some (.bool true) := q4
      have l5 : (wd.drewN nq).cell? ⟨r + 1, 4, none⟩ = _ := q5
      have hb5 : Below w.heap.size w (wd.drewN nq) := below_drewN hb4 nq
      clear p1 p2 p3 p4 p5 p6 q1 q2 q3 q4 q5 q6 hb4
      generalize wd.drewN nq = we at k3 k4 k5 l1 l2 l3 l4 l5 hb5 ⊢
      go_quiet ((go_at_call 13; exact Calls.quiet_of (hc6 _)))
      go_wp2_with fail
      go_ret
      exact ⟨rfl, below_drewN hb5 _⟩
    · have m2 : decide (left < (D : Int)) = false := decide_eq_false c2
      rw [H2, m2] at i3
      subst i1 i3
      clear i2 i4 H1 H2 H3
      go_wp2_with fail
      go_quiet ((go_at_call 13; exact Calls.quiet_of (hc5 _)))
      go_wp2_with fail
      have k3 : (wd.drewN nq).cell? ⟨r, 2, none⟩ = some (.bool false) := p3
      have k4 : (wd.drewN nq).cell? ⟨r, 3, none⟩ = some (.bool false) := p4
      have k5 : (wd.drewN nq).cell? ⟨r, 4, none⟩ = _ := p5
      have l1 : (wd.drewN nq).cell? ⟨r + 1, 0, none⟩ = some (.bool P2) := q1
      have l2 : (wd.drewN nq).cell? ⟨r + 1, 1, none⟩ = some (.bool true) := q2
      have l3 : (wd.drewN nq).cell? ⟨r + 1, 2, none⟩ = some (.bool false) := q3
      have l4 : (wd.drewN nq).cell? ⟨r + 1, 3, none⟩ = some (.bool false) := q4
      have l5 : (wd.drewN nq).cell? ⟨r + 1, 4, none⟩ = _ := q5
      have hb5 : Below w.heap.size w (wd.drewN nq) := below_drewN hb4 nq
      clear p1 p2 p3 p4 p5 p6 q1 q2 q3 q4 q5 q6 hb4
      generalize wd.drewN nq = we at k3 k4 k5 l1 l2 l3 l4 l5 hb5 ⊢
      go_quiet ((go_at_call 13; exact Calls.quiet_of (hc6 _)))
      go_wp2_with fail
      go_ret
      exact ⟨rfl, below_drewN hb5 _⟩
set_option maxHeartbeats 4000000 in
set_option maxRecDepth 100000 in
theorem walk (a0 a1 a2 a3 : ByteArray) (a4 a5 : Int) (w0 : a0.size ≤ maxLen) (w1 : a1.size ≤ maxLen) (w2 : a2.size ≤ maxLen) (w3 : a3.size ≤ maxLen) (w4 : (Lit.int .i64 a4).wf = true) (w : World) :
    Calls Try.prog 6 #[.string a0, .string a1, .string a2, .string a3, .int .i64 a4, .int .i64 a5] w fun e w' => e = .returned (.bool true) ∧ Below w.heap.size w w' := by
  have hc := bytes_four a0 a1 a2 a3 a4 a5 w0 w1 w2 w3 w
  by_cases h0 : 1048576 < a0.size
  · unfold maxLen at w0 w1 w2 w3
    go_enter Try.func6, Try.ntmps6
    go_wp2_with (go_at_call 15; refine hc.mono ?_; clear hc; rintro e w' ⟨⟨b, rfl⟩, rfl⟩)
    all_goals
      go_ret
      exact ⟨rfl, Below.refl _ _⟩
  by_cases h1 : 1048576 < a1.size
  · unfold maxLen at w0 w1 w2 w3
    go_enter Try.func6, Try.ntmps6
    go_wp2_with (go_at_call 15; refine hc.mono ?_; clear hc; rintro e w' ⟨⟨b, rfl⟩, rfl⟩)
    all_goals
      go_ret
      exact ⟨rfl, Below.refl _ _⟩
  by_cases h2 : 1048576 < a2.size
  · unfold maxLen at w0 w1 w2 w3
    go_enter Try.func6, Try.ntmps6
    go_wp2_with (go_at_call 15; refine hc.mono ?_; clear hc; rintro e w' ⟨⟨b, rfl⟩, rfl⟩)
    all_goals
      go_ret
      exact ⟨rfl, Below.refl _ _⟩
  by_cases h3 : 1048576 < a3.size
  · unfold maxLen at w0 w1 w2 w3
    go_enter Try.func6, Try.ntmps6
    go_wp2_with (go_at_call 15; refine hc.mono ?_; clear hc; rintro e w' ⟨⟨b, rfl⟩, rfl⟩)
    all_goals
      go_ret
      exact ⟨rfl, Below.refl _ _⟩
  by_cases h4 : 1048576 < a0.size + a1.size + a2.size + a3.size
  · unfold maxLen at w0 w1 w2 w3
    go_enter Try.func6, Try.ntmps6
    go_wp2_with (go_at_call 15; refine hc.mono ?_; clear hc; rintro e w' ⟨⟨b, rfl⟩, rfl⟩)
    all_goals
      go_ret
      exact ⟨rfl, Below.refl _ _⟩
  by_cases h5 : a4 < -9223372036853727232
  · unfold maxLen at w0 w1 w2 w3
    go_enter Try.func6, Try.ntmps6
    go_wp2_with (go_at_call 15; refine hc.mono ?_; clear hc; rintro e w' ⟨⟨b, rfl⟩, rfl⟩)
    all_goals
      go_ret
      exact ⟨rfl, Below.refl _ _⟩
  exact walk_in a0 a1 a2 a3 a4 a5 w0 w1 w2 w3 (by omega) (by omega) (bounds_i64 w4).2 w

set_option maxRecDepth 100000 in
theorem lifted (os : Os) (started : os.Started) (H : Type) (enc : TypeId × Value → H) :
    ReturnsInHanded {} Try.checked os 6 .any (Rows.fnStringTestTwoCallsShareOneBudgetSpec.pre6 enc Try.prog Try.f6 Rows.fnStringTestTwoCallsShareOneBudgetRow.domain false) (Rows.fnStringTestTwoCallsShareOneBudgetSpec.post enc Try.prog Try.f6 false true false false) := by
  refine returnsInHanded_of_change (C := Try.checked) own started (by kernel_rfl) Try.func6
    (ChangeSpec.witness6 (enc := enc) (C := Try.checked) false ⟨#[], #[.string ByteArray.empty, .string ByteArray.empty, .string ByteArray.empty, .string ByteArray.empty, .int .i64 0, .int .i64 0], []⟩ 8 (by kernel_rfl) (by kernel_rfl) (by kernel_rfl) (by kernel_rfl)) ?_
  intro W base args ds gs before hval0 hW hcnd _
  have hval : ∀ (j : Nat) t v, Try.f6.params[j]? = some t → args[j]? = some v → Value.okWide Try.prog W .any base t v := hval0
  have hW' := hW
  obtain ⟨p, q, hA0, hV, rfl, hfz, hnd⟩ := hW
  have hA : DataW.TrodAll enc Try.prog W 0 (fun _ => true) true Try.f6.params.toList args.toList ds p := hA0
  rw [Try.params6] at hA hval
  obtain ⟨v0, vs0, d0, ds0, p0, q0, hargs, rfl, rfl, h0, r0⟩ := trodAll_cons hA
  obtain ⟨v1, vs1, d1, ds1, p1, q1, rfl, rfl, rfl, h1, r1⟩ := trodAll_cons r0
  obtain ⟨v2, vs2, d2, ds2, p2, q2, rfl, rfl, rfl, h2, r2⟩ := trodAll_cons r1
  obtain ⟨v3, vs3, d3, ds3, p3, q3, rfl, rfl, rfl, h3, r3⟩ := trodAll_cons r2
  obtain ⟨v4, vs4, d4, ds4, p4, q4, rfl, rfl, rfl, h4, r4⟩ := trodAll_cons r3
  obtain ⟨v5, vs5, d5, ds5, p5, q5, rfl, rfl, rfl, h5, r5⟩ := trodAll_cons r4
  obtain ⟨rfl, rfl, rfl⟩ := trodAll_nil r5
  obtain rfl : args = #[v0, v1, v2, v3, v4, v5] := by cases args; simp_all
  obtain ⟨rfl, rfl⟩ := trodVars_none hV
  obtain ⟨a0, rfl, rfl, rfl, w0⟩ := open_string Try.underlying9 (hval 0 9 v0 rfl rfl) h0
  obtain ⟨a1, rfl, rfl, rfl, w1⟩ := open_string Try.underlying9 (hval 1 9 v1 rfl rfl) h1
  obtain ⟨a2, rfl, rfl, rfl, w2⟩ := open_string Try.underlying9 (hval 2 9 v2 rfl rfl) h2
  obtain ⟨a3, rfl, rfl, rfl, w3⟩ := open_string Try.underlying9 (hval 3 9 v3 rfl rfl) h3
  obtain ⟨a4, rfl, rfl, rfl, w4⟩ := open_int Try.underlying2 (hval 4 2 v4 rfl rfl) h4
  obtain ⟨a5, rfl, rfl, rfl, w5⟩ := open_int Try.underlying2 (hval 5 2 v5 rfl rfl) h5
  clear hA0 hval0
  refine (walk a0 a1 a2 a3 a4 a5 w0 w1 w2 w3 w4 W).mono fun e W' ⟨he, bel⟩ => ?_
  subst he
  exact ⟨_, rfl, _, _, _, [], _, [], hW', trodAll_mk1 (shut_bool Try.underlying4 _), (trodAll_cons_mk (shut_string Try.underlying9 w0) (trodAll_cons_mk (shut_string Try.underlying9 w1) (trodAll_cons_mk (shut_string Try.underlying9 w2) (trodAll_cons_mk (shut_string Try.underlying9 w3) (trodAll_cons_mk (shut_int Try.underlying2 w4) (trodAll_cons_mk (shut_int Try.underlying2 w5) trodAll_mk0)))))), rfl, bel.frame _, fun h => by cases h⟩

theorem over : Rows.fnStringTestTwoCallsShareOneBudgetRow.holds Try.pinned (OpenSpec.ofChange Rows.fnStringTestTwoCallsShareOneBudgetSpec) :=
  OpenClaim.holds_of_wide 6 Try.f6 rfl rfl rfl rfl rfl rfl rfl ⟨rfl, rfl, rfl, rfl, rfl⟩ rfl rfl rfl rfl rfl (by kernel_rfl) Try.func6 (by kernel_rfl)
    (of_decide_eq_true (by kernel_rfl)) (by unfold Func.isWrapper; first | (rw [if_pos (by decide +kernel)]; kernel_rfl) | (rw [if_neg (by decide +kernel)]; exact ⟨rfl, rfl⟩))
    (fun os started H enc _ => lifted os started H enc)

/-- THE STATEMENT -/
theorem proved : Rows.FnStringTestTwoCallsShareOneBudgetSaid :=
  over
end Go.Proofs.Qxb6615507a.fnStringTestTwoCallsShareOneBudget

/-
  'Rows.FnStringTestPrefixChargesFloorSaid'.
-/
import Derived.Test.Qxb6615507aRows
import Derived.Test.Qxb6615507aC
import Derived.WalkKit
import Derived.ProofKit
import Derived.OpenShut
import Derived.ShutString
namespace Go.Proofs.Qxb6615507a.fnStringTestPrefixChargesFloor
open Go.ChangeShapes Go.WideShapes Go.ChangeAt Go.RowKit
open Go.ChangeMaps (open_string shut_string)

theorem own : ownKnob Try.prog.godebug = none := by kernel_rfl

set_option maxHeartbeats 4000000 in
set_option maxRecDepth 100000 in
theorem walk_in (s t : ByteArray) (left steps : Int) (w0 : s.size ≤ maxLen) (w1 : t.size ≤ maxLen) (hs : s.size + t.size ≤ 1048576) (hl : -9223372036853727232 ≤ left) (hu : left ≤ 9223372036854775807) (w : World) :
    Calls Try.prog 5 #[.string s, .string t, .int .i64 left, .int .i64 steps] w fun e w' => e = .returned (.bool true) ∧ Below w.heap.size w w' := by
  have hc1 := bytes_one s t left steps w0 w1 w
  have hc2 := prefix_any s t left steps w hs hl hu
  have hc3 := fun w => zhp_any s t w (by omega)
  have hc4 := fun w => floor_any (s.size + t.size) w hs
  have h1 : s.size ≤ 1048576 := by omega
  have h2 : t.size ≤ 1048576 := by omega
  have e1 : IntKind.i64.wrap ((s.size : Int) + (t.size : Int)) = ((s.size + t.size : Nat) : Int) := by rw [IntKind.wrap_i64]; omega
  have hd : (s.size + t.size) / 32 ≤ 1048576 := by omega
  generalize hp s t = P at *
  generalize s.size + t.size = N at *
  generalize N / 32 = d at *
  obtain ⟨v, hv⟩ : ∃ v, left - (d : Int) = v := ⟨_, rfl⟩
  have e2 : IntKind.i64.wrap (left - v) = (d : Int) := by rw [IntKind.wrap_i64]; omega
  have hvd : v < 0 ↔ left < (d : Int) := by omega
  have e3 : decide (v < 0) = decide (left < (d : Int)) := by simp only [hvd]
  have e4 : (P != P) = false := by cases P <;> rfl
  rw [hv] at hc2
  clear w0 w1 hv
  go_enter Try.func5, Try.ntmps5
  go_upto_region 9 with (go_at_call 11; refine hc1.mono ?_; clear hc1; rintro e w' ⟨⟨b, rfl⟩, rfl⟩)
  · go_wp2
    go_ret
    exact ⟨rfl, Below.refl _ _⟩
  go_upto_region 11 with (go_at_call 12; refine hc2.mono ?_; clear hc2; rintro e w1 ⟨⟨f, es, rfl, hf⟩, hb⟩)
  have s2 : Six (w1.alloc (.cells #[.bool P, .bool true, .bool f, .bool f, .int .i64 es, .int .i64 v] 29)) w1.heap.size (.bool P) (.bool true) (.bool f) (.bool f) (.int .i64 es) (.int .i64 v) := heap_alloc_new _ _
  have hb2 : Below w.heap.size w (w1.alloc (.cells #[.bool P, .bool true, .bool f, .bool f, .int .i64 es, .int .i64 v] 29)) := hb.alloc hb.size _
  generalize w1.alloc (.cells #[.bool P, .bool true, .bool f, .bool f, .int .i64 es, .int .i64 v] 29) = w2 at s2 hb2 ⊢
  generalize w1.heap.size = r at s2 ⊢
  have q0 := s2.c0
  have q1 := s2.c1
  have q2 := s2.c2
  have q3 := s2.c3
  have q4 := s2.c4
  clear hb s2 e2
  go_quiet ((go_at_call 13; exact Calls.quiet_of (hc3 _)))
  by_cases hlt : left < (d : Int)
  · obtain ⟨hf1, hf2⟩ := hf.out
    have hd1 : decide (left < (d : Int)) = true := decide_eq_true hlt
    rw [e3, hd1] at hf1
    subst hf1
    have hes := hf2 rfl
    subst hes
    clear hf hf2 e3 hvd
    go_wp2_with (go_at_call 14; refine (hc4 _).mono ?_; rintro e w' ⟨rfl, rfl⟩)
    go_ret
    exact ⟨rfl, hb2.trans ⟨rfl, rfl, rfl, Nat.le_refl _, fun _ _ => rfl⟩⟩
  · obtain ⟨hf1, hf2⟩ := hf.out
    have hd1 : decide (left < (d : Int)) = false := decide_eq_false hlt
    rw [e3, hd1] at hf1
    subst hf1
    clear hf hf2 e3 hvd
    go_wp2_with (go_at_call 14; refine (hc4 _).mono ?_; rintro e w' ⟨rfl, rfl⟩)
    go_ret
    exact ⟨rfl, hb2.trans ⟨rfl, rfl, rfl, Nat.le_refl _, fun _ _ => rfl⟩⟩

theorem walk (a0 : ByteArray) (a1 : ByteArray) (a2 : Int) (a3 : Int) (w0 : a0.size ≤ maxLen) (w1 : a1.size ≤ maxLen) (w2 : (Lit.int .i64 a2).wf = true) (w : World) :
    Calls Try.prog 5 #[.string a0, .string a1, .int .i64 a2, .int .i64 a3] w fun e w' => e = .returned (.bool true) ∧ Below w.heap.size w w' := by
  have hc := bytes_one a0 a1 a2 a3 w0 w1 w
  by_cases h1 : 1048576 < a0.size
  · unfold maxLen at w0 w1
    go_enter Try.func5, Try.ntmps5
    go_wp2_with (go_at_call 11; refine hc.mono ?_; clear hc; rintro e w' ⟨⟨b, rfl⟩, rfl⟩)
    all_goals
      go_ret
      exact ⟨rfl, Below.refl _ _⟩
  by_cases h2 : 1048576 < a1.size
  · unfold maxLen at w0 w1
    go_enter Try.func5, Try.ntmps5
    go_wp2_with (go_at_call 11; refine hc.mono ?_; clear hc; rintro e w' ⟨⟨b, rfl⟩, rfl⟩)
    all_goals
      go_ret
      exact ⟨rfl, Below.refl _ _⟩
  by_cases h3 : 1048576 < a0.size + a1.size
  · unfold maxLen at w0 w1
    go_enter Try.func5, Try.ntmps5
    go_wp2_with (go_at_call 11; refine hc.mono ?_; clear hc; rintro e w' ⟨⟨b, rfl⟩, rfl⟩)
    all_goals
      go_ret
      exact ⟨rfl, Below.refl _ _⟩
  by_cases h4 : a2 < -9223372036853727232
  · unfold maxLen at w0 w1
    go_enter Try.func5, Try.ntmps5
    go_wp2_with (go_at_call 11; refine hc.mono ?_; clear hc; rintro e w' ⟨⟨b, rfl⟩, rfl⟩)
    all_goals
      go_ret
      exact ⟨rfl, Below.refl _ _⟩
  exact walk_in a0 a1 a2 a3 w0 w1 (by omega) (by omega) (bounds_i64 w2).2 w

set_option maxRecDepth 100000 in
theorem lifted (os : Os) (started : os.Started) (H : Type) (enc : TypeId × Value → H) :
    ReturnsInHanded {} Try.checked os 5 .any (Rows.fnStringTestPrefixChargesFloorSpec.pre6 enc Try.prog Try.f5 Rows.fnStringTestPrefixChargesFloorRow.domain false) (Rows.fnStringTestPrefixChargesFloorSpec.post enc Try.prog Try.f5 false true false false) := by
  refine returnsInHanded_of_change (C := Try.checked) own started (by kernel_rfl) Try.func5
    (ChangeSpec.witness6 (enc := enc) (C := Try.checked) false ⟨#[], #[.string ByteArray.empty, .string ByteArray.empty, .int .i64 0, .int .i64 0], []⟩ 8 (by kernel_rfl) (by kernel_rfl) (by kernel_rfl) (by kernel_rfl)) ?_
  intro W base args ds gs before hval0 hW hcnd _
  have hval : ∀ (j : Nat) t v, Try.f5.params[j]? = some t → args[j]? = some v → Value.okWide Try.prog W .any base t v := hval0
  have hW' := hW
  obtain ⟨p, q, hA0, hV, rfl, hfz, hnd⟩ := hW
  have hA : DataW.TrodAll enc Try.prog W 0 (fun _ => true) true Try.f5.params.toList args.toList ds p := hA0
  rw [Try.params5] at hA hval
  obtain ⟨v0, vs0, d0, ds0, p0, q0, hargs, rfl, rfl, h0, r0⟩ := trodAll_cons hA
  obtain ⟨v1, vs1, d1, ds1, p1, q1, rfl, rfl, rfl, h1, r1⟩ := trodAll_cons r0
  obtain ⟨v2, vs2, d2, ds2, p2, q2, rfl, rfl, rfl, h2, r2⟩ := trodAll_cons r1
  obtain ⟨v3, vs3, d3, ds3, p3, q3, rfl, rfl, rfl, h3, r3⟩ := trodAll_cons r2
  obtain ⟨rfl, rfl, rfl⟩ := trodAll_nil r3
  obtain rfl : args = #[v0, v1, v2, v3] := by cases args; simp_all
  obtain ⟨rfl, rfl⟩ := trodVars_none hV
  obtain ⟨a0, rfl, rfl, rfl, w0⟩ := open_string Try.underlying9 (hval 0 9 v0 rfl rfl) h0
  obtain ⟨a1, rfl, rfl, rfl, w1⟩ := open_string Try.underlying9 (hval 1 9 v1 rfl rfl) h1
  obtain ⟨a2, rfl, rfl, rfl, w2⟩ := open_int Try.underlying2 (hval 2 2 v2 rfl rfl) h2
  obtain ⟨a3, rfl, rfl, rfl, w3⟩ := open_int Try.underlying2 (hval 3 2 v3 rfl rfl) h3
  clear hA0 hval0
  refine (walk a0 a1 a2 a3 w0 w1 w2 W).mono fun e W' ⟨he, bel⟩ => ?_
  subst he
  exact ⟨_, rfl, _, _, _, [], _, [], hW', trodAll_mk1 (shut_bool Try.underlying4 _), (trodAll_cons_mk (shut_string Try.underlying9 w0) (trodAll_cons_mk (shut_string Try.underlying9 w1) (trodAll_cons_mk (shut_int Try.underlying2 w2) (trodAll_cons_mk (shut_int Try.underlying2 w3) trodAll_mk0)))), rfl, bel.frame _, fun h => by cases h⟩

theorem over : Rows.fnStringTestPrefixChargesFloorRow.holds Try.pinned (OpenSpec.ofChange Rows.fnStringTestPrefixChargesFloorSpec) :=
  OpenClaim.holds_of_wide 5 Try.f5 rfl rfl rfl rfl rfl rfl rfl ⟨rfl, rfl, rfl, rfl, rfl⟩ rfl rfl rfl rfl rfl (by kernel_rfl) Try.func5 (by kernel_rfl)
    (of_decide_eq_true (by kernel_rfl)) (by unfold Func.isWrapper; first | (rw [if_pos (by decide +kernel)]; kernel_rfl) | (rw [if_neg (by decide +kernel)]; exact ⟨rfl, rfl⟩))
    (fun os started H enc _ => lifted os started H enc)

/-- THE STATEMENT -/
theorem proved : Rows.FnStringTestPrefixChargesFloorSaid :=
  over
end Go.Proofs.Qxb6615507a.fnStringTestPrefixChargesFloor

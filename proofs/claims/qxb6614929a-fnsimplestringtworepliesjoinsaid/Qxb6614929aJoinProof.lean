/-
  'Rows.FnSimpleStringTwoRepliesJoinSaid'.
-/
import Derived.Test.Qxb6614929aRows
import Derived.Test.Qxb6614929aC
import Derived.WalkKit
import Derived.ProofKit
import Derived.OpenShut
import Derived.ShutString
namespace Go.Proofs.Qxb6614929a.fnSimpleStringTwoRepliesJoin
open Go.ChangeShapes Go.WideShapes Go.ChangeAt Go.RowKit
open Go.ChangeMaps (open_string shut_string)

theorem own : ownKnob Try.prog.godebug = none := by kernel_rfl

set_option maxHeartbeats 4000000 in
set_option maxRecDepth 100000 in
theorem walk_in (s t : ByteArray) (w0 : s.size ≤ maxLen) (w1 : t.size ≤ maxLen) (hs : s.size ≤ 65536) (ht : t.size ≤ 65536) (w : World) :
    Calls Try.prog 3 #[.string s, .string t] w fun e w' => e = .returned (.bool true) ∧ Below w.heap.size w w' := by
  have hc4 := bytes_any s t w0 w1 w
  have hc5 := two_any s t w hs ht
  have hc6 := fun w => one_any s w hs
  have hc7 := fun w => one_any t w ht
  obtain ⟨n1, hn1⟩ : ∃ n1, s.size + 3 = n1 := ⟨_, rfl⟩
  obtain ⟨n2, hn2⟩ : ∃ n2, t.size + 3 = n2 := ⟨_, rfl⟩
  obtain ⟨n, hn⟩ : ∃ n, n1 + n2 = n := ⟨_, rfl⟩
  rw [hn1, hn2, hn] at hc5
  simp only [hn1] at hc6
  simp only [hn2] at hc7
  have z1 : ((n1 : Int) != (s.size : Int) + 3) = false := by simp; omega
  have z2 : ((n2 : Int) != (t.size : Int) + 3) = false := by simp; omega
  have z3 : IntKind.i64.wrap ((n1 : Int) + (n2 : Int)) = (n : Int) := by rw [IntKind.wrap_i64]; omega
  have z4 : ((n : Int) != (n : Int)) = false := by simp
  have z5 : n - n1 = n2 := by omega
  have z6 : n1 ≤ n := by omega
  have z7 : n1 < n := by omega
  have z8 : n ≤ 131078 := by omega
  have H1 : Hid (n1 = s.size + 3) := hn1.symm
  have H2 : Hid (n2 = t.size + 3) := hn2.symm
  have H3 : Hid (n1 + n2 = n) := hn
  clear hn hn1 hn2 w0 w1
  go_enter Try.func3, Try.ntmps3
  go_upto_region 5 with (go_at_call 4; refine hc4.mono ?_; clear hc4; rintro e w' ⟨⟨b, rfl⟩, rfl⟩)
  · go_wp2
    go_ret
    exact ⟨rfl, Below.refl _ _⟩
  go_upto_region 6 with (go_at_call 5; refine hc5.mono ?_; clear hc5; rintro e w1 ⟨g, cap, rfl, h4, h5, r1, b1⟩)
  have hc6 := hc6 w1
  go_upto_region 7 with (go_at_call 6; refine hc6.mono ?_; clear hc6; rintro e w2 ⟨g1, cap1, rfl, h6, h7, r2, b2⟩)
  have hc7 := hc7 w2
  go_upto_region 8 with (go_at_call 6; refine hc7.mono ?_; clear hc7; rintro e w3 ⟨g2, cap2, rfl, h8, h9, r3, b3⟩)
  have q1 := (r1.below (Nat.le_refl _) b2).below (Nat.le_refl _) b3
  have q2 := r2.below (Nat.le_refl _) b3
  have hB : Below w.heap.size w w3 := (b1.trans (b2.mono b1.size)).trans (b3.mono (b1.trans (b2.mono b1.size)).size)
  clear b1 b2 b3 r1 r2
  have p1 : Row w3 g 0 n1 (rv s) := (q1.sub (lo := 0) (m := n1) (by omega)).congr fun i hi => by have := H1.out; rw [Nat.zero_add, rv2, if_pos (by omega)]
  have p2 : Row w3 g n1 n2 (rv t) := by
    have := q1.sub (lo := n1) (m := n2) (by have := H3.out; omega)
    rw [Nat.zero_add] at this
    refine this.congr fun i hi => ?_
    rw [rv2, if_neg (by have := H1.out; omega), ← H1.out, Nat.add_sub_cancel_left]
  have y1 := equal_any g 0 g1 0 n1 cap cap1 (rv s) w3 (by omega) p1 q2
  have y2 := fun q => equal_any g n1 g2 0 n2 (cap - n1) cap2 (rv t) (w3.drewN q) (by omega) (p2.drewN q) (r3.drewN q)
  have y3 := fun q => frame_in g1 cap1 n1 s (w3.drewN q) hs H1 (q2.drewN q)
  have y4 := fun q => frame_in g2 cap2 n2 t (w3.drewN q) ht H2 (r3.drewN q)
  unfold maxLen at h5 h7 h9
  clear p1 p2 q1 q2 r3
  go_upto_region 12 with (first | (go_at_call 7; refine y1.mono ?_; clear y1; rintro e w4 ⟨rfl, qa, rfl⟩) | (go_at_call 7; refine (y2 _).mono ?_; clear y2; rintro e w5 ⟨rfl, qb, rfl⟩))
  go_wp2_with (first | (go_at_call 8; refine (y3 _).mono ?_; clear y3; rintro e w6 ⟨rfl, qc, rfl⟩) | (go_at_call 8; refine (y4 _).mono ?_; clear y4; rintro e w7 ⟨rfl, qd, rfl⟩))
  go_ret
  exact ⟨rfl, hB.trans ⟨rfl, rfl, rfl, Nat.le_refl _, fun _ _ => rfl⟩⟩

theorem walk (a0 : ByteArray) (a1 : ByteArray) (w0 : a0.size ≤ maxLen) (w1 : a1.size ≤ maxLen) (w : World) :
    Calls Try.prog 3 #[.string a0, .string a1] w fun e w' => e = .returned (.bool true) ∧ Below w.heap.size w w' := by
  by_cases h1 : 65536 < a0.size
  · have hc4 := bytes_any a0 a1 w0 w1 w
    unfold maxLen at w0 w1
    go_enter Try.func3, Try.ntmps3
    go_wp2_with (go_at_call 4; refine hc4.mono ?_; clear hc4; rintro e w' ⟨⟨b, rfl⟩, rfl⟩)
    all_goals
      go_ret
      exact ⟨rfl, Below.refl _ _⟩
  by_cases h2 : 65536 < a1.size
  · have hc4 := bytes_any a0 a1 w0 w1 w
    unfold maxLen at w0 w1
    go_enter Try.func3, Try.ntmps3
    go_wp2_with (go_at_call 4; refine hc4.mono ?_; clear hc4; rintro e w' ⟨⟨b, rfl⟩, rfl⟩)
    all_goals
      go_ret
      exact ⟨rfl, Below.refl _ _⟩
  exact walk_in a0 a1 w0 w1 (by omega) (by omega) w

set_option maxRecDepth 100000 in
theorem lifted (os : Os) (started : os.Started) (H : Type) (enc : TypeId × Value → H) :
    ReturnsInHanded {} Try.checked os 3 .any (Rows.fnSimpleStringTwoRepliesJoinSpec.pre6 enc Try.prog Try.f3 Rows.fnSimpleStringTwoRepliesJoinRow.domain false) (Rows.fnSimpleStringTwoRepliesJoinSpec.post enc Try.prog Try.f3 false true false false) := by
  refine returnsInHanded_of_change (C := Try.checked) own started (by kernel_rfl) Try.func3
    (ChangeSpec.witness6 (enc := enc) (C := Try.checked) false ⟨#[], #[.string ByteArray.empty, .string ByteArray.empty], []⟩ 8 (by kernel_rfl) (by kernel_rfl) (by kernel_rfl) (by kernel_rfl)) ?_
  intro W base args ds gs before hval0 hW hcnd _
  have hval : ∀ (j : Nat) t v, Try.f3.params[j]? = some t → args[j]? = some v → Value.okWide Try.prog W .any base t v := hval0
  have hW' := hW
  obtain ⟨p, q, hA0, hV, rfl, hfz, hnd⟩ := hW
  have hA : DataW.TrodAll enc Try.prog W 0 (fun _ => true) true Try.f3.params.toList args.toList ds p := hA0
  rw [Try.params3] at hA hval
  obtain ⟨v0, vs0, d0, ds0, p0, q0, hargs, rfl, rfl, h0, r0⟩ := trodAll_cons hA
  obtain ⟨v1, vs1, d1, ds1, p1, q1, rfl, rfl, rfl, h1, r1⟩ := trodAll_cons r0
  obtain ⟨rfl, rfl, rfl⟩ := trodAll_nil r1
  obtain rfl : args = #[v0, v1] := by cases args; simp_all
  obtain ⟨rfl, rfl⟩ := trodVars_none hV
  obtain ⟨a0, rfl, rfl, rfl, w0⟩ := open_string Try.underlying9 (hval 0 9 v0 rfl rfl) h0
  obtain ⟨a1, rfl, rfl, rfl, w1⟩ := open_string Try.underlying9 (hval 1 9 v1 rfl rfl) h1
  clear hA0 hval0
  refine (walk a0 a1 w0 w1 W).mono fun e W' ⟨he, bel⟩ => ?_
  subst he
  exact ⟨_, rfl, _, _, _, [], _, [], hW', trodAll_mk1 (shut_bool Try.underlying4 _), (trodAll_cons_mk (shut_string Try.underlying9 w0) (trodAll_cons_mk (shut_string Try.underlying9 w1) trodAll_mk0)), rfl, bel.frame _, fun h => by cases h⟩

theorem over : Rows.fnSimpleStringTwoRepliesJoinRow.holds Try.pinned (OpenSpec.ofChange Rows.fnSimpleStringTwoRepliesJoinSpec) :=
  OpenClaim.holds_of_wide 3 Try.f3 rfl rfl rfl rfl rfl rfl rfl ⟨rfl, rfl, rfl, rfl, rfl⟩ rfl rfl rfl rfl rfl (by kernel_rfl) Try.func3 (by kernel_rfl)
    (of_decide_eq_true (by kernel_rfl)) (by unfold Func.isWrapper; first | (rw [if_pos (by decide +kernel)]; kernel_rfl) | (rw [if_neg (by decide +kernel)]; exact ⟨rfl, rfl⟩))
    (fun os started H enc _ => lifted os started H enc)

/-- THE STATEMENT -/
theorem proved : Rows.FnSimpleStringTwoRepliesJoinSaid :=
  over
end Go.Proofs.Qxb6614929a.fnSimpleStringTwoRepliesJoin

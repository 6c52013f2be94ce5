/-
  ZZsimpleString, ZZsimpleStrings2, zzSimpleFrameOK.
-/
import Derived.Test.Qxb6614929aB
namespace Go.Proofs.Qxb6614929a
open Go.Shelf Go.RowKit

/-- A reply, byte for byte. -/
def rv (s : ByteArray) (i : Nat) : Int := if i = 0 then 43 else if i < s.size + 1 then spI (bt s (i - 1)) else if i = s.size + 1 then 13 else 10
theorem rep_at (s : ByteArray) (i : Nat) (h : i < s.size + 3) : (rep s)[i]? = some (.int .u8 (rv s i)) := by
  unfold rep rv
  by_cases h0 : i = 0
  · subst h0; simp
  rw [if_neg h0]
  by_cases h1 : i < s.size + 1
  · rw [if_pos h1, List.getElem?_append_left (by simp [rc_len]; omega), List.getElem?_append_right (by simp; omega)]
    simp only [rc, List.length_singleton]
    rw [List.getElem?_map, List.getElem?_range (by omega)]
    rfl
  · rw [if_neg h1, List.getElem?_append_right (by simp [rc_len]; omega)]
    have hl : ([Value.int .u8 43] ++ rc (bt s) s.size).length = s.size + 1 := by simp [rc_len]
    rw [hl]
    by_cases h2 : i = s.size + 1
    · rw [if_pos h2]; subst h2; simp
    · rw [if_neg h2]
      obtain rfl : i = s.size + 2 := by omega
      rw [show s.size + 2 - (s.size + 1) = 1 by omega]
      rfl
/-- Two replies, one behind the other. -/
def rv2 (s t : ByteArray) (i : Nat) : Int := if i < s.size + 3 then rv s i else rv t (i - (s.size + 3))
theorem rep2_at (s t : ByteArray) (i : Nat) (h : i < s.size + 3 + (t.size + 3)) : (rep s ++ rep t)[i]? = some (.int .u8 (rv2 s t i)) := by
  unfold rv2
  by_cases h1 : i < s.size + 3
  · rw [if_pos h1, List.getElem?_append_left (by rw [rep_len]; exact h1), rep_at s i h1]
  · rw [if_neg h1, List.getElem?_append_right (by rw [rep_len]; omega), rep_len, rep_at t _ (by omega)]

theorem row_of_owns {w : World} {B n : Nat} {v : Value} {xs : List Value} {f : Nat → Int} (h : w.ownsRow B 5 1 v n xs) (hn : 0 < n) (hx : ∀ i, i < n → xs[i]? = some (.int .u8 (f i))) :
    ∃ g cap, v = .slice (some ⟨g, 0, none⟩) n cap ∧ n ≤ cap ∧ cap ≤ maxLen ∧ Row w g 0 n f := by
  obtain ⟨hl, h | ⟨g, cap, cur, h1, h2, h3, h4, h5, h6, h7⟩⟩ := h
  · omega
  · refine ⟨g, cap, h1, h4, h5, (Array.getElem?_eq_some_iff.1 h3).1, fun i hi => ?_⟩
    rw [Lib.cell_of_heap h3, Nat.zero_add, ← hx i hi, ← h7, List.getElem?_take, if_pos (by omega), Array.getElem?_toList]

set_option maxHeartbeats 2000000 in
set_option maxRecDepth 100000 in
theorem one_any (s : ByteArray) (w : World) (hs : s.size ≤ 65536) :
    Calls Try.prog 6 #[.string s] w fun e w' => ∃ g cap, e = .returned (.slice (some ⟨g, 0, none⟩) (s.size + 3) cap) ∧ s.size + 3 ≤ cap ∧ cap ≤ maxLen ∧ Row w' g 0 (s.size + 3) (rv s) ∧ Below w.heap.size w w' := by
  have hI0 := Lib.fresh_isBuffer 31 5 w
  have hb0 : Below w.heap.size w (w.alloc (.cells #[.slice none 0 0, .int .i64 0, .int .i8 0] 31)) := (Below.refl _ w).alloc (Nat.le_refl _) _
  obtain ⟨w0, e0⟩ : ∃ w0, w.alloc (.cells #[.slice none 0 0, .int .i64 0, .int .i8 0] 31) = w0 := ⟨_, rfl⟩
  rw [e0] at hI0 hb0
  have hc9 := new_any w.heap.size w.heap.size [] w0 hI0
  go_enter Try.func6, Try.ntmps6
  go_upto_region 3 with (first | (go_at_call 9; refine hc9.mono ?_; clear hc9; rintro e w1 ⟨rfl, W1, i1, b1, k1⟩; have hc10 := simple_any w.heap.size w.heap.size w0.heap.size [] s w1 i1 W1 k1 (by have := hb0.size; have := b1.size; omega) (by simp) hs (by simp)) | (go_at_call 10; refine hc10.mono ?_; clear hc10; rintro e w2 ⟨rfl, i2, b2, k2⟩))
  rw [List.nil_append] at i2
  have hB2 : Below w.heap.size w w2 := (hb0.trans (b1.mono hb0.size)).trans b2
  have hc11 := bbytes w.heap.size w.heap.size (rep s) w2 i2
  clear hI0 i1 i2 b1 b2 k1 k2 W1 e0
  go_wp2_with (go_at_call 11; refine hc11.mono ?_; clear hc11; rintro e w3 ⟨v, rfl, hown, q, rfl⟩; rw [rep_len] at hown; obtain ⟨g, cap, rfl, h4, h5, hrow⟩ := row_of_owns hown (by omega) (rep_at s))
  go_ret
  exact ⟨g, cap, rfl, h4, h5, hrow, hB2.trans ⟨rfl, rfl, rfl, Nat.le_refl _, fun _ _ => rfl⟩⟩

set_option maxHeartbeats 2000000 in
set_option maxRecDepth 100000 in
theorem two_any (s t : ByteArray) (w : World) (hs : s.size ≤ 65536) (ht : t.size ≤ 65536) :
    Calls Try.prog 5 #[.string s, .string t] w fun e w' => ∃ g cap, e = .returned (.slice (some ⟨g, 0, none⟩) (s.size + 3 + (t.size + 3)) cap) ∧ s.size + 3 + (t.size + 3) ≤ cap ∧ cap ≤ maxLen ∧ Row w' g 0 (s.size + 3 + (t.size + 3)) (rv2 s t) ∧ Below w.heap.size w w' := by
  have hI0 := Lib.fresh_isBuffer 31 5 w
  have hb0 : Below w.heap.size w (w.alloc (.cells #[.slice none 0 0, .int .i64 0, .int .i8 0] 31)) := (Below.refl _ w).alloc (Nat.le_refl _) _
  obtain ⟨w0, e0⟩ : ∃ w0, w.alloc (.cells #[.slice none 0 0, .int .i64 0, .int .i8 0] 31) = w0 := ⟨_, rfl⟩
  rw [e0] at hI0 hb0
  have hc9 := new_any w.heap.size w.heap.size [] w0 hI0
  go_enter Try.func5, Try.ntmps5
  go_upto_region 3 with (go_at_call 9; refine hc9.mono ?_; clear hc9; rintro e w1 ⟨rfl, W1, i1, b1, k1⟩)
  have hB1 : Below w.heap.size w w1 := hb0.trans (b1.mono hb0.size)
  have hc10 := simple_any w.heap.size w.heap.size w0.heap.size [] s w1 i1 W1 k1 hB1.size (by simp) hs (by simp)
  clear e0
  go_upto_region 4 with (go_at_call 10; refine hc10.mono ?_; clear hc10; rintro e w2 ⟨rfl, i2, b2, k2⟩)
  rw [List.nil_append] at i2
  have hB2 : Below w.heap.size w w2 := hB1.trans b2
  have hc10 := simple_any w.heap.size w.heap.size w0.heap.size (rep s) t w2 i2 (W1.kept k1 k2) k1 hB2.size (rep_one s) ht (by rw [rep_len]; omega)
  clear hI0 i1 i2 b1 b2 k1 k2 W1
  go_upto_region 5 with (go_at_call 10; refine hc10.mono ?_; clear hc10; rintro e w3 ⟨rfl, i3, b3, k3⟩)
  have hB3 : Below w.heap.size w w3 := hB2.trans b3
  have hc11 := bbytes w.heap.size w.heap.size (rep s ++ rep t) w3 i3
  clear i3 b3 k3
  go_wp2_with (go_at_call 11; refine hc11.mono ?_; clear hc11; rintro e w4 ⟨v, rfl, hown, q, rfl⟩; rw [List.length_append, rep_len, rep_len] at hown; obtain ⟨g, cap, rfl, h4, h5, hrow⟩ := row_of_owns hown (by omega) (rep2_at s t))
  go_ret
  exact ⟨g, cap, rfl, h4, h5, hrow, hB3.trans ⟨rfl, rfl, rfl, Nat.le_refl _, fun _ _ => rfl⟩⟩

set_option maxHeartbeats 2000000 in
theorem frame_in (g c n : Nat) (s : ByteArray) (w : World) (hs : s.size ≤ 65536) (Hn : Hid (n = s.size + 3)) (hr : Row w g 0 n (rv s)) :
    Calls Try.prog 8 #[.slice (some ⟨g, 0, none⟩) n c, .string s] w fun e w' => e = .returned (.bool true) ∧ ∃ q, w' = w.drewN q := by
  have x0 : w.cell? ⟨g, 0, none⟩ = some (.int .u8 43) := hr.2 0 (by have := Hn.out; omega)
  have z0 : ((n : Int) != (s.size : Int) + 3) = false := by have := Hn.out; simp; omega
  have z1 : 0 < n := by have := Hn.out; omega
  have z2 : n ≤ 65539 := by have := Hn.out; omega
  go_enter Try.func8, Try.ntmps8
  go_wp2
  go_loopw [5] (fun i wr => ∃ k q : Nat, k ≤ s.size ∧ i = .int .i64 k ∧ Hid (wr = w.drewN q)) (fun i _ => s.size - (intOf i).toNat)
  case atStart => exact ⟨0, 0, Nat.zero_le _, rfl, rfl⟩
  case round =>
    obtain ⟨k, q, hk, rfl, hW⟩ := hrel
    have hr' : Row wr g 0 n (rv s) := by rw [hW.out]; exact hr.drewN q
    by_cases hlt : k < s.size
    · have x1 : wr.cell? ⟨g, k + 1, none⟩ = some (.int .u8 (spI ((s[k]'hlt).toNat : Int))) := by
        have := hr'.2 (k + 1) (by have := Hn.out; omega)
        rw [Nat.zero_add] at this
        rw [this, rv, if_neg (by omega), if_pos (by omega), Nat.add_sub_cancel, bt_lt hlt]
      have x3 : (spI ((s[k]'hlt).toNat : Int) != spI ((s[k]'hlt).toNat : Int)) = false := by simp
      obtain ⟨k1, hk1⟩ : ∃ k1, k + 1 = k1 := ⟨_, rfl⟩
      have e1 : IntKind.i64.wrap ((k : Int) + 1) = (k1 : Int) := by rw [IntKind.wrap_i64]; omega
      have y1 : k1 < n := by have := Hn.out; omega
      rw [hk1] at x1
      have Hk1 : Hid (k + 1 = k1) := hk1
      clear hk1
      go_wp2
      go_quiet ((go_at_call 12; exact Calls.quiet_of_same (space_any _ _)))
      go_wp2
      go_roundw
      case rel => exact ⟨k1, _, by have := Hk1.out; omega, by go_num, (by rw [hW.out]; exact World.drewN_drewN _ _ _)⟩
      case measure => have := Hk1.out; simp [intOf]; omega
    · obtain ⟨m1, hm1⟩ : ∃ m1, s.size + 1 = m1 := ⟨_, rfl⟩
      obtain ⟨m2, hm2⟩ : ∃ m2, s.size + 2 = m2 := ⟨_, rfl⟩
      have x1 : wr.cell? ⟨g, m1, none⟩ = some (.int .u8 13) := by
        have := hr'.2 (s.size + 1) (by have := Hn.out; omega)
        rw [Nat.zero_add] at this
        rw [← hm1, this, rv, if_neg (by omega), if_neg (by omega), if_pos rfl]
      have x2 : wr.cell? ⟨g, m2, none⟩ = some (.int .u8 10) := by
        have := hr'.2 (s.size + 2) (by have := Hn.out; omega)
        rw [Nat.zero_add] at this
        rw [← hm2, this, rv, if_neg (by omega), if_neg (by omega), if_neg (by omega)]
      have e1 : IntKind.i64.wrap ((n : Int) - 2) = (m1 : Int) := by have := Hn.out; rw [IntKind.wrap_i64]; omega
      have e2 : IntKind.i64.wrap ((n : Int) - 1) = (m2 : Int) := by have := Hn.out; rw [IntKind.wrap_i64]; omega
      have y1 : m1 < n := by have := Hn.out; omega
      have y2 : m2 < n := by have := Hn.out; omega
      clear hm1 hm2
      go_wp2
      go_ret
      exact ⟨rfl, q, hW.out⟩
end Go.Proofs.Qxb6614929a

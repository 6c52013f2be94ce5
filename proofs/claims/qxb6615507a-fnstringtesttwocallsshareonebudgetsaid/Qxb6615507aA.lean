/-
  THE SMALL WALKS: HasPrefix, the law's own prefix test, the floor, stepsOf, charge.
-/
import Derived.Test.Qxb6615507aProg
import Derived.Shelf.Strings.Prefix
import Derived.Shelf.Lay
import Derived.Lib.Hide
import Derived.Lib.Strings
import Derived.Ground.NamesProg
import Derived.WalkKit
import Derived.BigCall
import Derived.BigQuiet
import Derived.Deep.QuietTactic
import Derived.WalkSpells
import Derived.WalkLawsBesides
import Derived.Deep.RegionWith
import Derived.Deep.DeepCutAuto
namespace Go.Proofs.Qxb6615507a
open Go.Shelf Go.RowKit
shelf_lay Lays.n99 Nm 99 at Try as Try.lays99

/-- Whether t is a prefix of s. -/
def hp (s t : ByteArray) : Bool := Lib.hasPrefix s.data.toList t.data.toList
theorem hp_any (s t : ByteArray) (w : World) : Calls Try.prog 21 #[.string s, .string t] w fun e w' => e = .returned (.bool (hp s t)) ∧ w' = w := Any.strings_HasPrefix Try.lays99 s t w

theorem hp_iff (s t : ByteArray) : hp s t = true ↔ ∀ i (h : i < t.size), ∃ h2 : i < s.size, s[i]'h2 = t[i]'h := by
  unfold hp Lib.hasPrefix
  rw [List.isPrefixOf_iff_prefix, List.prefix_iff_getElem?]
  constructor
  · intro h i hi
    have h1 := h i (by rw [Array.length_toList]; exact hi)
    obtain ⟨h2, h3⟩ := List.getElem?_eq_some_iff.1 h1
    have h4 : i < s.size := by rw [Array.length_toList] at h2; exact h2
    exact ⟨h4, (show s.data[i]'h4 = t.data[i]'hi from by simpa using h3)⟩
  · intro h i hi
    have hi' : i < t.size := by rw [Array.length_toList] at hi; exact hi
    obtain ⟨h2, h3⟩ := h i hi'
    rw [List.getElem?_eq_some_iff]
    have h4 : s.data[i]'h2 = t.data[i]'hi' := h3
    exact ⟨by rw [Array.length_toList]; exact h2, by simpa using h4⟩
theorem hp_short {s t : ByteArray} (h : s.size < t.size) : hp s t = false := by
  cases e : hp s t
  · rfl
  · obtain ⟨h2, _⟩ := (hp_iff s t).1 e s.size h
    omega
theorem hp_diff {s t : ByteArray} {i : Nat} (h1 : i < s.size) (h2 : i < t.size) (h : s[i]'h1 ≠ t[i]'h2) : hp s t = false := by
  cases e : hp s t
  · rfl
  · obtain ⟨h3, h4⟩ := (hp_iff s t).1 e i h2
    exact absurd h4 h

set_option maxHeartbeats 1000000 in
theorem zhp_any (s t : ByteArray) (w : World) (hs : s.size ≤ 1048576) : Calls Try.prog 13 #[.string s, .string t] w fun e w' => e = .returned (.bool (hp s t)) ∧ ∃ q, w' = w.drewN q := by
  by_cases h0 : s.size < t.size
  · rw [hp_short h0]
    go_enter Try.func13, Try.ntmps13
    go_wp2
    go_ret
    exact ⟨rfl, 0, rfl⟩
  · go_enter Try.func13, Try.ntmps13
    go_wp2
    go_loopw [5] (fun i wr => ∃ k q : Nat, k ≤ t.size ∧ i = .int .i64 k ∧ wr = w.drewN q ∧ Hid (∀ i (h : i < t.size), i < k → ∃ h2 : i < s.size, s[i]'h2 = t[i]'h)) (fun i _ => t.size - (intOf i).toNat)
    case atStart => exact ⟨0, 0, Nat.zero_le _, rfl, rfl, fun i h hk => by omega⟩
    case round =>
      obtain ⟨k, q, hk, rfl, rfl, hH⟩ := hrel
      by_cases hlt : k < t.size
      · have hlt2 : k < s.size := by omega
        by_cases x : s[k]'hlt2 = t[k]'hlt
        · have x3 : (((s[k]'hlt2).toNat : Int) != ((t[k]'hlt).toNat : Int)) = false := by simp [x]
          have hN : Hid (∀ i (h : i < t.size), i < k + 1 → ∃ h2 : i < s.size, s[i]'h2 = t[i]'h) := fun i h hi => by
            by_cases e : i = k
            · subst e; exact ⟨hlt2, x⟩
            · exact hH.out i h (by omega)
          clear x hH
          go_wp2
          go_quiet (fail)
          go_wp2
          go_roundw
          case rel => exact ⟨k + 1, _, by omega, by go_num, rfl, hN⟩
          case measure => simp [intOf]; omega
        · have x3 : (((s[k]'hlt2).toNat : Int) != ((t[k]'hlt).toNat : Int)) = true := by
            simp only [bne_iff_ne, ne_eq, Int.natCast_inj]
            exact fun e => x (UInt8.toNat_inj.1 e)
          have hv : Hid (hp s t = false) := hp_diff hlt2 hlt x
          clear x hH
          go_wp2
          go_quiet (fail)
          go_wp2
          go_ret
          exact ⟨by rw [hv.out]; rfl, _, World.drewN_drewN _ _ _⟩
      · have hv : Hid (hp s t = true) := (hp_iff s t).2 fun i h => hH.out i h (by omega)
        clear hH
        go_wp2
        go_ret
        exact ⟨by rw [hv.out]; rfl, q, rfl⟩

theorem floor_any (n : Nat) (w : World) (hn : n ≤ 1048576) : Calls Try.prog 14 #[.int .i64 ((n / 32 : Nat) : Int), .int .i64 (n : Int)] w fun e w' => e = .returned (.bool true) ∧ w' = w := by
  obtain ⟨d, hd⟩ : ∃ d, n / 32 = d := ⟨_, rfl⟩
  rw [hd]
  have h1 : d ≤ n := by omega
  have h2 : 32 * d ≤ n := by omega
  have h3 : decide ((n : Int) < 32 * (d : Int) + 32) = true := by rw [decide_eq_true_eq]; omega
  clear hd
  go_enter Try.func14, Try.ntmps14
  go_wp2
  go_ret
  exact ⟨rfl, rfl⟩

theorem steps_any (n : Nat) (w : World) (hn : n ≤ 1048576) : Calls Try.prog 24 #[.int .i64 (n : Int)] w fun e w' => e = .returned (.int .i64 ((n / 32 : Nat) : Int)) ∧ w' = w := by
  go_enter Try.func24, Try.ntmps24
  go_wp2
  go_ret
  exact ⟨by simp, rfl⟩
end Go.Proofs.Qxb6615507a

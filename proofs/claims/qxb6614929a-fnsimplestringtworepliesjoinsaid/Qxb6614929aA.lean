/-
  THE SHELF's CONTRACTS ON bytes.Buffer LAID AT THIS PROGRAM, AND THE SMALL WALKS.
-/
import Derived.Test.Qxb6614929aProg
import Derived.Shelf.Bytes.WriteByteKept
import Derived.Shelf.Bytes.WriteStringKept
import Derived.Shelf.Bytes.Bytes
import Derived.Shelf.Lay
import Derived.Lib.BufferKept
import Derived.Lib.Hide
import Derived.Lib.Strings
import Derived.Ground.NamesProg
import Derived.WalkKit
import Derived.BigCall
import Derived.BigQuiet
import Derived.Deep.QuietTactic
import Derived.WalkSpells
import Derived.Deep.RegionWith
import Derived.Deep.DeepCutAuto
import Derived.WalkLawsBesides
namespace Go.Proofs.Qxb6614929a
open Go.Shelf Go.RowKit
shelf_lay LaysM.n179 Nm 179 at Try as Try.laysKLaysM179
shelf_lay LaysM.n178 Nm 178 at Try as Try.laysKLaysM178
shelf_lay LaysM.n183 Nm 183 at Try as Try.laysKLaysM183
theorem wbyte (B b : Nat) (bs : List Value) (c : Int) (w : World) (h : Lib.IsBuffer 31 5 B b bs w) (hBw : B ≤ w.heap.size) (h1 : ∀ v ∈ bs, v.oneCell' = true) (hlim : bs.length + 1 ≤ 140737488355328) :
    Calls Try.prog 33 #[.pointer (some ⟨b, 0, none⟩), .int .u8 c] w fun e w' => e = .returned .nilIface ∧ Lib.IsBuffer 31 5 B b (bs ++ [.int .u8 c]) w' ∧ RowKit.Below B w w' ∧ Lib.OthersKept 5 (some b) w w' := Any.Buffer_WriteByte_kept Try.laysKLaysM179 B b bs c w h hBw h1 hlim
theorem wstring (B b : Nat) (bs : List Value) (s : ByteArray) (w : World) (h : Lib.IsBuffer 31 5 B b bs w) (hBw : B ≤ w.heap.size) (h1 : ∀ v ∈ bs, v.oneCell' = true) (hlim : bs.length + s.size ≤ 140737488355328) :
    Calls Try.prog 34 #[.pointer (some ⟨b, 0, none⟩), .string s] w fun e w' => e = .returned (.tuple #[.int .i64 s.size, .nilIface]) ∧ Lib.IsBuffer 31 5 B b (bs ++ Lib.byteCells s.data.toList) w' ∧ RowKit.Below B w w' ∧ Lib.OthersKept 5 (some b) w w' := Any.Buffer_WriteString_kept Try.laysKLaysM178 B b bs s w h hBw h1 hlim
theorem bbytes (B b : Nat) (bs : List Value) (w : World) (h : Lib.IsBuffer 31 5 B b bs w) :
    Calls Try.prog 11 #[.pointer (some ⟨b, 0, none⟩)] w fun e w' => ∃ v, e = .returned v ∧ w'.ownsRow B 5 1 v bs.length bs ∧ ∃ n, w' = w.drewN n := Any.Buffer_Bytes Try.laysKLaysM183 B b bs w h

/-- A row of bytes, and where it lies. -/
def Row (w : World) (g o n : Nat) (f : Nat → Int) : Prop := g < w.heap.size ∧ ∀ i, i < n → w.cell? ⟨g, o + i, none⟩ = some (.int .u8 (f i))
theorem Row.below {B : Nat} {w w' : World} {g o n : Nat} {f : Nat → Int} (h : Row w g o n f) (hB : w.heap.size ≤ B) (hb : Below B w w') : Row w' g o n f :=
  ⟨Nat.lt_of_lt_of_le h.1 hb.size, fun i hi => (hb.cell (p := ⟨g, o + i, none⟩) (Nat.lt_of_lt_of_le h.1 hB)).trans (h.2 i hi)⟩
theorem Row.drewN {w : World} {g o n : Nat} {f : Nat → Int} (h : Row w g o n f) (q : Nat) : Row (w.drewN q) g o n f := h
theorem Row.sub {w : World} {g o n m lo : Nat} {f : Nat → Int} (h : Row w g o n f) (hm : lo + m ≤ n) : Row w g (o + lo) m (fun i => f (lo + i)) :=
  ⟨h.1, fun i hi => by rw [Nat.add_assoc]; exact h.2 (lo + i) (by omega)⟩
theorem Row.congr {w : World} {g o n : Nat} {f k : Nat → Int} (h : Row w g o n f) (e : ∀ i, i < n → f i = k i) : Row w g o n k :=
  ⟨h.1, fun i hi => by rw [← e i hi]; exact h.2 i hi⟩

/-- A carriage return or a line feed turned to a space. -/
def spI (c : Int) : Int := if c = 13 then 32 else if c = 10 then 32 else c
theorem space_any (c : Int) (w : World) : Calls Try.prog 12 #[.int .u8 c] w fun e w' => e = .returned (.int .u8 (spI c)) ∧ w' = w := by
  by_cases h1 : c = 13
  · subst h1
    go_enter Try.func12, Try.ntmps12
    go_wp2
    go_ret
    exact ⟨rfl, rfl⟩
  · have k1 : (c == 13) = false := by simp [h1]
    by_cases h2 : c = 10
    · subst h2
      go_enter Try.func12, Try.ntmps12
      go_wp2
      go_ret
      exact ⟨rfl, rfl⟩
    · have k2 : (c == 10) = false := by simp [h2]
      have e : spI c = c := by rw [spI, if_neg h1, if_neg h2]
      rw [e]
      go_enter Try.func12, Try.ntmps12
      go_wp2
      go_ret
      exact ⟨rfl, rfl⟩

/-- zzEqual, at two rows that hold the same. -/
theorem equal_any (g1 o1 g2 o2 n c1 c2 : Nat) (f : Nat → Int) (w : World) (hn : n ≤ 1048576) (h1 : Row w g1 o1 n f) (h2 : Row w g2 o2 n f) :
    Calls Try.prog 7 #[.slice (some ⟨g1, o1, none⟩) n c1, .slice (some ⟨g2, o2, none⟩) n c2] w fun e w' => e = .returned (.bool true) ∧ ∃ q, w' = w.drewN q := by
  go_enter Try.func7, Try.ntmps7
  go_wp2
  go_loopw [5] (fun i wr => ∃ k q : Nat, k ≤ n ∧ i = .int .i64 k ∧ wr = w.drewN q) (fun i _ => n - (intOf i).toNat)
  case atStart => exact ⟨0, 0, Nat.zero_le _, rfl, rfl⟩
  case round =>
    obtain ⟨k, q, hk, rfl, rfl⟩ := hrel
    by_cases hlt : k < n
    · have x1 := h1.2 k hlt
      have x2 := h2.2 k hlt
      have x3 : (f k != f k) = false := by simp
      go_wp2
      go_quiet (fail)
      go_wp2
      go_roundw
      case rel => exact ⟨k + 1, _, by omega, by go_num, rfl⟩
      case measure => simp [intOf]; omega
    · go_wp2
      go_ret
      exact ⟨rfl, q, rfl⟩

theorem bytes_any (s t : ByteArray) (hs : s.size ≤ maxLen) (ht : t.size ≤ maxLen) (w : World) : Calls Try.prog 4 #[.string s, .string t] w fun e w' => (∃ b, e = .returned (.bool b)) ∧ w = w' := by
  unfold maxLen at hs ht
  by_cases h1 : 1048576 < s.size
  · go_enter Try.func4, Try.ntmps4
    go_wp2
    go_ret
    exact ⟨⟨_, rfl⟩, rfl⟩
  by_cases h2 : 1048576 < t.size
  · go_enter Try.func4, Try.ntmps4
    go_wp2
    go_ret
    exact ⟨⟨_, rfl⟩, rfl⟩
  by_cases h3 : 1048576 < s.size + t.size
  · go_enter Try.func4, Try.ntmps4
    go_wp2
    go_ret
    exact ⟨⟨_, rfl⟩, rfl⟩
  · go_enter Try.func4, Try.ntmps4
    go_wp2
    go_ret
    exact ⟨⟨_, rfl⟩, rfl⟩
end Go.Proofs.Qxb6614929a

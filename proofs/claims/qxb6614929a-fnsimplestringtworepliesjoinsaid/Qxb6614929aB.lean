/-
  THE WRITER OVER A bytes.Buffer: NewBufferWriter, line, SimpleString.
-/
import Derived.Test.Qxb6614929aA
namespace Go.Proofs.Qxb6614929a
open Go.Shelf Go.RowKit

/-- The Writer's block: its first cell holds the buffer's pointer. -/
def Wr (w : World) (k b : Nat) : Prop := ∃ cs fz, w.heap[k]? = some (.cells cs 44 fz) ∧ cs[0]? = some (.iface 34 (.pointer (some ⟨b, 0, none⟩)))
theorem Wr.cell {w : World} {k b : Nat} (h : Wr w k b) : w.cell? ⟨k, 0, none⟩ = some (.iface 34 (.pointer (some ⟨b, 0, none⟩))) := by
  obtain ⟨cs, fz, h1, h2⟩ := h
  rw [Lib.cell_of_heap h1]; exact h2
theorem Wr.kept {w w' : World} {k b : Nat} (h : Wr w k b) (hb : k ≠ b) (ho : Lib.OthersKept 5 (some b) w w') : Wr w' k b := by
  obtain ⟨cs, fz, h1, h2⟩ := h
  exact ⟨cs, fz, ho k _ h1 (by simpa using hb) (fun c fz e => by cases e), h2⟩
theorem new_any (B b : Nat) (bs : List Value) (w : World) (h : Lib.IsBuffer 31 5 B b bs w) : Calls Try.prog 9 #[.pointer (some ⟨b, 0, none⟩)] w fun e w' => e = .returned (.pointer (some ⟨w.heap.size, 0, none⟩)) ∧ Wr w' w.heap.size b ∧ Lib.IsBuffer 31 5 B b bs w' ∧ Below w.heap.size w w' ∧ w.heap.size ≠ b := by
  go_enter Try.func9, Try.ntmps9
  go_wp2
  go_ret
  exact ⟨rfl, ⟨_, _, heap_alloc_new _ _, rfl⟩, h.alloc _, (Below.refl _ w).alloc (Nat.le_refl _) _, by have := h.lt; omega⟩

theorem met_byte (a : Addr) (w : World) : (method 174 34 (.pointer (some a)) "WriteByte").run Try.prog w = .ok (33, .pointer (some a)) w := by kernel_rfl
theorem met_string (a : Addr) (w : World) : (method 174 34 (.pointer (some a)) "WriteString").run Try.prog w = .ok (34, .pointer (some a)) w := by kernel_rfl

/-- The byte at a place of a string. -/
def bt (s : ByteArray) (i : Nat) : Int := if h : i < s.size then ((s[i]'h).toNat : Int) else 0
theorem bt_lt {s : ByteArray} {i : Nat} (h : i < s.size) : bt s i = ((s[i]'h).toNat : Int) := dif_pos h
/-- The first t bytes, as they are written. -/
def rc (f : Nat → Int) (t : Nat) : List Value := (List.range t).map fun i => .int .u8 (spI (f i))
theorem rc_succ (f : Nat → Int) (t : Nat) : rc f (t + 1) = rc f t ++ [.int .u8 (spI (f t))] := by simp [rc, List.range_succ]
theorem rc_len (f : Nat → Int) (t : Nat) : (rc f t).length = t := by simp [rc]
theorem rc_one (f : Nat → Int) (t : Nat) : ∀ v ∈ rc f t, v.oneCell' = true := fun v hv => by
  simp only [rc, List.mem_map] at hv
  obtain ⟨i, _, rfl⟩ := hv
  rfl
theorem one_app {a c : List Value} (ha : ∀ v ∈ a, v.oneCell' = true) (hc : ∀ v ∈ c, v.oneCell' = true) : ∀ v ∈ a ++ c, v.oneCell' = true := fun v hv => by
  rcases List.mem_append.1 hv with h | h
  · exact ha v h
  · exact hc v h
theorem one_one (c : Int) : ∀ v ∈ [Value.int .u8 c], v.oneCell' = true := fun v hv => by simp at hv; subst hv; rfl
/-- A whole reply. -/
def rep (s : ByteArray) : List Value := [.int .u8 43] ++ rc (bt s) s.size ++ [.int .u8 13, .int .u8 10]
theorem rep_len (s : ByteArray) : (rep s).length = s.size + 3 := by simp [rep, rc_len]
theorem rep_one (s : ByteArray) : ∀ v ∈ rep s, v.oneCell' = true :=
  one_app (one_app (one_one 43) (rc_one _ _)) (one_app (a := [.int .u8 13]) (one_one 13) (one_one 10))

set_option maxHeartbeats 4000000 in
set_option maxRecDepth 100000 in
theorem line_any (B b k : Nat) (bs : List Value) (s : ByteArray) (w : World) (h : Lib.IsBuffer 31 5 B b bs w) (hk : Wr w k b) (hkb : k ≠ b) (hBw : B ≤ w.heap.size) (h1 : ∀ v ∈ bs, v.oneCell' = true) (hs : s.size ≤ 65536) (hlim : bs.length ≤ 1048576) :
    Calls Try.prog 13 #[.pointer (some ⟨k, 0, none⟩), .int .u8 43, .string s] w fun e w' => e = .returned (.tuple #[]) ∧ Lib.IsBuffer 31 5 B b (bs ++ rep s) w' ∧ Below B w w' ∧ Lib.OthersKept 5 (some b) w w' := by
  have c0 := hk.cell
  have hm1 := met_byte
  have hm2 := met_string
  have hcall := wbyte B b bs 43 w h hBw h1 (by omega)
  go_enter Try.func13, Try.ntmps13
  go_upto_region 1 with (go_at_call 33; refine hcall.mono ?_; clear hcall; rintro e w1 ⟨rfl, i1, b1, k1⟩)
  have hk1 := hk.kept hkb k1
  clear c0
  go_wp2_with fail
  go_loopw [16] (fun i wr => ∃ t : Nat, t ≤ s.size ∧ i = .int .i64 t ∧ Hid (Lib.IsBuffer 31 5 B b (bs ++ [.int .u8 43] ++ rc (bt s) t) wr ∧ Below B w wr ∧ Lib.OthersKept 5 (some b) w wr ∧ Wr wr k b)) (fun i _ => s.size - (intOf i).toNat)
  case atStart => exact ⟨0, Nat.zero_le _, rfl, by simpa [rc] using i1, b1, k1, hk1⟩
  case round =>
    obtain ⟨t, ht, rfl, hH⟩ := hrel
    have c1 := hH.out.2.2.2.cell
    by_cases hlt : t < s.size
    · have hcall := wbyte B b _ (spI (bt s t)) wr hH.out.1 (by have := hH.out.2.1.size; omega) (one_app (one_app h1 (one_one 43)) (rc_one _ _)) (by simp [rc_len]; omega)
      have hnext : ∀ w', (Lib.IsBuffer 31 5 B b (bs ++ [.int .u8 43] ++ rc (bt s) t ++ [.int .u8 (spI (bt s t))]) w' ∧ Below B wr w' ∧ Lib.OthersKept 5 (some b) wr w') → Hid (Lib.IsBuffer 31 5 B b (bs ++ [.int .u8 43] ++ rc (bt s) (t + 1)) w' ∧ Below B w w' ∧ Lib.OthersKept 5 (some b) w w' ∧ Wr w' k b) := by
        intro w' hw
        refine ⟨?_, hH.out.2.1.trans hw.2.1, hH.out.2.2.1.trans hw.2.2, hH.out.2.2.2.kept hkb hw.2.2⟩
        rw [rc_succ, ← List.append_assoc]; exact hw.1
      rw [bt_lt hlt] at hcall hnext
      clear hH
      by_cases x1 : ((s[t]'hlt).toNat : Int) = 13
      · rw [x1] at hcall hnext
        go_wp2_with (go_at_call 33; refine hcall.mono ?_; rintro e w2 ⟨rfl, i2, b2, k2⟩)
        go_roundw
        case rel => exact ⟨t + 1, by omega, by go_num, hnext w2 ⟨i2, b2, k2⟩⟩
        case measure => simp [intOf]; omega
      · by_cases x2 : ((s[t]'hlt).toNat : Int) = 10
        · rw [x2] at hcall hnext
          go_wp2_with (go_at_call 33; refine hcall.mono ?_; rintro e w2 ⟨rfl, i2, b2, k2⟩)
          go_roundw
          case rel => exact ⟨t + 1, by omega, by go_num, hnext w2 ⟨i2, b2, k2⟩⟩
          case measure => simp [intOf]; omega
        · have y1 : (((s[t]'hlt).toNat : Int) == 13) = false := by simp; omega
          have y2 : (((s[t]'hlt).toNat : Int) == 10) = false := by simp; omega
          have y3 : spI ((s[t]'hlt).toNat : Int) = ((s[t]'hlt).toNat : Int) := by rw [spI, if_neg x1, if_neg x2]
          rw [y3] at hcall hnext
          go_wp2_with (go_at_call 33; refine hcall.mono ?_; rintro e w2 ⟨rfl, i2, b2, k2⟩)
          go_roundw
          case rel => exact ⟨t + 1, by omega, by go_num, hnext w2 ⟨i2, b2, k2⟩⟩
          case measure => simp [intOf]; omega
    · obtain rfl : t = s.size := by omega
      have hcall := wstring B b _ ⟨#[13, 10]⟩ wr hH.out.1 (by have := hH.out.2.1.size; omega) (one_app (one_app h1 (one_one 43)) (rc_one _ _)) (by simp [rc_len]; show _ + 2 ≤ _; omega)
      go_wp2_with (go_at_call 34; refine hcall.mono ?_; clear hcall; rintro e w2 ⟨rfl, i2, b2, k2⟩)
      first | go_end0 | go_ret | go_ret2
      refine ⟨rfl, ?_, hH.out.2.1.trans b2, hH.out.2.2.1.trans k2⟩
      have e1 : bs ++ rep s = bs ++ [.int .u8 43] ++ rc (bt s) s.size ++ Lib.byteCells (#[13, 10] : Array UInt8).toList := by simp [rep, Lib.byteCells]
      rw [e1]; exact i2

theorem simple_any (B b k : Nat) (bs : List Value) (s : ByteArray) (w : World) (h : Lib.IsBuffer 31 5 B b bs w) (hk : Wr w k b) (hkb : k ≠ b) (hBw : B ≤ w.heap.size) (h1 : ∀ v ∈ bs, v.oneCell' = true) (hs : s.size ≤ 65536) (hlim : bs.length ≤ 1048576) :
    Calls Try.prog 10 #[.pointer (some ⟨k, 0, none⟩), .string s] w fun e w' => e = .returned (.tuple #[]) ∧ Lib.IsBuffer 31 5 B b (bs ++ rep s) w' ∧ Below B w w' ∧ Lib.OthersKept 5 (some b) w w' := by
  have hcall := line_any B b k bs s w h hk hkb hBw h1 hs hlim
  go_enter Try.func10, Try.ntmps10
  go_wp2_with (go_at_call 13; refine hcall.mono ?_; clear hcall; rintro e w1 ⟨rfl, i1, b1, k1⟩)
  first | go_end0 | go_ret | go_ret2
  exact ⟨rfl, i1, b1, k1⟩
end Go.Proofs.Qxb6614929a

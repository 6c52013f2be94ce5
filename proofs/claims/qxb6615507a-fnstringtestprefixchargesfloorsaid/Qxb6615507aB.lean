/-
  THE BUDGET: charge; the closure that stringTest makes.
-/
import Derived.Test.Qxb6615507aA
namespace Go.Proofs.Qxb6615507a
open Go.Shelf Go.RowKit
/-- A world in which at most the block bb has turned, and new blocks have come. -/
structure Keep (bb : Nat) (w w' : World) : Prop where
  os : w'.os = w.os
  tape : w'.tape = w.tape
  output : w'.output = w.output
  size : w.heap.size ≤ w'.heap.size
  block : ∀ k, k < w.heap.size → k ≠ bb → w'.heap[k]? = w.heap[k]?
theorem Keep.trans {bb : Nat} {a b c : World} (h : Keep bb a b) (k : Keep bb b c) : Keep bb a c :=
  ⟨k.os.trans h.os, k.tape.trans h.tape, k.output.trans h.output, Nat.le_trans h.size k.size, fun i hi hb => (k.block i (Nat.lt_of_lt_of_le hi h.size) hb).trans (h.block i hi hb)⟩
theorem Keep.of_below {bb : Nat} {a b : World} (h : Below a.heap.size a b) : Keep bb a b := ⟨h.os, h.tape, h.output, h.size, fun i hi _ => h.block i hi⟩
theorem Keep.refl (bb : Nat) (a : World) : Keep bb a a := ⟨rfl, rfl, rfl, Nat.le_refl _, fun _ _ _ => rfl⟩
theorem Keep.below {bb B : Nat} {a b : World} (h : Keep bb a b) (h1 : B ≤ bb) (h2 : B ≤ a.heap.size) : Below B a b := ⟨h.os, h.tape, h.output, h.size, fun i hi => h.block i (by omega) (by omega)⟩
theorem Keep.setCell {bb i : Nat} {a b : World} (h : Keep bb a b) (v : Value) : Keep bb a (b.setCell ⟨bb, i, none⟩ v) := by
  have hb := (Below.refl 0 b).setCell (p := ⟨bb, i, none⟩) (Nat.zero_le _) v
  refine ⟨hb.os.trans h.os, hb.tape.trans h.tape, hb.output.trans h.output, Nat.le_trans h.size hb.size, fun k hk hkb => ?_⟩
  rw [Below.heap_setCell _ _ _ _ hkb]
  exact h.block k hk hkb
theorem Keep.alloc {bb : Nat} {a b : World} (h : Keep bb a b) (o : Obj) : Keep bb a (b.alloc o) :=
  h.trans (Keep.of_below ((Below.refl _ b).alloc (Nat.le_refl _) o))
theorem Keep.drewN {bb : Nat} {a b : World} (h : Keep bb a b) (q : Nat) : Keep bb a (b.drewN q) := h.trans (Keep.of_below ⟨rfl, rfl, rfl, Nat.le_refl _, fun _ _ => rfl⟩)
theorem Keep.cell {bb k i : Nat} {a b : World} (h : Keep bb a b) (hk : k < a.heap.size) (hb : k ≠ bb) : b.cell? ⟨k, i, none⟩ = a.cell? ⟨k, i, none⟩ := by
  simp only [World.cell?, h.block k hk hb]

/-- An evaluator, its budget. -/
structure Bud (w : World) (k bb : Nat) (left steps : Int) : Prop where
  ev : w.cell? ⟨k, 1, none⟩ = some (.pointer (some ⟨bb, 0, none⟩))
  bd : w.heap[bb]? = some (.cells #[.int .i64 left, .int .i64 steps] 44 (0, 0))
  ne : k ≠ bb
  lt : k < w.heap.size
theorem Bud.blt {w : World} {k bb : Nat} {left steps : Int} (h : Bud w k bb left steps) : bb < w.heap.size := (Array.getElem?_eq_some_iff.1 h.bd).1
theorem Bud.c0 {w : World} {k bb : Nat} {left steps : Int} (h : Bud w k bb left steps) : w.cell? ⟨bb, 0, none⟩ = some (.int .i64 left) := by rw [Lib.cell_of_heap h.bd]; rfl
theorem Bud.c1 {w : World} {k bb : Nat} {left steps : Int} (h : Bud w k bb left steps) : w.cell? ⟨bb, 1, none⟩ = some (.int .i64 steps) := by rw [Lib.cell_of_heap h.bd]; rfl
theorem Bud.fz {w : World} {k bb : Nat} {left steps : Int} (h : Bud w k bb left steps) : w.frozen? ⟨bb, 0, none⟩ = false := by
  simp only [World.frozen?, h.bd]; rfl
theorem Bud.below {w w' : World} {k bb : Nat} {left steps : Int} (h : Bud w k bb left steps) (hb : Below w.heap.size w w') : Bud w' k bb left steps :=
  ⟨(hb.cell (p := ⟨k, 1, none⟩) h.lt).trans h.ev, (hb.block _ h.blt).trans h.bd, h.ne, Nat.lt_of_lt_of_le h.lt hb.size⟩
theorem Bud.put {w : World} {k bb : Nat} {left steps : Int} (h : Bud w k bb left steps) (v : Int) : Bud (w.setCell ⟨bb, 0, none⟩ (.int .i64 v)) k bb v steps := by
  refine ⟨?_, ?_, h.ne, ?_⟩
  · rw [← h.ev]
    simp only [World.cell?, Below.heap_setCell w ⟨bb, 0, none⟩ _ k h.ne]
  · rw [heap_setCell_same w bb 0 _ 44 _ h.bd]; rfl
  · have hb := (Below.refl 0 w).setCell (p := ⟨bb, 0, none⟩) (Nat.zero_le _) (.int .i64 v)
    exact Nat.lt_of_lt_of_le h.lt hb.size

theorem Bud.frame {w w' : World} {k bb B : Nat} {left steps : Int} (h : Bud w k bb left steps) (hk : k < B) (hbb : bb < B) (hb : Below B w w') : Bud w' k bb left steps :=
  ⟨(hb.cell (p := ⟨k, 1, none⟩) hk).trans h.ev, (hb.block _ hbb).trans h.bd, h.ne, Nat.lt_of_lt_of_le h.lt hb.size⟩
theorem Keep.on {bb : Nat} {a b c : World} (h : Keep bb a b) (k : Below a.heap.size b c) : Keep bb a c :=
  ⟨k.os.trans h.os, k.tape.trans h.tape, k.output.trans h.output, Nat.le_trans h.size k.size, fun i hi hb => (k.block i hi).trans (h.block i hi hb)⟩

/-- What the error says. -/
def Err (w : World) (v steps : Int) (err : Value) : Prop :=
  (v < 0 ∧ ∃ p, err = .iface 57 (.pointer (some ⟨p, 0, none⟩)) ∧ w.cell? ⟨p, 0, none⟩ = some (.int .i64 steps) ∧ p < w.heap.size) ∨ (0 ≤ v ∧ err = .nilIface)

set_option maxHeartbeats 1000000 in
theorem charge_any (k bb n : Nat) (left steps : Int) (w : World) (h : Bud w k bb left steps) (hl : -9223372036854775808 ≤ left - (n : Int)) (hu : left ≤ 9223372036854775807) :
    Calls Try.prog 23 #[.pointer (some ⟨k, 0, none⟩), .int .i64 (n : Int)] w fun e w' => ∃ err, e = .returned err ∧ Err w' (left - n) steps err ∧ Bud w' k bb (left - n) steps ∧ Keep bb w w' := by
  have c0 := h.ev
  have c1 := h.c0
  have f1 := h.fz
  obtain ⟨v, hvv⟩ : ∃ v, left - (n : Int) = v := ⟨_, rfl⟩
  have e1 : IntKind.i64.wrap (left - (n : Int)) = v := by rw [IntKind.wrap_i64]; omega
  have hput := h.put v
  have hkeep := (Keep.refl bb w).setCell (i := 0) (.int .i64 v)
  simp only [hvv]
  clear hvv
  go_enter Try.func23, Try.ntmps23
  go_upto_region 2 with fail
  clear c0 c1 f1 h
  generalize w.setCell ⟨bb, 0, none⟩ (.int .i64 v) = w1 at hput hkeep ⊢
  have c0 := hput.ev
  have c1 := hput.c0
  have c2 := hput.c1
  by_cases hv : v < 0
  · go_wp2
    go_ret
    refine ⟨_, rfl, .inl ⟨hv, _, rfl, ?_, ?_⟩, hput.below ((Below.refl _ w1).alloc (Nat.le_refl _) _), hkeep.alloc _⟩
    · rw [Lib.cell_of_heap (heap_alloc_new _ _)]; rfl
    · simp
  · go_wp2
    go_ret
    exact ⟨_, rfl, .inr ⟨by omega, rfl⟩, hput, hkeep⟩

theorem as_string (s : ByteArray) (w : World) : (Instr.typeAssert (.iface 9 (.string s)) 20 9 false).run Try.prog w = .ok (.string s) w := by kernel_rfl
theorem as_bool (b : Bool) (w : World) : (Instr.typeAssert (.iface 4 (.bool b)) 20 4 true).run Try.prog w = .ok (.tuple #[.bool b, .bool true]) w := by kernel_rfl
theorem as_err (a : Addr) (w : World) : (Instr.typeAssert (.iface 57 (.pointer (some a))) 51 57 true).run Try.prog w = .ok (.tuple #[.pointer (some a), .bool true]) w := by kernel_rfl

set_option maxHeartbeats 2000000 in
theorem clo_any (k bb g bx : Nat) (s t : ByteArray) (left steps : Int) (w : World) (h : Bud w k bb left steps) (hs : s.size + t.size ≤ 1048576) (hl : -9223372036854775808 ≤ left - ((s.size + t.size) / 32 : Nat)) (hu : left ≤ 9223372036854775807)
    (g0 : w.cell? ⟨g, 0, none⟩ = some (.iface 9 (.string s))) (g1 : w.cell? ⟨g, 1, none⟩ = some (.iface 9 (.string t))) (hx : w.cell? ⟨bx, 0, none⟩ = some (.func (.func 21) #[] #[])) :
    Calls Try.prog 22 #[.pointer (some ⟨k, 0, none⟩), .pointer none, .slice (some ⟨g, 0, none⟩) 2 2, .pointer (some ⟨bx, 0, none⟩)] w fun e w' => ∃ err, e = .returned (.tuple #[.iface 4 (.bool (hp s t)), err]) ∧ Err w' (left - ((s.size + t.size) / 32 : Nat)) steps err ∧ Bud w' k bb (left - ((s.size + t.size) / 32 : Nat)) steps ∧ Keep bb w w' := by
  have a1 := fun w => hp_any s t w
  have a2 := fun w => steps_any (s.size + t.size) w hs
  have a3 := fun q => charge_any k bb ((s.size + t.size) / 32) left steps (w.drewN q) (h.below ⟨rfl, rfl, rfl, Nat.le_refl _, fun _ _ => rfl⟩) hl hu
  have e1 : IntKind.i64.wrap ((s.size : Int) + (t.size : Int)) = ((s.size + t.size : Nat) : Int) := by rw [IntKind.wrap_i64]; omega
  generalize s.size + t.size = N at *
  generalize N / 32 = d at *
  have ta := as_string
  clear h
  go_enter Try.func22, Try.ntmps22
  go_wp2_with fail
  go_quiet (fail)
  go_wp2_with (first | (go_at_call 21; refine (a1 _).mono ?_; rintro e w' ⟨rfl, rfl⟩) | (go_at_call 24; refine (a2 _).mono ?_; rintro e w' ⟨rfl, rfl⟩) | (go_at_call 23; refine (a3 _).mono ?_; rintro e w' ⟨err, rfl, b1, b2, b3⟩))
  first | go_ret2 | go_ret
  exact ⟨err, rfl, b1, b2, ((Keep.refl bb w).drewN _).trans b3⟩

theorem st_any (w : World) : Calls Try.prog 20 #[.func (.func 21) #[] #[]] w fun e w' => e = .returned (.func (.func 22) #[] #[.pointer (some ⟨w.heap.size, 0, none⟩)]) ∧ w' = w.alloc (.cells #[.func (.func 21) #[] #[]] 26) := by
  go_enter Try.func20, Try.ntmps20
  go_wp2
  go_ret
  exact ⟨rfl, rfl⟩

/-- What a run hands out. -/
def runVal (s t : ByteArray) (v steps : Int) : Value :=
  if v < 0 then .agg #[.bool (hp s t), .bool true, .bool true, .bool true, .int .i64 steps, .int .i64 v] else .agg #[.bool (hp s t), .bool true, .bool false, .bool false, .int .i64 0, .int .i64 v]

theorem put6 {w : World} {r : Nat} {v0 v1 v2 v3 v4 v5 : Value} (u0 u1 u2 u3 u4 u5 : Value) (o : Obj) (h : w.heap[r]? = some (.cells #[v0, v1, v2, v3, v4, v5] 29 (0, 0))) :
    (((((((w.setCell ⟨r, 0, none⟩ u0).setCell ⟨r, 1, none⟩ u1).setCell ⟨r, 2, none⟩ u2).setCell ⟨r, 3, none⟩ u3).setCell ⟨r, 4, none⟩ u4).setCell ⟨r, 5, none⟩ u5).alloc o).heap[r]? = some (.cells #[u0, u1, u2, u3, u4, u5] 29 (0, 0)) := by
  have s0 := heap_setCell_same w r 0 _ 29 u0 h
  have s1 := heap_setCell_same _ r 1 _ 29 u1 s0
  have s2 := heap_setCell_same _ r 2 _ 29 u2 s1
  have s3 := heap_setCell_same _ r 3 _ 29 u3 s2
  have s4 := heap_setCell_same _ r 4 _ 29 u4 s3
  have s5 := heap_setCell_same _ r 5 _ 29 u5 s4
  rw [Below.heap_alloc _ _ _ (Array.getElem?_eq_some_iff.1 s5).1, s5]
  rfl

set_option maxHeartbeats 2000000 in
theorem run_any (k bb : Nat) (s t : ByteArray) (left steps : Int) (w : World) (h : Bud w k bb left steps) (hs : s.size + t.size ≤ 1048576) (hl : -9223372036854775808 ≤ left - ((s.size + t.size) / 32 : Nat)) (hu : left ≤ 9223372036854775807) :
    Calls Try.prog 19 #[.pointer (some ⟨k, 0, none⟩), .string s, .string t] w fun e w' => e = .returned (runVal s t (left - ((s.size + t.size) / 32 : Nat)) steps) ∧ Bud w' k bb (left - ((s.size + t.size) / 32 : Nat)) steps ∧ Keep bb w w' := by
  have ta := as_bool
  have tb := as_err
  obtain ⟨w0, e0⟩ : ∃ w0, ((w.alloc (.cells #[.bool false, .bool false, .bool false, .bool false, .int .i64 0, .int .i64 0] 29)).alloc (.cells #[.func (.func 21) #[] #[]] 26)).alloc (.cells #[.iface 9 (.string s), .iface 9 (.string t)] 20) = w0 := ⟨_, rfl⟩
  have hb0 : Below w.heap.size w w0 := by rw [← e0]; exact ((((Below.refl _ w).alloc (Nat.le_refl _) _).alloc (by simp) _).alloc (by simp; omega) _)
  have r0 : w0.heap[w.heap.size]? = some (.cells #[.bool false, .bool false, .bool false, .bool false, .int .i64 0, .int .i64 0] 29 (0, 0)) := by
    rw [← e0, Below.heap_alloc _ _ _ (by simp; omega), Below.heap_alloc _ _ _ (by simp), heap_alloc_new]
  have r1 : w0.heap[w.heap.size + 1]? = some (.cells #[.func (.func 21) #[] #[]] 26 (0, 0)) := by
    rw [← e0, Below.heap_alloc _ _ _ (by simp)]
    have := heap_alloc_new (w.alloc (.cells #[.bool false, .bool false, .bool false, .bool false, .int .i64 0, .int .i64 0] 29)) (.cells #[.func (.func 21) #[] #[]] 26)
    simpa using this
  have r2 : w0.heap[w.heap.size + 1 + 1]? = some (.cells #[.iface 9 (.string s), .iface 9 (.string t)] 20 (0, 0)) := by
    rw [← e0]
    have := heap_alloc_new ((w.alloc (.cells #[.bool false, .bool false, .bool false, .bool false, .int .i64 0, .int .i64 0] 29)).alloc (.cells #[.func (.func 21) #[] #[]] 26)) (.cells #[.iface 9 (.string s), .iface 9 (.string t)] 20)
    simpa using this
  have hc := clo_any k bb (w.heap.size + 1 + 1) (w.heap.size + 1) s t left steps w0 (h.below hb0) hs hl hu (by rw [Lib.cell_of_heap r2]; rfl) (by rw [Lib.cell_of_heap r2]; rfl) (by rw [Lib.cell_of_heap r1]; rfl)
  have hbb := h.blt
  have hr0 : w.heap.size < w0.heap.size := (Array.getElem?_eq_some_iff.1 r0).1
  generalize (s.size + t.size) / 32 = d at *
  generalize left - (d : Int) = v at *
  go_enter Try.func19, Try.ntmps19
  go_upto_region 2 with (first | (go_at_call 20; refine (st_any _).mono ?_; rintro e w' ⟨rfl, rfl⟩) | (go_at_call 22; refine hc.mono ?_; clear hc; rintro e w1 ⟨err, rfl, b1, b2, b3⟩))
  have r3 := (b3.block _ hr0 (by omega)).trans r0
  have hlt : w.heap.size < w1.heap.size := Nat.lt_of_lt_of_le hr0 b3.size
  have hkk : Keep bb w w1 := (Keep.of_below hb0).trans b3
  have x0 := b2.ev
  have x1 := b2.c0
  have y1 := b2.lt
  have y2 := b2.blt
  have y3 := b2.ne
  have hkl := h.lt
  clear r0 r1 r2 e0 hb0 hr0 b3 h
  have q0 : w1.cell? ⟨w.heap.size, 0, none⟩ = some (.bool false) := by rw [Lib.cell_of_heap r3]; rfl
  have q1 : w1.cell? ⟨w.heap.size, 1, none⟩ = some (.bool false) := by rw [Lib.cell_of_heap r3]; rfl
  have q2 : w1.cell? ⟨w.heap.size, 2, none⟩ = some (.bool false) := by rw [Lib.cell_of_heap r3]; rfl
  have q3 : w1.cell? ⟨w.heap.size, 3, none⟩ = some (.bool false) := by rw [Lib.cell_of_heap r3]; rfl
  have q4 : w1.cell? ⟨w.heap.size, 4, none⟩ = some (.int .i64 0) := by rw [Lib.cell_of_heap r3]; rfl
  have q5 : w1.cell? ⟨w.heap.size, 5, none⟩ = some (.int .i64 0) := by rw [Lib.cell_of_heap r3]; rfl
  have z : ∀ i, w1.frozen? ⟨w.heap.size, i, none⟩ = false := fun i => by simp [World.frozen?, r3]
  have fin : ∀ u0 u1 u2 u3 u4 u5 o, Below w.heap.size w1 ((((((((w1.setCell ⟨w.heap.size, 0, none⟩ u0).setCell ⟨w.heap.size, 1, none⟩ u1).setCell ⟨w.heap.size, 2, none⟩ u2).setCell ⟨w.heap.size, 3, none⟩ u3).setCell ⟨w.heap.size, 4, none⟩ u4).setCell ⟨w.heap.size, 5, none⟩ u5)).alloc o) := fun u0 u1 u2 u3 u4 u5 o => by
    have h0 := (((((((Below.refl w.heap.size w1).setCell (p := ⟨w.heap.size, 0, none⟩) (Nat.le_refl _) u0).setCell (p := ⟨w.heap.size, 1, none⟩) (Nat.le_refl _) u1).setCell (p := ⟨w.heap.size, 2, none⟩) (Nat.le_refl _) u2).setCell (p := ⟨w.heap.size, 3, none⟩) (Nat.le_refl _) u3).setCell (p := ⟨w.heap.size, 4, none⟩) (Nat.le_refl _) u4).setCell (p := ⟨w.heap.size, 5, none⟩) (Nat.le_refl _) u5)
    exact h0.alloc (Nat.le_trans (Nat.le_of_lt hlt) h0.size) o
  rcases b1 with ⟨hv, p, rfl, hp0, hp1⟩ | ⟨hv, rfl⟩
  · go_wp2
    have fW := put6 (.bool (hp s t)) (.bool true) (.bool true) (.bool true) (.int .i64 steps) (.int .i64 v) (.cells #[.bool (hp s t), .bool true, .bool true, .bool true, .int .i64 steps, .int .i64 v] 29) r3
    have fF := fin (.bool (hp s t)) (.bool true) (.bool true) (.bool true) (.int .i64 steps) (.int .i64 v) (.cells #[.bool (hp s t), .bool true, .bool true, .bool true, .int .i64 steps, .int .i64 v] 29)
    generalize ((((((w1.setCell ⟨w.heap.size, 0, none⟩ (.bool (hp s t))).setCell ⟨w.heap.size, 1, none⟩ (.bool true)).setCell ⟨w.heap.size, 2, none⟩ (.bool true)).setCell ⟨w.heap.size, 3, none⟩ (.bool true)).setCell ⟨w.heap.size, 4, none⟩ (.int .i64 steps)).setCell ⟨w.heap.size, 5, none⟩ (.int .i64 v)).alloc (.cells #[.bool (hp s t), .bool true, .bool true, .bool true, .int .i64 steps, .int .i64 v] 29) = w2 at fW fF ⊢
    clear q0 q1 q2 q3 q4 q5 z x0 x1
    have q0 : w2.cell? ⟨w.heap.size, 0, none⟩ = some (.bool (hp s t)) := by rw [Lib.cell_of_heap fW]; rfl
    have q1 : w2.cell? ⟨w.heap.size, 1, none⟩ = some (.bool true) := by rw [Lib.cell_of_heap fW]; rfl
    have q2 : w2.cell? ⟨w.heap.size, 2, none⟩ = some (.bool true) := by rw [Lib.cell_of_heap fW]; rfl
    have q3 : w2.cell? ⟨w.heap.size, 3, none⟩ = some (.bool true) := by rw [Lib.cell_of_heap fW]; rfl
    have q4 : w2.cell? ⟨w.heap.size, 4, none⟩ = some (.int .i64 steps) := by rw [Lib.cell_of_heap fW]; rfl
    have q5 : w2.cell? ⟨w.heap.size, 5, none⟩ = some (.int .i64 v) := by rw [Lib.cell_of_heap fW]; rfl
    refine bodyPost_ret (by simp [results, Try.results19, go_sem, q0, q1, q2, q3, q4, q5]; try rfl) rfl ?_
    exact ⟨by rw [runVal, if_pos hv], b2.frame hkl hbb fF, hkk.on fF⟩
  · go_wp2
    have fW := put6 (.bool (hp s t)) (.bool true) (.bool false) (.bool false) (.int .i64 0) (.int .i64 v) (.cells #[.bool (hp s t), .bool true, .bool false, .bool false, .int .i64 0, .int .i64 v] 29) r3
    have fF := fin (.bool (hp s t)) (.bool true) (.bool false) (.bool false) (.int .i64 0) (.int .i64 v) (.cells #[.bool (hp s t), .bool true, .bool false, .bool false, .int .i64 0, .int .i64 v] 29)
    generalize ((((((w1.setCell ⟨w.heap.size, 0, none⟩ (.bool (hp s t))).setCell ⟨w.heap.size, 1, none⟩ (.bool true)).setCell ⟨w.heap.size, 2, none⟩ (.bool false)).setCell ⟨w.heap.size, 3, none⟩ (.bool false)).setCell ⟨w.heap.size, 4, none⟩ (.int .i64 0)).setCell ⟨w.heap.size, 5, none⟩ (.int .i64 v)).alloc (.cells #[.bool (hp s t), .bool true, .bool false, .bool false, .int .i64 0, .int .i64 v] 29) = w2 at fW fF ⊢
    clear q0 q1 q2 q3 q4 q5 z x0 x1
    have q0 : w2.cell? ⟨w.heap.size, 0, none⟩ = some (.bool (hp s t)) := by rw [Lib.cell_of_heap fW]; rfl
    have q1 : w2.cell? ⟨w.heap.size, 1, none⟩ = some (.bool true) := by rw [Lib.cell_of_heap fW]; rfl
    have q2 : w2.cell? ⟨w.heap.size, 2, none⟩ = some (.bool false) := by rw [Lib.cell_of_heap fW]; rfl
    have q3 : w2.cell? ⟨w.heap.size, 3, none⟩ = some (.bool false) := by rw [Lib.cell_of_heap fW]; rfl
    have q4 : w2.cell? ⟨w.heap.size, 4, none⟩ = some (.int .i64 0) := by rw [Lib.cell_of_heap fW]; rfl
    have q5 : w2.cell? ⟨w.heap.size, 5, none⟩ = some (.int .i64 v) := by rw [Lib.cell_of_heap fW]; rfl
    refine bodyPost_ret (by simp [results, Try.results19, go_sem, q0, q1, q2, q3, q4, q5]; try rfl) rfl ?_
    exact ⟨by rw [runVal, if_neg (by omega)], b2.frame hkl hbb fF, hkk.on fF⟩
end Go.Proofs.Qxb6615507a

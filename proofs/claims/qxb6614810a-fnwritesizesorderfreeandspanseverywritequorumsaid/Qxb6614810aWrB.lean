/-
  WALKS: namedSets.len, namedSets.set, namedSets.lists.
-/
import Derived.Test.Qxb6614810aWrA
namespace Go.Proofs.Qxb6614810a
open Go.RowKit

theorem len_any (sb so ne ce : Nat) (ae : Option Addr) (w : World) (hc : w.cell? ⟨sb, so + 2, none⟩ = some (.slice ae ne ce)) :
    Calls Try.prog 32 #[.pointer (some ⟨sb, so, none⟩)] w fun e w' => e = .returned (.int .i64 ne) ∧ w' = w := by
  go_enter Try.func32, Try.ntmps32
  go_wp2
  go_ret
  exact ⟨rfl, rfl⟩

/-- The cells of a namedSets, and what its three slices hold. -/
structure Sets (w : World) (sb so : Nat) (an ai ae : Option Addr) (nn cn nd cd ne ce : Nat) (N : Nat → ByteArray) (D P : Nat → Nat) : Prop where
  names : w.cell? ⟨sb, so, none⟩ = some (.slice an nn cn)
  ids : w.cell? ⟨sb, so + 1, none⟩ = some (.slice ai nd cd)
  ends : w.cell? ⟨sb, so + 2, none⟩ = some (.slice ae ne ce)
  rowN : RowAt w an nn fun i => .string (N i)
  rowD : RowAt w ai nd fun i => .int .i32 (D i : Int)
  rowE : RowAt w ae ne fun i => .int .i64 (P (i + 1) : Int)
  cap : nd ≤ cd
  zero : P 0 = 0
  mono : ∀ j, j < ne → P j ≤ P (j + 1)
  last : P ne = nd
  within : ∀ p, p < nd → D p < nn

theorem Sets.le {w : World} {sb so : Nat} {an ai ae : Option Addr} {nn cn nd cd ne ce : Nat} {N : Nat → ByteArray} {D P : Nat → Nat} (h : Sets w sb so an ai ae nn cn nd cd ne ce N D P) : ∀ k j, j + k = ne → P j ≤ nd
  | 0, j, hj => by rw [← h.last]; rw [← hj]; exact Nat.le_refl _
  | k + 1, j, hj => Nat.le_trans (h.mono j (by omega)) (h.le k (j + 1) (by omega))

theorem RowAt.drop {w : World} {ao : Option Addr} {n m lo : Nat} {v : Nat → Value} (h : RowAt w ao n v) (hm : lo + m ≤ n) : RowAt w (ao.map fun x => x.add lo) m (fun i => v (lo + i)) := by
  by_cases h0 : m = 0
  · exact .inl h0
  · obtain ⟨b, o, rfl, hlt, hc⟩ := h.pos (by omega)
    refine .inr ⟨b, o + lo, by simp [add_none], hlt, fun i hi => ?_⟩
    rw [Nat.add_assoc]
    exact hc (lo + i) (by omega)

set_option maxHeartbeats 1000000 in
theorem set_any (sb so j : Nat) (an ai ae : Option Addr) (nn cn nd cd ne ce : Nat) (N : Nat → ByteArray) (D P : Nat → Nat) (w : World) (h : Sets w sb so an ai ae nn cn nd cd ne ce N D P) (hj : j < ne) (hm2 : ne ≤ 131072) :
    Calls Try.prog 33 #[.pointer (some ⟨sb, so, none⟩), .int .i64 j] w fun e w' => ∃ a', e = .returned (.slice a' (P (j + 1) - P j) (P (j + 1) - P j)) ∧ (∀ w0, RowAt w0 ai nd (fun i => .int .i32 (D i : Int)) → RowAt w0 a' (P (j + 1) - P j) (fun i => .int .i32 (D (P j + i) : Int))) ∧ ∃ q, w' = w.drewN q := by
  obtain ⟨be, oe, rfl, _, hce⟩ := h.rowE.pos (by omega)
  have h1 := h.ids
  have h2 := h.ends
  have h3 : w.cell? ⟨be, oe + j, none⟩ = some (.int .i64 (P (j + 1) : Int)) := hce j hj
  have hm := h.mono j hj
  have hle := h.le (ne - (j + 1)) (j + 1) (by omega)
  have hcap := h.cap
  by_cases h0 : j = 0
  · have HP0 : Hid (P j = 0) := by rw [h0]; exact h.zero
    have hdrop := fun w0 (hr : RowAt w0 ai nd (fun i => .int .i32 (D i : Int))) => hr.less (m := P (j + 1)) hle
    have hg : decide (0 < j) = false := by simp [h0]
    clear h hm h0
    go_enter Try.func33, Try.ntmps33
    go_wp2
    go_quiet (fail)
    go_wp2
    go_ret
    rw [HP0.out, Nat.sub_zero]
    exact ⟨ai, rfl, fun w0 hr => by simpa using hdrop w0 hr, _, rfl⟩
  · have h4 : w.cell? ⟨be, oe + (j - 1), none⟩ = some (.int .i64 (P j : Int)) := by have := hce (j - 1) (by omega); rwa [show j - 1 + 1 = j by omega] at this
    have hd' : decide (0 < j) = true := by simp; omega
    have hjp : 0 < j := by omega
    have hdrop := fun w0 (hr : RowAt w0 ai nd (fun i => .int .i32 (D i : Int))) => hr.drop (lo := P j) (m := P (j + 1) - P j) (by omega)
    clear h
    go_enter Try.func33, Try.ntmps33
    go_wp2
    go_quiet (fail)
    go_wp2
    · go_ret
      exact ⟨ai, rfl, fun _ _ => .inl rfl, _, rfl⟩
    · go_ret
      exact ⟨_, rfl, hdrop, _, rfl⟩

/-! ### lists -/
theorem info31 : (Try.prog.info? 31).map (fun i => (i.zero, i.size, i.bytes)) = some (some (.slice none 0 0), 1, 24) := by kernel_rfl
theorem info9 : (Try.prog.info? 9).map (fun i => (i.zero, i.size, i.bytes)) = some (some (.string ByteArray.empty), 1, 16) := by kernel_rfl

/-- n lists of strings from ao on: list j has 'ln j' strings, S j i. -/
def ListsAt (w : World) (ao : Option Addr) (n : Nat) (ln : Nat → Nat) (S : Nat → Nat → ByteArray) : Prop :=
  ∃ g : Nat → Nat, RowAt w ao n (fun j => .slice (some ⟨g j, 0, none⟩) (ln j) (ln j)) ∧ ∀ j, j < n → RowAt w (some ⟨g j, 0, none⟩) (ln j) (fun i => .string (S j i))

/-- The k lists that have been made, in the row G of n. -/
def Made (w : World) (G n k : Nat) (ln : Nat → Nat) (S : Nat → Nat → ByteArray) : Prop :=
  ∃ (g : Nat → Nat) (cur : List Value), cur.length = n ∧ w.heap[G]? = some (.cells cur.toArray 31 (0, 0)) ∧ (∀ j, j < k → cur[j]? = some (.slice (some ⟨g j, 0, none⟩) (ln j) (ln j))) ∧ ∀ j, j < k → G < g j ∧ RowAt w (some ⟨g j, 0, none⟩) (ln j) (fun i => .string (S j i))

theorem Made.below {w w' : World} {G n k : Nat} {ln : Nat → Nat} {S : Nat → Nat → ByteArray} (h : Made w G n k ln S) (hb : Below w.heap.size w w') : Made w' G n k ln S := by
  obtain ⟨g, cur, h1, h2, h3, h4⟩ := h
  exact ⟨g, cur, h1, (hb.block G (lt_of_block h2)).trans h2, h3, fun j hj => ⟨(h4 j hj).1, (h4 j hj).2.below (Nat.le_refl _) hb⟩⟩
theorem Made.all {w : World} {G n : Nat} {ln : Nat → Nat} {S : Nat → Nat → ByteArray} (h : Made w G n n ln S) : ListsAt w (some ⟨G, 0, none⟩) n ln S := by
  obtain ⟨g, cur, h1, h2, h3, h4⟩ := h
  refine ⟨g, .inr ⟨G, 0, rfl, lt_of_block h2, fun i hi => ?_⟩, fun j hj => (h4 j hj).2⟩
  rw [Nat.zero_add, cell_of_row _ _ _ _ _ _ h2, List.getElem?_toArray]
  exact h3 i hi

theorem Sets.below {w w' : World} {sb so : Nat} {an ai ae : Option Addr} {nn cn nd cd ne ce : Nat} {N : Nat → ByteArray} {D P : Nat → Nat} (h : Sets w sb so an ai ae nn cn nd cd ne ce N D P) (hsb : sb < w.heap.size) (hb : Below w.heap.size w w') : Sets w' sb so an ai ae nn cn nd cd ne ce N D P :=
  ⟨(hb.cell (p := ⟨sb, so, none⟩) hsb).trans h.names, (hb.cell (p := ⟨sb, so + 1, none⟩) hsb).trans h.ids, (hb.cell (p := ⟨sb, so + 2, none⟩) hsb).trans h.ends,
    h.rowN.below (Nat.le_refl _) hb, h.rowD.below (Nat.le_refl _) hb, h.rowE.below (Nat.le_refl _) hb, h.cap, h.zero, h.mono, h.last, h.within⟩

/-- A row of strings of which the first t have been laid. -/
def Laid (w : World) (g n t : Nat) (v : Nat → ByteArray) : Prop := ∃ c : List Value, c.length = n ∧ w.heap[g]? = some (.cells c.toArray 9 (0, 0)) ∧ ∀ i, i < t → c[i]? = some (.string (v i))
theorem Laid.all {w : World} {g n : Nat} {v : Nat → ByteArray} (h : Laid w g n n v) : RowAt w (some ⟨g, 0, none⟩) n (fun i => .string (v i)) := by
  obtain ⟨c, h1, h2, h3⟩ := h
  refine .inr ⟨g, 0, rfl, lt_of_block h2, fun i hi => ?_⟩
  rw [Nat.zero_add, cell_of_row _ _ _ _ _ _ h2, List.getElem?_toArray]
  exact h3 i hi
theorem Laid.step {w : World} {g n t : Nat} {v : Nat → ByteArray} (h : Laid w g n t v) (ht : t < n) : Laid (w.setCell ⟨g, t, none⟩ (.string (v t))) g n (t + 1) v := by
  obtain ⟨c, h1, h2, h3⟩ := h
  refine ⟨c.set t (.string (v t)), by simpa using h1, by rw [heap_setCell_same w g t c.toArray 9 _ h2]; simp, fun i hi => ?_⟩
  rw [List.getElem?_set]
  by_cases e : t = i
  · subst e; rw [if_pos rfl, if_pos (by omega)]
  · rw [if_neg e]; exact h3 i (by omega)
theorem Laid.cell {w : World} {g n t : Nat} {v : Nat → ByteArray} (h : Laid w g n t v) {i : Nat} (hi : i < n) : (∃ u, w.cell? ⟨g, i, none⟩ = some u) ∧ w.frozen? ⟨g, i, none⟩ = false := by
  obtain ⟨c, h1, h2, h3⟩ := h
  rw [cell_of_row _ _ _ _ _ _ h2, List.getElem?_toArray, List.getElem?_eq_getElem (by omega)]
  exact ⟨⟨_, rfl⟩, frozen_of_row _ _ _ _ _ h2⟩
theorem Made.cell {w : World} {G n k : Nat} {ln : Nat → Nat} {S : Nat → Nat → ByteArray} (h : Made w G n k ln S) {i : Nat} (hi : i < n) : (∃ u, w.cell? ⟨G, i, none⟩ = some u) ∧ w.frozen? ⟨G, i, none⟩ = false := by
  obtain ⟨g, c, h1, h2, h3, _⟩ := h
  rw [cell_of_row _ _ _ _ _ _ h2, List.getElem?_toArray, List.getElem?_eq_getElem (by omega)]
  exact ⟨⟨_, rfl⟩, frozen_of_row _ _ _ _ _ h2⟩
/-- One list more. -/
theorem Made.step {w w2 w3 : World} {G n k gk : Nat} {ln : Nat → Nat} {S : Nat → Nat → ByteArray} (h : Made w G n k ln S) (hk : k < n) (hgk : w.heap.size ≤ gk) (hb : Below w.heap.size w w2)
    (hb3 : Below gk (w2.setCell ⟨G, k, none⟩ (.slice (some ⟨gk, 0, none⟩) (ln k) (ln k))) w3) (hl : RowAt w3 (some ⟨gk, 0, none⟩) (ln k) (fun i => .string (S k i))) : Made w3 G n (k + 1) ln S := by
  obtain ⟨g, c, h1, h2, h3, h4⟩ := h
  have hG := lt_of_block h2
  have h2' : w2.heap[G]? = some (.cells c.toArray 31 (0, 0)) := (hb.block G hG).trans h2
  refine ⟨fun j => if j = k then gk else g j, c.set k (.slice (some ⟨gk, 0, none⟩) (ln k) (ln k)), by simpa using h1, ?_, ?_, ?_⟩
  · rw [hb3.block G (by omega), heap_setCell_same w2 G k c.toArray 31 _ h2']; simp
  · intro j hj
    rw [List.getElem?_set]
    by_cases e : k = j
    · subst e; rw [if_pos rfl, if_pos (by omega)]; simp
    · rw [if_neg e]; dsimp only; rw [if_neg (by omega)]; exact h3 j (by omega)
  · intro j hj
    dsimp only
    by_cases e : j = k
    · subst e; simp only [if_pos]; exact ⟨by omega, hl⟩
    · rw [if_neg e]
      obtain ⟨h5, h6⟩ := h4 j (by omega)
      refine ⟨h5, ?_⟩
      rcases h6 with h6 | ⟨b, o, hbo, hlt, hc⟩
      · exact .inl h6
      · simp only [Option.some.injEq, Addr.mk.injEq, and_true] at hbo
        obtain ⟨rfl, rfl⟩ := hbo
        refine .inr ⟨_, _, rfl, Nat.lt_of_lt_of_le (by omega) (Nat.le_trans hb.size (by have := hb3.size; simp at this; exact this)), fun i hi => ?_⟩
        rw [hb3.cell (p := ⟨g j, 0 + i, none⟩) (by simp; omega), World.cell?_of_block (heap_setCell_other _ _ _ _ (by simp; omega)), hb.cell (p := ⟨g j, 0 + i, none⟩) hlt]
        exact hc i hi

set_option maxHeartbeats 1000000 in
theorem lists_any (sb so : Nat) (an ai ae : Option Addr) (nn cn nd cd ne ce : Nat) (N : Nat → ByteArray) (D P : Nat → Nat) (w : World) (h : Sets w sb so an ai ae nn cn nd cd ne ce N D P) (hm0 : nn ≤ 131072) (hm1 : nd ≤ 131072) (hm2 : ne ≤ 131072) (hsb : sb < w.heap.size) :
    Calls Try.prog 29 #[.pointer (some ⟨sb, so, none⟩)] w fun e w' => e = .returned (.slice (some ⟨w.heap.size, 0, none⟩) ne ne) ∧ ListsAt w' (some ⟨w.heap.size, 0, none⟩) ne (fun j => P (j + 1) - P j) (fun j i => N (D (P j + i))) ∧ Below w.heap.size w w' := by
  obtain ⟨i31, hi, hz0, hz1, hz2⟩ := info_parts info31
  obtain ⟨i9, gi, gz0, gz1, gz2⟩ := info_parts info9
  go_enter Try.func29, Try.ntmps29
  go_wp2_with (first
    | (go_at_call 32; refine (len_any sb so ne ce ae _ h.ends).mono ?_; rintro e w' ⟨rfl, hw'⟩; rw [hw'])
    | (at_make; refine wpList_make_row _ rfl (.tmp 9) 35 rfl 31 i31 _ Try.underlying35 hi hz0 hz1 .i64 _ ne rfl rfl (by rw [hz2]; omega) (by unfold maxLen; omega) w.heap.size w (by exact Below.refl _ _) (Nat.le_refl _) ?_; intro w1 cur1 hl1 hg1 hb1 _ hs1))
  go_loopw [4, 5, 6, 7, 13] (fun _ _ _ _ i wr => ∃ k : Nat, k ≤ ne ∧ i = .int .i64 k ∧ Made wr w.heap.size ne k (fun j => P (j + 1) - P j) (fun j i => N (D (P j + i))) ∧ Below w.heap.size w wr) (fun _ _ _ _ i _ => ne - (intOf i).toNat)
  case atStart => exact ⟨0, by omega, rfl, ⟨fun _ => 0, cur1, hl1, hg1.out, fun _ h => by omega, fun _ h => by omega⟩, hb1⟩
  case round =>
    obtain ⟨k, hk, rfl, hmade, hb⟩ := hrel
    by_cases hlt : k < ne
    · have hS := h.below hsb hb
      have hmono := hS.mono k hlt
      have hle := hS.le (ne - (k + 1)) (k + 1) (by omega)
      have hG : w.heap.size < wr.heap.size := by obtain ⟨_, _, _, h2, _⟩ := hmade; exact lt_of_block h2
      go_wp2_with (first
        | (go_at_call 33; refine (set_any sb so k an ai ae nn cn nd cd ne ce N D P _ hS hlt hm2).mono ?_; rintro e w' ⟨a', rfl, hids, q, rfl⟩)
        | (at_make; refine wpList_make_row _ rfl (.tmp 22) 31 rfl 9 i9 _ Try.underlying31 gi gz0 gz1 .i64 _ (P (k + 1) - P k) rfl rfl (by rw [gz2]; omega) (by unfold maxLen; omega) wr.heap.size wr (by exact below_drewN (Below.refl _ _) q) (Nat.le_refl _) ?_; intro w2 cur2 hl2 hg2 hb2 _ hs2; obtain ⟨⟨uG, hcG⟩, hfG⟩ := (hmade.below hb2).cell hlt))
      have hidw := hids w h.rowD
      have hlaid : Laid (w2.setCell ⟨w.heap.size, k, none⟩ (.slice (some ⟨wr.heap.size, 0, none⟩) (P (k + 1) - P k) (P (k + 1) - P k))) wr.heap.size (P (k + 1) - P k) 0 (fun i => N (D (P k + i))) :=
        ⟨cur2, hl2, by rw [heap_setCell_other _ _ _ _ (by simp; omega)]; exact hg2.out, fun _ h => by omega⟩
      have hst := fun (w5 : World) (hb5 : Below wr.heap.size (w2.setCell ⟨w.heap.size, k, none⟩ (.slice (some ⟨wr.heap.size, 0, none⟩) (P (k + 1) - P k) (P (k + 1) - P k))) w5) (hl5 : RowAt w5 (some ⟨wr.heap.size, 0, none⟩) (P (k + 1) - P k) (fun i => .string (N (D (P k + i))))) =>
        hmade.step (w2 := w2) (w3 := w5) (gk := wr.heap.size) hlt (Nat.le_refl _) hb2 hb5 hl5
      have hcell : (w2.setCell ⟨w.heap.size, k, none⟩ (.slice (some ⟨wr.heap.size, 0, none⟩) (P (k + 1) - P k) (P (k + 1) - P k))).cell? ⟨w.heap.size, k, none⟩ = some (.slice (some ⟨wr.heap.size, 0, none⟩) (P (k + 1) - P k) (P (k + 1) - P k)) := World.cell?_setCell_same' _ _ _ (by rw [hcG]; rfl)
      have hbw : Below w.heap.size w (w2.setCell ⟨w.heap.size, k, none⟩ (.slice (some ⟨wr.heap.size, 0, none⟩) (P (k + 1) - P k) (P (k + 1) - P k))) := (hb.trans (hb2.mono hb.size)).setCell (Nat.le_refl _) _
      clear hids hcG hfG hg2 hl2 hS hmade hb
      have HST : Hid (∀ (w5 : World), Below wr.heap.size (w2.setCell ⟨w.heap.size, k, none⟩ (.slice (some ⟨wr.heap.size, 0, none⟩) (P (k + 1) - P k) (P (k + 1) - P k))) w5 → RowAt w5 (some ⟨wr.heap.size, 0, none⟩) (P (k + 1) - P k) (fun i => .string (N (D (P k + i)))) → Made w5 w.heap.size ne (k + 1) (fun j => P (j + 1) - P j) (fun j i => N (D (P j + i)))) := hst
      clear hst
      generalize w2.setCell ⟨w.heap.size, k, none⟩ (.slice (some ⟨wr.heap.size, 0, none⟩) (P (k + 1) - P k) (P (k + 1) - P k)) = w3 at HST hlaid hcell hbw ⊢
      generalize wr.heap.size = gk at HST hlaid hcell hG ⊢
      generalize hln : P (k + 1) - P k = ln at HST hlaid hcell hidw ⊢
      have HLN : Hid (P (k + 1) - P k = ln) := hln
      have hln2 : ln ≤ 131072 := by omega
      clear hln hmono hle
      go_loopw [6, 7, 27] (fun _ _ i wi => ∃ t : Nat, t ≤ ln ∧ i = .int .i64 t ∧ Laid wi gk ln t (fun i => N (D (P k + i))) ∧ Below gk w3 wi) (fun _ _ i _ => ln - (intOf i).toNat)
      case atStart => exact ⟨0, by omega, rfl, hlaid, Below.refl _ _⟩
      case round =>
        obtain ⟨t, ht, rfl, hlt2, hb3⟩ := hrel
        have hbi : Below w.heap.size w wr := hbw.trans (hb3.mono (by omega))
        by_cases htl : t < ln
        · have hSi := h.below hsb hbi
          obtain ⟨bi, oi, rfl, _, hci⟩ := (hidw.below (Nat.le_refl _) hbi).pos (by omega)
          have hc1 : wr.cell? ⟨bi, oi + t, none⟩ = some (.int .i32 (D (P k + t) : Int)) := hci t htl
          have hdn : D (P k + t) < nn := hSi.within _ (by have := HLN.out; have := hSi.le (ne - (k + 1)) (k + 1) (by omega); omega)
          obtain ⟨bn, on, rfl, _, hcn⟩ := hSi.rowN.pos (by omega)
          have hc2 := hcn (D (P k + t)) hdn
          have hc3 := hSi.names
          have hc4 : wr.cell? ⟨w.heap.size, k, none⟩ = some (.slice (some ⟨gk, 0, none⟩) ln ln) := (hb3.cell (p := ⟨w.heap.size, k, none⟩) (by simpa using hG)).trans hcell
          obtain ⟨⟨u, hc5⟩, hf5⟩ := hlt2.cell htl
          have hstep := hlt2.step htl
          clear hci hcn hSi hbi
          go_wp2
          go_region
          all_goals
            go_wp2
            go_roundw
            case rel => exact ⟨t + 1, by omega, by go_num, hstep, (hb3.setCell (Nat.le_refl _) _).drew⟩
            case measure => simp [intOf]; omega
        · obtain rfl : t = ln := by omega
          have hM := HST.out wr hb3 hlt2.all
          go_wp2
          go_roundw
          case rel => exact ⟨k + 1, by omega, by go_num, hM, hbi⟩
          case measure => simp [intOf]; omega
    · obtain rfl : k = ne := by omega
      go_wp2
      go_ret
      exact ⟨rfl, hmade.all, hb⟩
end Go.Proofs.Qxb6614810a

/-
  PLAIN LISTS AND NUMBERS for the laws on Lack.Slots: no program in it.
-/
import Derived.Laws.Bits64
import Derived.Laws.Bits64b
import Derived.Lib.TrailingZeros
namespace Go.Proofs.Qxb6614702aDoor
open Go

/-! ### Bits of a word -/
def bitsOf (x : Nat) : List Nat := (List.range 64).filter fun i => x.testBit i

def popTo (x : Nat) : Nat → Nat
  | 0 => 0
  | k + 1 => popTo x k + (if x.testBit k then 1 else 0)
theorem popTo_le (x k : Nat) : popTo x k ≤ k := by
  induction k with
  | zero => simp [popTo]
  | succ k ih => simp only [popTo]; split <;> omega
def pop (x : Nat) : Nat := popTo x 64
theorem pop_le (x : Nat) : pop x ≤ 64 := popTo_le x 64
theorem popTo_eq (x k : Nat) : popTo x k = ((List.range k).filter fun i => x.testBit i).length := by
  induction k with
  | zero => rfl
  | succ k ih =>
    rw [popTo, List.range_succ, List.filter_append, List.length_append, ih]
    congr 1
    cases h : x.testBit k <;> simp [h]
theorem pop_eq (x : Nat) : pop x = (bitsOf x).length := popTo_eq x 64

theorem bit_test (x k : Nat) (hx : x < 18446744073709551616) : (bits BinOp.and IntKind.u64 ((x : Int) / 2 ^ k) 1 == 1) = x.testBit k := by
  have e : ((x : Int) / 2 ^ k) = ((x / 2 ^ k : Nat) : Int) := by simp
  have hl : x / 2 ^ k < 18446744073709551616 := Nat.lt_of_le_of_lt (Nat.div_le_self _ _) hx
  rw [e, show (1 : Int) = ((1 : Nat) : Int) from rfl, bits_and_u64_nat _ 1 hl (by decide), Nat.testBit_eq_decide_div_mod_eq, Nat.and_one_is_mod]
  rw [Bool.eq_iff_iff]
  simp
  omega

theorem filter_first (p : Nat → Bool) (k : Nat) (hp : p k = true) (hlo : ∀ i, i < k → p i = false) :
    ∀ n, k < n → (List.range n).filter p = k :: (List.range n).filter (fun i => p i && !(i == k))
  | 0, h => by omega
  | n + 1, h => by
    rw [List.range_succ, List.filter_append, List.filter_append]
    by_cases hk : k = n
    · subst hk
      have e1 : (List.range k).filter p = [] := by
        rw [List.filter_eq_nil_iff]; intro a ha; rw [List.mem_range] at ha; simp [hlo a ha]
      have e2 : (List.range k).filter (fun i => p i && !(i == k)) = [] := by
        rw [List.filter_eq_nil_iff]; intro a ha; rw [List.mem_range] at ha; simp [hlo a ha]
      rw [e1, e2]
      simp [hp]
    · rw [filter_first p k hp hlo n (by omega)]
      have : (n == k) = false := by simp; omega
      simp [List.filter_cons, this]

theorem low_bits (x : Nat) (h0 : x ≠ 0) (hx : x < 18446744073709551616) :
    Lib.ctz 64 x < 64 ∧ x.testBit (Lib.ctz 64 x) = true ∧ (∀ i, i < Lib.ctz 64 x → x.testBit i = false) ∧ ∀ i, (x &&& (x - 1)).testBit i = (x.testBit i && !(i == Lib.ctz 64 x)) := by
  obtain ⟨m, hm, hk⟩ := Lib.ctzFrom_spec 64 x (by omega) hx
  have e : Lib.ctz 64 x = Lib.ctzFrom 64 x := by simp [Lib.ctz, h0]
  rw [e]
  generalize Lib.ctzFrom 64 x = k at hm hk
  have hb : ∀ i, x.testBit i = (decide (k ≤ i) && (2 * m + 1).testBit (i - k)) := by
    intro i; rw [hm, Nat.mul_comm, Nat.testBit_mul_two_pow]
  have hpos : 0 < 2 ^ k := Nat.two_pow_pos k
  have e1 : x - 1 = 2 ^ k * (2 * m) + (2 ^ k - 1) := by rw [hm, Nat.mul_add]; omega
  have hb1 : ∀ i, (x - 1).testBit i = if i < k then (2 ^ k - 1).testBit i else (2 * m).testBit (i - k) := by
    intro i; rw [e1]; exact Nat.testBit_two_pow_mul_add _ (by omega) i
  refine ⟨hk, ?_, ?_, ?_⟩
  · rw [hb]; simp
  · intro i hi; rw [hb]; simp; omega
  · intro i
    rw [Nat.testBit_and, hb1, hb i]
    by_cases h1 : i < k
    · have : decide (k ≤ i) = false := by simp; omega
      simp [this]
    · rw [if_neg h1]
      by_cases h2 : i = k
      · subst h2; simp
      · obtain ⟨j, rfl⟩ : ∃ j, i = k + (j + 1) := ⟨i - k - 1, by omega⟩
        have e3 : k + (j + 1) - k = j + 1 := by omega
        rw [e3, Nat.testBit_succ, Nat.testBit_succ]
        have d1 : (2 * m + 1) / 2 = m := by omega
        have d2 : 2 * m / 2 = m := by omega
        rw [d1, d2]
        have h3 : (k + (j + 1) == k) = false := by simp
        simp [h3]

theorem bitsOf_zero : bitsOf 0 = [] := by simp [bitsOf]
theorem bitsOf_step (x : Nat) (h0 : x ≠ 0) (hx : x < 18446744073709551616) : bitsOf x = Lib.ctz 64 x :: bitsOf (x &&& (x - 1)) := by
  obtain ⟨hk, hp, hlo, hand⟩ := low_bits x h0 hx
  unfold bitsOf
  rw [filter_first _ _ hp hlo 64 hk]
  congr 2
  funext i
  rw [hand i]
theorem bitsOf_eq_nil (x : Nat) (h0 : x ≠ 0) (hx : x < 18446744073709551616) : bitsOf x ≠ [] := by rw [bitsOf_step x h0 hx]; simp
theorem and_pred_lt (x : Nat) (hx : x < 18446744073709551616) : x &&& (x - 1) < 18446744073709551616 := Nat.lt_of_le_of_lt Nat.and_le_left hx

theorem and_step (x : Nat) (h0 : x ≠ 0) (hx : x < 18446744073709551616) : bits BinOp.and IntKind.u64 (x : Int) ((x : Int) - 1) = ((x &&& (x - 1) : Nat) : Int) := by
  have e : (x : Int) - 1 = ((x - 1 : Nat) : Int) := by omega
  rw [e, bits_and_u64_nat _ _ hx (by omega)]

/-! ### Slots of chunks -/
def slotsOf (c : Int × Nat) : List Int := (bitsOf c.2).map fun i : Nat => 64 * c.1 + (i : Int)
def slots (cs : List (Int × Nat)) : List Int := cs.flatMap slotsOf

theorem slots_append (a b : List (Int × Nat)) : slots (a ++ b) = slots a ++ slots b := by simp [slots]
theorem slots_cut (cs : List (Int × Nat)) (c : Nat) : slots (cs.take c) ++ slots (cs.drop c) = slots cs := by rw [← slots_append, List.take_append_drop]
def popsum (bs : List Nat) : Nat := (bs.map pop).sum
theorem slots_length (cs : List (Int × Nat)) : (slots cs).length = popsum (cs.map (·.2)) := by
  induction cs with
  | nil => rfl
  | cons c cs ih =>
    show (slotsOf c ++ slots cs).length = _
    rw [List.length_append, ih]
    simp [slotsOf, popsum, pop_eq]

def Valid (cs : List (Int × Nat)) : Prop := (∀ c ∈ cs, 0 ≤ c.1 ∧ c.1 < 16777216 ∧ c.2 ≠ 0 ∧ c.2 < 18446744073709551616) ∧ cs.Pairwise fun a b => a.1 < b.1

theorem mem_bitsOf {x i : Nat} : i ∈ bitsOf x ↔ i < 64 ∧ x.testBit i = true := by simp [bitsOf]
theorem mem_slotsOf {c : Int × Nat} {s : Int} (h : s ∈ slotsOf c) : ∃ i : Nat, i < 64 ∧ c.2.testBit i = true ∧ s = 64 * c.1 + (i : Int) := by
  simp only [slotsOf, List.mem_map] at h
  obtain ⟨i, hi, rfl⟩ := h
  exact ⟨i, (mem_bitsOf.1 hi).1, (mem_bitsOf.1 hi).2, rfl⟩
theorem slots_asc {cs : List (Int × Nat)} (h : cs.Pairwise fun a b => a.1 < b.1) : (slots cs).Pairwise (· < ·) := by
  unfold slots
  rw [List.pairwise_flatMap]
  refine ⟨fun c _ => ?_, h.imp_of_mem ?_⟩
  · unfold slotsOf
    rw [List.pairwise_map]
    refine (List.Pairwise.filter _ List.pairwise_lt_range).imp_of_mem ?_
    intro a b _ _ hab
    omega
  · intro a b _ _ hab x hx y hy
    obtain ⟨i, hi, _, rfl⟩ := mem_slotsOf hx
    obtain ⟨j, hj, _, rfl⟩ := mem_slotsOf hy
    omega
/-- Each slot names the place of its chunk. -/
theorem slots_mem {cs : List (Int × Nat)} {s : Int} (h : s ∈ slots cs) : ∃ j, ∃ hj : j < cs.length, cs[j].1 = s / 64 ∧ cs[j].2.testBit (s % 64).toNat = true := by
  simp only [slots, List.mem_flatMap] at h
  obtain ⟨c, hc, hs⟩ := h
  obtain ⟨i, hi, hb, rfl⟩ := mem_slotsOf hs
  obtain ⟨j, hj, rfl⟩ := List.getElem_of_mem hc
  refine ⟨j, hj, by omega, ?_⟩
  have : ((64 * cs[j].1 + (i : Int)) % 64).toNat = i := by omega
  rw [this]
  exact hb

/-! ### Chunks out of two functions -/
def chunks (A : Nat → Int) (B : Nat → Nat) (n : Nat) : List (Int × Nat) := (List.range n).map fun i => (A i, B i)
theorem chunks_length (A : Nat → Int) (B : Nat → Nat) (n : Nat) : (chunks A B n).length = n := by simp [chunks]
theorem chunks_get (A : Nat → Int) (B : Nat → Nat) (n i : Nat) (h : i < (chunks A B n).length) : (chunks A B n)[i] = (A i, B i) := by simp [chunks]
theorem chunks_cut (A : Nat → Int) (B : Nat → Nat) (n c : Nat) (h : c ≤ n) : chunks A B n = chunks A B c ++ chunks (fun i => A (c + i)) (fun i => B (c + i)) (n - c) := by
  apply List.ext_getElem
  · simp [chunks]; omega
  · intro i h1 h2
    rw [chunks_get]
    by_cases hi : i < c
    · rw [List.getElem_append_left (by simpa [chunks] using hi), chunks_get]
    · rw [List.getElem_append_right (by simp [chunks]; omega), chunks_get]
      rw [chunks_length]
      have : c + (i - c) = i := by omega
      rw [this]
theorem chunks_succ (A : Nat → Int) (B : Nat → Nat) (n : Nat) : chunks A B (n + 1) = chunks A B n ++ [(A n, B n)] := by simp [chunks, List.range_succ]
theorem slots_succ (A : Nat → Int) (B : Nat → Nat) (n : Nat) : slots (chunks A B (n + 1)) = slots (chunks A B n) ++ slotsOf (A n, B n) := by rw [chunks_succ, slots_append]; simp [slots]

def okB (A : Nat → Int) (B : Nat → Nat) (i : Nat) : Bool := decide (0 ≤ A i) && decide (A i < 16777216) && (B i != 0) && (i == 0 || decide (A (i - 1) < A i))
def validB (A : Nat → Int) (B : Nat → Nat) (n : Nat) : Bool := (List.range n).all fun i => okB A B i
theorem validB_iff {A : Nat → Int} {B : Nat → Nat} {n : Nat} : validB A B n = true ↔ ∀ i, i < n → okB A B i = true := by simp [validB]
theorem validB_no {A : Nat → Int} {B : Nat → Nat} {n i : Nat} (hi : i < n) (h : okB A B i = false) : validB A B n = false := by
  cases hv : validB A B n with
  | false => rfl
  | true => rw [validB_iff.1 hv i hi] at h; cases h
theorem okB_iff {A : Nat → Int} {B : Nat → Nat} {i : Nat} : okB A B i = true ↔ 0 ≤ A i ∧ A i < 16777216 ∧ B i ≠ 0 ∧ (0 < i → A (i - 1) < A i) := by
  simp only [okB, Bool.and_eq_true, Bool.or_eq_true, decide_eq_true_eq, bne_iff_ne, beq_iff_eq]
  constructor
  · rintro ⟨⟨⟨h1, h2⟩, h3⟩, h4⟩
    exact ⟨h1, h2, h3, fun h => by rcases h4 with h4 | h4 <;> omega⟩
  · rintro ⟨h1, h2, h3, h4⟩
    refine ⟨⟨⟨h1, h2⟩, h3⟩, ?_⟩
    by_cases h : i = 0
    · exact .inl h
    · exact .inr (h4 (by omega))
theorem asc_of {A : Nat → Int} {B : Nat → Nat} {n : Nat} (h : validB A B n = true) : ∀ j, j < n → ∀ i, i < j → A i < A j
  | 0, _, i, hi => by omega
  | j + 1, hj, i, hi => by
    have h1 := (okB_iff.1 (validB_iff.1 h (j + 1) hj)).2.2.2 (by omega)
    simp only [Nat.add_sub_cancel] at h1
    by_cases e : i = j
    · subst e; exact h1
    · have := asc_of h j (by omega) i (by omega); omega
theorem valid_of {A : Nat → Int} {B : Nat → Nat} {n : Nat} (h : validB A B n = true) (hB : ∀ i, i < n → B i < 18446744073709551616) : Valid (chunks A B n) := by
  refine ⟨?_, ?_⟩
  · intro c hc
    simp only [chunks, List.mem_map, List.mem_range] at hc
    obtain ⟨i, hi, rfl⟩ := hc
    have := okB_iff.1 (validB_iff.1 h i hi)
    exact ⟨this.1, this.2.1, this.2.2.1, hB i hi⟩
  · rw [List.pairwise_iff_getElem]
    intro i j hi hj hij
    rw [chunks_get, chunks_get]
    rw [chunks_length] at hj
    exact asc_of h j hj i hij
end Go.Proofs.Qxb6614702aDoor

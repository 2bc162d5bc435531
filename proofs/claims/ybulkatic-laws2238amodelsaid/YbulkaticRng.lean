/-
  THE PLAIN PART OF THE LAWS ON CLASSES: ranges in order; the search among them. No Go in sight.
-/
namespace Go.Proofs.Ybulkatic

/-- The i-th range's ends. -/
def rlo (R : List (Int × Int)) (i : Nat) : Int := (R.getD i (0, 0)).1
def rhi (R : List (Int × Int)) (i : Nat) : Int := (R.getD i (0, 0)).2
/-- Does some range hold r? -/
def inRs (R : List (Int × Int)) (r : Int) : Bool := R.any fun p => decide (p.1 ≤ r) && decide (r ≤ p.2)
/-- Each range is not empty, and ends ahead of those behind it. -/
def Asc (R : List (Int × Int)) : Prop := ∀ i, i < R.length → rlo R i ≤ rhi R i ∧ ∀ j, i < j → j < R.length → rhi R i < rlo R j

theorem inRs_iff (R : List (Int × Int)) (r : Int) : inRs R r = true ↔ ∃ i, i < R.length ∧ rlo R i ≤ r ∧ r ≤ rhi R i := by
  unfold inRs
  rw [List.any_eq_true]
  constructor
  · rintro ⟨p, hp, h⟩
    obtain ⟨i, hi, rfl⟩ := List.getElem_of_mem hp
    simp only [Bool.and_eq_true, decide_eq_true_eq] at h
    refine ⟨i, hi, ?_, ?_⟩ <;> simp only [rlo, rhi, List.getD_eq_getElem?_getD, List.getElem?_eq_getElem hi, Option.getD_some]
    · exact h.1
    · exact h.2
  · rintro ⟨i, hi, h1, h2⟩
    refine ⟨R[i], List.getElem_mem hi, ?_⟩
    simp only [rlo, rhi, List.getD_eq_getElem?_getD, List.getElem?_eq_getElem hi, Option.getD_some] at h1 h2
    simp [h1, h2]

/-- WHERE THE SEARCH ENDS: the first range that does not end before r holds r if any does. -/
theorem inRs_at {R : List (Int × Int)} (hR : Asc R) {r : Int} {p : Nat} (hp : p ≤ R.length) (h1 : ∀ x, x < p → rhi R x < r) (h2 : ∀ x, p ≤ x → x < R.length → r ≤ rhi R x) : inRs R r = (decide (p < R.length) && decide (rlo R p ≤ r)) := by
  rw [Bool.eq_iff_iff, inRs_iff]
  simp only [Bool.and_eq_true, decide_eq_true_eq]
  constructor
  · rintro ⟨i, hi, a, b⟩
    have hpi : p ≤ i := by
      rcases Nat.lt_or_ge i p with h | h
      · have := h1 i h; omega
      · exact h
    refine ⟨by omega, ?_⟩
    rcases Nat.lt_or_ge p i with h | h
    · have e1 := (hR p (by omega)).2 i h hi
      have e2 := h2 p (Nat.le_refl _) (by omega)
      omega
    · have : p = i := by omega
      subst this; exact a
  · rintro ⟨a, b⟩
    exact ⟨p, a, b, h2 p (Nat.le_refl _) a⟩

theorem inRs_take_succ {R : List (Int × Int)} {k : Nat} (h : k < R.length) (r : Int) : inRs (R.take (k + 1)) r = (inRs (R.take k) r || (decide (rlo R k ≤ r) && decide (r ≤ rhi R k))) := by
  unfold inRs
  rw [List.take_succ_eq_append_getElem h, List.any_append]
  simp [rlo, rhi, List.getD_eq_getElem?_getD, List.getElem?_eq_getElem h]

/-- Where the next range begins at the earliest. -/
def nextR (z0 z1 : List Int) : Nat → Int
  | 0 => 0
  | k + 1 => nextR z0 z1 k + z0.getD k 0 + z1.getD k 0 + 1
/-- The ranges out of gaps and lengths. -/
def rngs (z0 z1 : List Int) (k : Nat) : List (Int × Int) := (List.range k).map fun i => (nextR z0 z1 i + z0.getD i 0, nextR z0 z1 i + z0.getD i 0 + z1.getD i 0)
theorem rngs_len (z0 z1 : List Int) (k : Nat) : (rngs z0 z1 k).length = k := by simp [rngs]
theorem rngs_succ (z0 z1 : List Int) (k : Nat) : rngs z0 z1 (k + 1) = rngs z0 z1 k ++ [(nextR z0 z1 k + z0.getD k 0, nextR z0 z1 k + z0.getD k 0 + z1.getD k 0)] := by simp [rngs, List.range_succ]
theorem rngs_lo {z0 z1 : List Int} {k i : Nat} (h : i < k) : rlo (rngs z0 z1 k) i = nextR z0 z1 i + z0.getD i 0 := by
  simp [rlo, rngs, List.getD_eq_getElem?_getD, h]
theorem rngs_hi {z0 z1 : List Int} {k i : Nat} (h : i < k) : rhi (rngs z0 z1 k) i = nextR z0 z1 i + z0.getD i 0 + z1.getD i 0 := by
  simp [rhi, rngs, List.getD_eq_getElem?_getD, h]

theorem nextR_bd {z0 z1 : List Int} (h0 : ∀ i, 0 ≤ z0.getD i 0 ∧ z0.getD i 0 ≤ 65535) (h1 : ∀ i, 0 ≤ z1.getD i 0 ∧ z1.getD i 0 ≤ 255) : ∀ k, 0 ≤ nextR z0 z1 k ∧ nextR z0 z1 k ≤ 65791 * (k : Int)
  | 0 => by simp [nextR]
  | k + 1 => by
    have := nextR_bd h0 h1 k
    have a := h0 k
    have b := h1 k
    simp only [nextR]
    omega
theorem nextR_mono {z0 z1 : List Int} (h0 : ∀ i, 0 ≤ z0.getD i 0 ∧ z0.getD i 0 ≤ 65535) (h1 : ∀ i, 0 ≤ z1.getD i 0 ∧ z1.getD i 0 ≤ 255) {i : Nat} : ∀ j, i < j → nextR z0 z1 i + z0.getD i 0 + z1.getD i 0 + 1 ≤ nextR z0 z1 j
  | 0, h => absurd h (by omega)
  | j + 1, h => by
    by_cases e : i = j
    · subst e; simp only [nextR]; omega
    · have := nextR_mono h0 h1 j (by omega : i < j)
      have a := h0 j
      have b := h1 j
      simp only [nextR]
      omega
theorem rngs_asc {z0 z1 : List Int} (h0 : ∀ i, 0 ≤ z0.getD i 0 ∧ z0.getD i 0 ≤ 65535) (h1 : ∀ i, 0 ≤ z1.getD i 0 ∧ z1.getD i 0 ≤ 255) (k : Nat) : Asc (rngs z0 z1 k) := by
  intro i hi
  rw [rngs_len] at hi ⊢
  rw [rngs_lo hi, rngs_hi hi]
  refine ⟨by have := h1 i; omega, fun j hij hj => ?_⟩
  rw [rngs_lo hj]
  have := nextR_mono h0 h1 j hij
  have := h0 j
  omega
end Go.Proofs.Ybulkatic

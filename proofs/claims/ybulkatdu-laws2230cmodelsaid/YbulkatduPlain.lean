/-
  THE PLAIN PART OF 'LawS2230CModel': the table of names, the list of what is affected: no Go in sight.
-/
import Derived.Lib.Bytealg
namespace Go.Proofs.Ybulkatdu

/-- The table of names, as bytes. -/
def nmL : Nat → List UInt8
  | 0 => [97]
  | 1 => [97, 46, 116, 101, 115, 116]
  | 2 => [97, 98]
  | 3 => [98]
  | 4 => [98, 47, 99]
  | 5 => [109, 111, 100]
  | 6 => [120]
  | 7 => [120, 46, 116, 101, 115, 116]
  | _ => []
/-- The i-th name, as the Go text has it. -/
def nm (i : Nat) : ByteArray := ⟨(nmL i).toArray⟩

theorem nm_toList (i : Nat) : (nm i).data.toList = nmL i := by simp [nm]

/-- Where a Go comparison goes: the names stand in byte order. -/
theorem cmp_nm : ∀ a, a < 8 → ∀ b, b < 8 → (Lib.compareBytes (nmL a) (nmL b) < 0 ↔ a < b) ∧ (Lib.compareBytes (nmL a) (nmL b) = 0 ↔ a = b) := by decide
theorem le_nm : ∀ a, a < 8 → ∀ b, b < 8 → (nmL a ≤ nmL b ↔ a ≤ b) := by decide
theorem nm_inj : ∀ a, a < 8 → ∀ b, b < 8 → (nmL a = nmL b ↔ a = b) := by decide

/-- The names that are in a graph: those whose Bool says so, in order. -/
def idx (p : Nat → Bool) : List Nat := (List.range 8).filter p

/-- What 'affected' gathers ahead of its sort. -/
def gath (b a : Nat → Bool) (d : Nat → Bool) : List Nat := idx (fun i => b i && d i) ++ idx (fun i => a i && !b i)

theorem gath_perm (b a d : Nat → Bool) (h : ∀ i, d i = true → b i = true ∨ a i = true) (h2 : ∀ i, a i = true → b i = false → d i = true) : (gath b a d).Perm (idx d) := by
  have e1 : idx (fun i => b i && d i) = (idx d).filter b := by
    unfold idx; rw [List.filter_filter]
  have e2 : idx (fun i => a i && !b i) = (idx d).filter (fun i => !b i) := by
    unfold idx; rw [List.filter_filter]
    apply List.filter_congr
    intro i _
    cases hb : b i <;> cases ha : a i <;> cases hd : d i <;> simp
    · have := h i hd; simp [hb, ha] at this
    · have := h2 i ha hb; simp [hd] at this
  unfold gath
  rw [e1, e2]
  exact List.filter_append_perm b (idx d)

theorem idx_lt {p : Nat → Bool} {i : Nat} (h : i ∈ idx p) : i < 8 := by
  unfold idx at h
  simpa using (List.mem_filter.1 h).1
theorem idx_mem {p : Nat → Bool} {i : Nat} (h : i ∈ idx p) : p i = true := (List.mem_filter.1 h).2

theorem idx_sorted (p : Nat → Bool) : (idx p).Pairwise (· < ·) := by
  unfold idx
  exact List.Pairwise.filter _ List.pairwise_lt_range

/-- THE SORT OF WHAT WAS GATHERED IS THE LIST IN ORDER. -/
theorem sort_gath (b a d : Nat → Bool) (h : ∀ i, d i = true → b i = true ∨ a i = true) (h2 : ∀ i, a i = true → b i = false → d i = true) :
    (((gath b a d).map nmL).mergeSort fun x y => decide (x ≤ y)) = (idx d).map nmL := by
  have hp := ((gath_perm b a d h h2).map nmL)
  have hs : ((idx d).map nmL).Pairwise (fun x y => x ≤ y) := by
    rw [List.pairwise_map]
    refine List.Pairwise.imp_of_mem ?_ (idx_sorted d)
    intro x y hx hy hxy
    exact (le_nm x (idx_lt hx) y (idx_lt hy)).2 (Nat.le_of_lt hxy)
  refine List.Perm.eq_of_pairwise (le := fun x y => x ≤ y) ?_ ?_ hs ((List.mergeSort_perm _ _).trans hp)
  · intro x y _ _ h1 h2
    exact List.le_antisymm h1 h2
  · have := List.pairwise_mergeSort (le := fun (x y : List UInt8) => decide (x ≤ y)) (fun x y z h1 h2 => by simp at *; exact List.le_trans h1 h2) (fun x y => by simp; exact List.le_total x y) ((gath b a d).map nmL)
    simpa using this
end Go.Proofs.Ybulkatdu

/-
  THE MAP OF 'uniqueNames', AS DATA: each name of the list, at its place in it. No Go in sight.
-/
import Derived.Test.YbulkaticUni
import Derived.Maps.OwnSet
namespace Go.Proofs.Ybulkatic

theorem toList_data (s : ByteArray) : s.toList = s.data.toList := ByteArray.toList_eq s

/-- What the loop keeps of the lists (S: as they came; X: the row now; j members seen; 'kept' of them kept). -/
def PInv (S X : List (ByteArray × ByteArray)) (j kept : Nat) : Prop :=
  X.length = S.length ∧ X.take kept = uni (S.take j) ∧ kept = (uni (S.take j)).length ∧ kept ≤ j ∧ ∀ i, j ≤ i → X.getD i zp = S.getD i zp

theorem PInv.start (S : List (ByteArray × ByteArray)) : PInv S S 0 0 := ⟨rfl, by simp [uni], by simp [uni], Nat.le_refl _, fun _ _ => rfl⟩

theorem PInv.nm {S X : List (ByteArray × ByteArray)} {j kept : Nat} (h : PInv S X j kept) (hj : j ≤ S.length) {i : Nat} (hi : i < kept) : nmAt X i = nmAt (uni (S.take j)) i := by
  obtain ⟨h1, h2, h3, h4, h5⟩ := h
  have e : (uni (S.take j)).getD i zp = X.getD i zp := by
    rw [← h2, getD_at (by simp; omega), getD_at (by omega)]; simp
  unfold nmAt; rw [e]
theorem PInv.nm_j {S X : List (ByteArray × ByteArray)} {j kept : Nat} (h : PInv S X j kept) : nmAt X j = nmAt S j := by unfold nmAt; rw [h.2.2.2.2 j (Nat.le_refl _)]

theorem PInv.hit {S X : List (ByteArray × ByteArray)} {j kept i : Nat} (h : PInv S X j kept) (hj : j < S.length) (hi : i < kept) (hp : pos (uni (S.take j)) (nmAt S j) = i) : PInv S (X.set i ((X.getD i zp).1, (X.getD j zp).2)) (j + 1) kept := by
  obtain ⟨h1, h2, h3, h4, h5⟩ := h
  have e : (uni (S.take j)).getD i zp = X.getD i zp := by
    rw [← h2, getD_at (by simp; omega), getD_at (by omega)]; simp
  have hins : uni (S.take (j + 1)) = (uni (S.take j)).set i ((X.getD i zp).1, (X.getD j zp).2) := by
    rw [uni_take hj]
    unfold ins
    rw [show pos (uni (S.take j)) (S.getD j zp).1.toList = i from hp, if_pos (by omega), e, h5 j (Nat.le_refl _)]
  refine ⟨by simpa using h1, ?_, by rw [hins]; simpa using h3, by omega, fun m hm => ?_⟩
  · rw [hins, ← h2, List.take_set]
  · have : i ≠ m := by omega
    rw [← h5 m (by omega)]
    simp [List.getD_eq_getElem?_getD, this]

theorem PInv.miss {S X : List (ByteArray × ByteArray)} {j kept : Nat} (h : PInv S X j kept) (hj : j < S.length) (hp : ¬ pos (uni (S.take j)) (nmAt S j) < kept) : PInv S (X.set kept (X.getD j zp)) (j + 1) (kept + 1) := by
  obtain ⟨h1, h2, h3, h4, h5⟩ := h
  have hins : uni (S.take (j + 1)) = uni (S.take j) ++ [X.getD j zp] := by
    rw [uni_take hj]
    unfold ins
    rw [if_neg (by rw [← h3]; exact hp), h5 j (Nat.le_refl _)]
  refine ⟨by simpa using h1, ?_, by rw [hins]; simp; exact h3, by omega, fun m hm => ?_⟩
  · rw [hins, ← h2, List.take_succ_eq_append_getElem (by simp; omega), List.take_set_of_le (Nat.le_refl _), List.getElem_set_self]
  · have : kept ≠ m := by omega
    rw [← h5 m (by omega)]
    simp [List.getD_eq_getElem?_getD, this]

/-- Nothing to move: the member stands where it is kept. -/
theorem PInv.same {S X : List (ByteArray × ByteArray)} {j : Nat} (h : PInv S X j j) (hj : j < S.length) : X.set j (X.getD j zp) = X := by
  rw [getD_at (by have := h.1; omega)]; simp

theorem pos_congr {U V : List (ByteArray × ByteArray)} (hl : U.length = V.length) (h : ∀ i, i < U.length → nmAt U i = nmAt V i) (x : List UInt8) : pos U x = pos V x := by
  by_cases hp : pos V x < V.length
  · exact pos_of (fun y hy => by rw [h y (by omega)]; exact pos_before hy) (by omega) (by rw [h _ (by omega)]; exact pos_hit hp)
  · have e : pos V x = V.length := by have := pos_le V x; omega
    rw [e, ← hl]
    exact pos_none fun y hy => by rw [h y hy]; exact pos_before (by omega)

/-- The map D holds each name of U, at its place. -/
def DInv (D : DataW Unit) (U : List (ByteArray × ByteArray)) : Prop :=
  Maps.IsMap D ∧ ∀ x : List UInt8, Maps.has D (.string x) = decide (pos U x < U.length) ∧ (pos U x < U.length → D.atKey (.string x) (.lit (.int .i64 0)) = .lit (.int .i64 (pos U x : Nat)))

theorem DInv.start : DInv (.map []) [] := ⟨Maps.isMap_empty, fun x => ⟨by simp [Maps.has_eq, pos], fun h => by simp at h⟩⟩

theorem DInv.hit {D : DataW Unit} {U : List (ByteArray × ByteArray)} (h : DInv D U) {a : ByteArray × ByteArray} (hp : pos U a.1.toList < U.length) : DInv D (ins U a) := by
  have hl := ins_len_hit hp
  have hpos : ∀ x, pos (ins U a) x = pos U x := fun x => pos_congr hl (fun i hi => nm_ins_lt (by omega)) x
  refine ⟨h.1, fun x => ?_⟩
  rw [hl, hpos]
  exact h.2 x

theorem pos_snoc_same {U : List (ByteArray × ByteArray)} {a : ByteArray × ByteArray} (hp : ¬ pos U a.1.toList < U.length) : pos (U ++ [a]) a.1.toList = U.length := by
  refine pos_of (fun y hy => ?_) (by simp) ?_
  · have e : pos U a.1.toList = U.length := by have := pos_le U a.1.toList; omega
    have := pos_before (U := U) (x := a.1.toList) (y := y) (by omega)
    unfold nmAt at this ⊢
    rw [getD_at (by simp; omega), List.getElem_append_left hy]
    rwa [getD_at hy] at this
  · unfold nmAt
    rw [getD_at (by simp)]; simp
theorem pos_snoc_other {U : List (ByteArray × ByteArray)} {a : ByteArray × ByteArray} {x : List UInt8} (hne : a.1.toList ≠ x) : (pos (U ++ [a]) x < (U ++ [a]).length ↔ pos U x < U.length) ∧ (pos U x < U.length → pos (U ++ [a]) x = pos U x) := by
  have hn : ∀ y, y < U.length → nmAt (U ++ [a]) y = nmAt U y := fun y hy => by
    unfold nmAt
    rw [getD_at (by simp; omega), List.getElem_append_left hy, getD_at hy]
  have hl : nmAt (U ++ [a]) U.length = a.1.toList := by unfold nmAt; rw [getD_at (by simp)]; simp
  by_cases hp : pos U x < U.length
  · have e : pos (U ++ [a]) x = pos U x := pos_of (fun y hy => by rw [hn y (by omega)]; exact pos_before hy) (by simp; omega) (by rw [hn _ hp]; exact pos_hit hp)
    exact ⟨⟨fun _ => hp, fun _ => by rw [e]; simp; omega⟩, fun _ => e⟩
  · have e : pos U x = U.length := by have := pos_le U x; omega
    have e2 : pos (U ++ [a]) x = (U ++ [a]).length := pos_none fun y hy => by
      by_cases hy' : y < U.length
      · rw [hn y hy']; exact pos_before (by omega)
      · have : y = U.length := by simp at hy; omega
        rw [this, hl]; exact hne
    exact ⟨⟨fun h => by omega, fun h => absurd h hp⟩, fun h => absurd h hp⟩

theorem DInv.miss {D : DataW Unit} {U : List (ByteArray × ByteArray)} (h : DInv D U) {a : ByteArray × ByteArray} (hp : ¬ pos U a.1.toList < U.length) : DInv (D.put (.string a.1.toList) (.lit (.int .i64 (U.length : Nat)))) (ins U a) := by
  have hi : ins U a = U ++ [a] := by unfold ins; rw [if_neg hp]
  rw [hi]
  refine ⟨h.1.put _ _, fun x => ?_⟩
  by_cases e : a.1.toList = x
  · subst e
    rw [pos_snoc_same hp]
    refine ⟨?_, fun _ => ?_⟩
    · rw [Maps.has_put_same h.1 (by trivial)]; simp
    · rw [Maps.atKey_put_same h.1 (by trivial)]
  · obtain ⟨p1, p2⟩ := pos_snoc_other (U := U) (a := a) e
    have hne : (Lit.string x : Lit) ≠ .string a.1.toList := fun he => e (by cases he; rfl)
    obtain ⟨h1, h2⟩ := h.2 x
    refine ⟨?_, fun hx => ?_⟩
    · rw [Maps.has_put_other hne, h1]
      exact decide_eq_decide.2 p1.symm
    · rw [Maps.atKey_put_other hne, p2 (p1.1 hx)]
      exact h2 (p1.1 hx)
end Go.Proofs.Ybulkatic

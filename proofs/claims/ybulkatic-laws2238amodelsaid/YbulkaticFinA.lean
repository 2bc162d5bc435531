import Derived.Test.YbulkaticSort
namespace Go.Proofs.Ybulkatic
open Go.RowKit

theorem rlo_set {E : List (Int × Int)} {i j : Nat} {p : Int × Int} (hi : i < E.length) : rlo (E.set i p) j = if i = j then p.1 else rlo E j := by
  by_cases h : i = j
  · subst h; simp [rlo, List.getD_eq_getElem?_getD, hi]
  · rw [if_neg h]; simp [rlo, List.getD_eq_getElem?_getD, List.getElem?_set_ne h]
theorem rhi_set {E : List (Int × Int)} {i j : Nat} {p : Int × Int} (hi : i < E.length) : rhi (E.set i p) j = if i = j then p.2 else rhi E j := by
  by_cases h : i = j
  · subst h; simp [rhi, List.getD_eq_getElem?_getD, hi]
  · rw [if_neg h]; simp [rhi, List.getD_eq_getElem?_getD, List.getElem?_set_ne h]

theorem RowAt.setHi {w : World} {g : Nat} {E : List (Int × Int)} (h : RowAt w g E) {i : Nat} (hi : i < E.length) (b : Int) : RowAt (w.setCell ⟨g, i * 2 + 1, none⟩ (.int .i32 b)) g (E.set i (rlo E i, b)) := by
  refine ⟨by simpa using h.1, fun j hj => ?_⟩
  rw [List.length_set] at hj
  obtain ⟨⟨a1, a2⟩, a3, a4⟩ := h.2 j hj
  rw [rlo_set hi, rhi_set hi, World.frozen?_setCell, World.frozen?_setCell]
  rw [World.cell?_setCell_other (h := by intro e; injection e with e1 e2; omega)]
  by_cases hij : i = j
  · subst hij
    rw [if_pos rfl, if_pos rfl]
    exact ⟨⟨a1, a2⟩, World.cell?_setCell_same _ _ _ (u := _) a3, a4⟩
  · rw [if_neg hij, if_neg hij, World.cell?_setCell_other (h := by intro e; injection e with e1 e2; omega)]
    exact ⟨⟨a1, a2⟩, a3, a4⟩
theorem RowAt.setLo {w : World} {g : Nat} {E : List (Int × Int)} (h : RowAt w g E) {i : Nat} (hi : i < E.length) (b : Int) : RowAt (w.setCell ⟨g, i * 2, none⟩ (.int .i32 b)) g (E.set i (b, rhi E i)) := by
  refine ⟨by simpa using h.1, fun j hj => ?_⟩
  rw [List.length_set] at hj
  obtain ⟨⟨a1, a2⟩, a3, a4⟩ := h.2 j hj
  rw [rlo_set hi, rhi_set hi, World.frozen?_setCell, World.frozen?_setCell]
  rw [World.cell?_setCell_other (a := ⟨g, i * 2, none⟩) (b := ⟨g, j * 2 + 1, none⟩) (h := by intro e; injection e with e1 e2; omega)]
  by_cases hij : i = j
  · subst hij
    rw [if_pos rfl, if_pos rfl]
    exact ⟨⟨World.cell?_setCell_same _ _ _ (u := _) a1, a2⟩, a3, a4⟩
  · rw [if_neg hij, if_neg hij, World.cell?_setCell_other (h := by intro e; injection e with e1 e2; omega)]
    exact ⟨⟨a1, a2⟩, a3, a4⟩
theorem RowAt.setBoth {w : World} {g : Nat} {E : List (Int × Int)} (h : RowAt w g E) {i : Nat} (hi : i < E.length) (a b : Int) : RowAt ((w.setCell ⟨g, i * 2, none⟩ (.int .i32 a)).setCell ⟨g, i * 2 + 1, none⟩ (.int .i32 b)) g (E.set i (a, b)) := by
  have := (h.setLo hi a).setHi (i := i) (by simpa using hi) b
  rw [rlo_set hi, if_pos rfl, List.set_set] at this
  exact this

theorem take_set_last {E J : List (Int × Int)} {m : Nat} (hm : 0 < m) (hmE : m ≤ E.length) (h : E.take m = J) (p : Int × Int) : (E.set (m - 1) p).take m = J.dropLast ++ [p] := by
  obtain ⟨q, rfl⟩ : ∃ q, m = q + 1 := ⟨m - 1, by omega⟩
  subst h
  rw [Nat.add_sub_cancel, List.take_succ_eq_append_getElem (by simp; omega), List.take_set, List.set_eq_of_length_le (by simp; omega)]
  rw [show E.take (q + 1) = E.take q ++ [E[q]] from List.take_succ_eq_append_getElem (by omega), List.dropLast_concat]
  simp
theorem take_set_next {E J : List (Int × Int)} {m : Nat} (hmE : m < E.length) (h : E.take m = J) (p : Int × Int) : (E.set m p).take (m + 1) = J ++ [p] := by
  subst h
  rw [List.take_succ_eq_append_getElem (by simp; omega), List.take_set, List.set_eq_of_length_le (by simp; omega)]
  simp

/-- What holds ahead of the round k of the joining. -/
def JI (w : World) (g : Nat) (R : List (Int × Int)) (k : Nat) (wr : World) : Prop :=
  ∃ E : List (Int × Int), E.length = R.length ∧ RowAt wr g E ∧ E.take (joinN R k).length = joinN R k ∧ (∀ i, k ≤ i → i < R.length → rlo E i = rlo R i ∧ rhi E i = rhi R i) ∧ Kp [g] w wr

theorem take_at {E J : List (Int × Int)} {m i : Nat} (h : E.take m = J) (hi : i < m) : rlo J i = rlo E i ∧ rhi J i = rhi E i := by
  subst h
  have e : (E.take m).getD i (0, 0) = E.getD i (0, 0) := by
    simp only [List.getD_eq_getElem?_getD, List.getElem?_take]
    rw [if_pos hi]
  unfold rlo rhi
  rw [e]
  exact ⟨rfl, rfl⟩

theorem ji_last {R E : List (Int × Int)} {k m : Nat} (hG : Good R) (hS : LoS R) (hk : k ≤ R.length) (hm : m = (joinN R k).length) (hm0 : 0 < m) (hT : E.take m = joinN R k) : 0 ≤ rhi E (m - 1) ∧ rhi E (m - 1) ≤ 1114111 := by
  have ok := (joinN_ok hG hS k hk).1
  have g := ok.2.at (i := m - 1) (by omega)
  rw [← (take_at hT (i := m - 1) (by omega)).2]
  omega

theorem ji_join {w W : World} {g : Nat} {R E : List (Int × Int)} {k m : Nat} {lo hi lh : Int} (hm : m = (joinN R k).length) (hm0 : 0 < m) (hmk : m ≤ k) (hk : k < R.length) (hE : E.length = R.length) (hT : E.take m = joinN R k)
    (hI : ∀ i, k ≤ i → i < R.length → rlo E i = rlo R i ∧ rhi E i = rhi R i) (hlo : lo = rlo R k ∧ hi = rhi R k) (hlh : lh = rhi E (m - 1)) (hj : lo ≤ lh + 1) (hr : RowAt W g E) (hkp : Kp [g] w W) :
    m = (joinN R (k + 1)).length ∧ JI w g R (k + 1) (W.setCell ⟨g, (m - 1) * 2 + 1, none⟩ (.int .i32 (max lh hi))).drew := by
  obtain ⟨t1, t2⟩ := take_at hT (i := m - 1) (by omega)
  have e : joinN R (k + 1) = (joinN R k).dropLast ++ [(rlo E (m - 1), max lh hi)] := by
    simp only [joinN, joinStep]
    rw [if_pos ⟨by omega, by rw [← hm, t2, ← hlh, ← hlo.1]; exact hj⟩, ← hm, t1, t2, ← hlh, ← hlo.2]
  have hl : m = (joinN R (k + 1)).length := by rw [e]; simp; omega
  refine ⟨hl, E.set (m - 1) (rlo E (m - 1), max lh hi), by simpa using hE, hr.setHi (by omega) _, ?_, fun i h1 h2 => ?_, (hkp.setCell (by simp) _).drewN 1⟩
  · rw [← hl, e]
    exact take_set_last hm0 (by omega) hT _
  · rw [rlo_set (by omega), rhi_set (by omega), if_neg (by omega), if_neg (by omega)]
    exact hI i (by omega) h2

theorem ji_app {w W : World} {g : Nat} {R E : List (Int × Int)} {k m : Nat} {lo hi : Int} (hm : m = (joinN R k).length) (hmk : m ≤ k) (hk : k < R.length) (hE : E.length = R.length) (hT : E.take m = joinN R k)
    (hI : ∀ i, k ≤ i → i < R.length → rlo E i = rlo R i ∧ rhi E i = rhi R i) (hlo : lo = rlo R k ∧ hi = rhi R k) (hn : ¬ (0 < m ∧ lo ≤ rhi E (m - 1) + 1)) (hr : RowAt W g E) (hkp : Kp [g] w W) :
    m + 1 = (joinN R (k + 1)).length ∧ JI w g R (k + 1) ((W.setCell ⟨g, m * 2, none⟩ (.int .i32 lo)).setCell ⟨g, m * 2 + 1, none⟩ (.int .i32 hi)) := by
  have e : joinN R (k + 1) = joinN R k ++ [(lo, hi)] := by
    simp only [joinN, joinStep]
    rw [if_neg, hlo.1, hlo.2]
    rintro ⟨h1, h2⟩
    refine hn ⟨by omega, ?_⟩
    rw [← (take_at hT (i := m - 1) (by omega)).2, hlo.1, hm]
    exact h2
  have hl : m + 1 = (joinN R (k + 1)).length := by rw [e]; simp; omega
  refine ⟨hl, E.set m (lo, hi), by simpa using hE, hr.setBoth (by omega) _ _, ?_, fun i h1 h2 => ?_, (hkp.setCell (by simp) _).setCell (by simp) _⟩
  · rw [← hl, e]
    exact take_set_next (by omega) hT _
  · rw [rlo_set (by omega), rhi_set (by omega), if_neg (by omega), if_neg (by omega)]
    exact hI i (by omega) h2
end Go.Proofs.Ybulkatic

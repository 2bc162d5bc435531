import Derived.Test.YbulkaticWhole
namespace Go.Proofs.Ybulkatic
open Go.RowKit

/-- A list of no other set, or of one. -/
def OthQ (w : World) (ov : Value) (r : Int) (q : Option Bool) : Prop :=
  (ov = .slice none 0 0 ∧ q = none) ∨ ∃ s O v R x y, ov = .slice (some ⟨s, 0, none⟩) 1 1 ∧ w.cell? ⟨s, 0, none⟩ = some (.pointer (some ⟨O, 0, none⟩)) ∧
    (w.cell? ⟨O, 0, none⟩ = some (.bool false) ∧ w.cell? ⟨O, 1, none⟩ = some v ∧ w.cell? ⟨O, 2, none⟩ = some (.slice none 0 0) ∧ w.cell? ⟨O, 3, none⟩ = some (.slice none 0 0) ∧ w.cell? ⟨O, 4, none⟩ = some (.slice none 0 0) ∧ w.cell? ⟨O, 5, none⟩ = some (.int .u64 x) ∧ w.cell? ⟨O, 6, none⟩ = some (.int .u64 y)) ∧
    RRow w v R ∧ Asc R ∧ R.length ≤ 1048576 ∧ (0 ≤ x ∧ x ≤ 18446744073709551615 ∧ 0 ≤ y ∧ y ≤ 18446744073709551615) ∧ q = some (if 0 ≤ r ∧ r < 128 then bit x y r else inRs R r)

theorem cell_later {w w' : World} (hb : Below w.heap.size w w') {p : Addr} {u : Value} (h : w.cell? p = some u) : w'.cell? p = some u := by
  rw [hb.cell (block_lt_of_cell h)]; exact h

theorem OthQ.later {w w' : World} {ov : Value} {r : Int} {q : Option Bool} (h : OthQ w ov r q) (hb : Below w.heap.size w w') : OthQ w' ov r q := by
  rcases h with h | ⟨s, O, v, R, x, y, e, hs, ⟨o0, o1, o2, o3, o4, o5, o6⟩, hr, rest⟩
  · exact .inl h
  · exact .inr ⟨s, O, v, R, x, y, e, cell_later hb hs, ⟨cell_later hb o0, cell_later hb o1, cell_later hb o2, cell_later hb o3, cell_later hb o4, cell_later hb o5, cell_later hb o6⟩, hr.later hb, rest⟩

theorem TabQ.later {w w' : World} {tv : Value} {r : Int} {q : Option Bool} (h : TabQ w tv r q) (hb : Below w.heap.size w w') : TabQ w' tv r q := by
  rcases h with h | ⟨s, t, g, lo, hi, e, hs, ht, ht1, g0, g1, g2, rest⟩
  · exact .inl h
  · exact .inr ⟨s, t, g, lo, hi, e, cell_later hb hs, cell_later hb ht, cell_later hb ht1, cell_later hb g0, cell_later hb g1, cell_later hb g2, rest⟩

theorem Inv.later {w : World} {C B : Nat} {xs : List Value} {neg : Bool} {v : Value} {R : List (Int × Int)} {r : Int} {W W' : World} {tv nv ov : Value} {qt qn : Option Bool}
    (h : Inv w C B xs neg v R r W tv nv ov qt qn) (hb : Below W.heap.size W W') : Inv w C B xs neg v R r W' tv nv ov qt qn := by
  obtain ⟨i1, ⟨i2, i3, i4, i5⟩, i6, ⟨i7, i8, i9, i10, i11⟩, i12, i13, i14⟩ := h
  exact ⟨i1.trans (hb.mono i1.size), ⟨i2, Nat.lt_of_lt_of_le i3 hb.size, i4, fun j => by rw [hb.frozen (by exact i3)]; exact i5 j⟩, fun j u hj => cell_later hb (i6 j u hj), ⟨cell_later hb i7, cell_later hb i8, cell_later hb i9, cell_later hb i10, cell_later hb i11⟩, i12.later hb, i13.later hb, i14.later hb⟩

theorem OthQ.one {w : World} {ov : Value} {r : Int} {q : Option Bool} (h : OthQ w ov r q) (r0 : -2147483648 ≤ r) (r1 : r ≤ 2147483647) :
    ∃ qa : Option Addr, SlOne w ov qa ∧ (qa = none → q = none) ∧ ∀ p, qa = some p → ∃ b, q = some b ∧ ∀ n, Calls Yba.prog 22 #[.pointer (some p), .int .i32 r] (w.drewN n) fun e w' => e = .returned (.bool b) ∧ ∃ m, w' = w.drewN m := by
  rcases h with ⟨rfl, rfl⟩ | ⟨s, O, v, R, x, y, rfl, hs, ⟨o0, o1, o2, o3, o4, o5, o6⟩, hr, ha, hl, ⟨x0, x1, y0, y1⟩, rfl⟩
  · exact ⟨none, ⟨none, 0, 0, rfl, .inl ⟨rfl, rfl⟩⟩, fun _ => rfl, fun p h => by cases h⟩
  · refine ⟨some ⟨O, 0, none⟩, ⟨_, _, _, rfl, .inr ⟨rfl, s, _, rfl, hs, rfl⟩⟩, fun h => (by cases h), fun p hp => ?_⟩
    cases hp
    refine ⟨_, rfl, fun n => ?_⟩
    refine (contains_any O v R r x y (w.drewN n) o0 o1 o2 o3 o4 o5 o6 (hr.later (b_drewN (Below.refl _ _) n)) ha hl r0 r1 x0 x1 y0 y1).mono ?_
    rintro e w' ⟨he, m, hm⟩
    exact ⟨he, n + m, by rw [hm, World.drewN_drewN]⟩

/-- The other set is made, and its list is laid into the cell 4 of the block C. -/
theorem oth_step (w W w3 W' : World) (C : Nat) (v : Value) (R : List (Int × Int)) (x y r : Int) (u : Value)
    (hb3 : Below W.heap.size W w3) (hR : RRow w3 v R) (ha : Asc R) (hl : R.length ≤ 1048576) (hx : 0 ≤ x ∧ x ≤ 18446744073709551615 ∧ 0 ≤ y ∧ y ≤ 18446744073709551615)
    (hW0 : W' = ((w3.setCell ⟨C, 4, none⟩ (.slice (some ⟨w3.heap.size + 1, 0, none⟩) 1 1)).alloc (.cells #[.bool false, v, .slice none 0 0, .slice none 0 0, .slice none 0 0, .int .u64 x, .int .u64 y] 32)).alloc (.cells #[.pointer (some ⟨w3.heap.size, 0, none⟩)] 26))
    {b : Bool} (c0 : W.cell? ⟨C, 0, none⟩ = some (.bool b)) (hu : W.cell? ⟨C, 4, none⟩ = some u) (hb : Below w.heap.size w W) (hw : w.heap.size ≤ C) :
    (∀ j, W'.frozen? ⟨C, j, none⟩ = W.frozen? ⟨C, j, none⟩) ∧ Kept C W W' ∧ Below w.heap.size w W' ∧ W'.cell? ⟨C, 4, none⟩ = some (.slice (some ⟨w3.heap.size + 1, 0, none⟩) 1 1) ∧ (∀ j v, j ≠ 4 → W.cell? ⟨C, j, none⟩ = some v → W'.cell? ⟨C, j, none⟩ = some v) ∧ RRow W' v R ∧ OthQ W' (.slice (some ⟨w3.heap.size + 1, 0, none⟩) 1 1) r (some (if 0 ≤ r ∧ r < 128 then bit x y r else inRs R r)) := by
  have hC : C < W.heap.size := block_lt_of_cell c0
  have hC3 : C < w3.heap.size := Nat.lt_of_lt_of_le hC hb3.size
  obtain ⟨o1, ho1⟩ : ∃ o1, o1 = Obj.cells #[.bool false, v, .slice none 0 0, .slice none 0 0, .slice none 0 0, .int .u64 x, .int .u64 y] 32 := ⟨_, rfl⟩
  obtain ⟨o2, ho2⟩ : ∃ o2, o2 = Obj.cells #[.pointer (some ⟨w3.heap.size, 0, none⟩)] 26 := ⟨_, rfl⟩
  rw [← ho1, ← ho2] at hW0
  have hW : W' = ((w3.alloc o1).alloc o2).setCell ⟨C, 4, none⟩ (.slice (some ⟨w3.heap.size + 1, 0, none⟩) 1 1) := by
    rw [hW0, World.setCell_alloc_past _ _ _ _ (by simp; omega), World.setCell_alloc_past _ _ _ _ hC3]
  have k3 : Kept C w3 W' := by rw [hW]; exact (((Kept.refl _ _).alloc _).alloc _).setCell rfl _
  have b3 : Below w.heap.size w w3 := hb.trans (hb3.mono hb.size)
  have old : ∀ j u, j ≠ 4 → W.cell? ⟨C, j, none⟩ = some u → W'.cell? ⟨C, j, none⟩ = some u := by
    intro j u hj hu
    rw [hW, World.cell?_setCell_other (h := by intro e; cases e; exact hj rfl), World.cell?_alloc_lt _ _ _ (by simp; omega), World.cell?_alloc_lt _ _ _ (by exact hC3)]
    exact cell_later hb3 hu
  have cO : ∀ j u, (#[.bool false, v, .slice none 0 0, .slice none 0 0, .slice none 0 0, .int .u64 x, .int .u64 y] : Array Value)[j]? = some u → W'.cell? ⟨w3.heap.size, j, none⟩ = some u := by
    intro j u hj
    rw [hW, World.cell?_setCell_other (h := by intro e; cases e; omega), World.cell?_alloc_lt _ _ _ (by simp), ho1, World.cell?_alloc_new]; exact hj
  have cS : W'.cell? ⟨w3.heap.size + 1, 0, none⟩ = some (.pointer (some ⟨w3.heap.size, 0, none⟩)) := by
    rw [hW, World.cell?_setCell_other (h := by intro e; cases e), ho2, show w3.heap.size + 1 = (w3.alloc o1).heap.size by simp, World.cell?_alloc_new]; rfl
  have hR' : RRow W' v R := hR.kept (cell_later hb3 c0) k3
  refine ⟨?_, (Kept.below hb3).trans k3, ?_, ?_, old, hR', .inr ⟨_, w3.heap.size, v, R, x, y, rfl, cS, ⟨cO 0 _ rfl, cO 1 _ rfl, cO 2 _ rfl, cO 3 _ rfl, cO 4 _ rfl, cO 5 _ rfl, cO 6 _ rfl⟩, hR', ha, hl, hx, rfl⟩⟩
  · intro j
    rw [hW, World.frozen?_setCell, World.frozen?_alloc_past _ _ _ (by simp; omega), World.frozen?_alloc_past _ _ _ hC3, hb3.frozen (by exact hC)]
  · rw [hW]; exact ((b3.alloc b3.size _).alloc (by have := b3.size; simp; omega) _).setCell hw _
  · rw [hW]
    refine World.cell?_setCell_same _ _ _ (u := u) ?_
    rw [World.cell?_alloc_lt _ _ _ (by simp; omega), World.cell?_alloc_lt _ _ _ (by exact hC3)]
    exact cell_later hb3 hu

theorem whole_holds {w : World} {C B : Nat} {xs : List Value} {neg : Bool} {v : Value} {R : List (Int × Int)} {r : Int} {W : World} {tv nv ov : Value} {qt qn qo : Option Bool}
    (h : Inv w C B xs neg v R r W tv nv ov qt qn) (ho : OthQ W ov r qo) (ha : Asc R) (hl : R.length ≤ 1048576) (r0 : -2147483648 ≤ r) (r1 : r ≤ 2147483647) :
    Calls Yba.prog 13 #[.pointer (some ⟨C, 0, none⟩), .int .i32 r] W fun e w' => e = .returned (.bool ((inRs R r || qt.getD false || (qn.map not).getD false || qo.getD false) != neg)) ∧ ∃ m, w' = W.drewN m := by
  obtain ⟨-, -, -, ⟨i7, i8, i9, i10, i11⟩, i12, i13, i14⟩ := h
  obtain ⟨pt, st, t0, hT⟩ := i13.one r0 r1
  obtain ⟨pn, sn, n0, hN⟩ := i14.one r0 r1
  obtain ⟨po, so, o0, hO⟩ := ho.one r0 r1
  refine holds_any C neg v tv nv ov R r pt pn po _ _ _ W i7 i8 i9 i10 i11 i12 ha hl st sn so (fun h => by rw [t0 h]; rfl) (fun h => by rw [n0 h]; rfl) (fun h => by rw [o0 h]; rfl) ?_ ?_ ?_
  · intro p hp n
    obtain ⟨b, rfl, hc⟩ := hT p hp
    exact hc n
  · intro p hp n
    obtain ⟨b, rfl, hc⟩ := hN p hp
    simpa using hc n
  · intro p hp n
    obtain ⟨b, rfl, hc⟩ := hO p hp
    exact hc n
end Go.Proofs.Ybulkatic

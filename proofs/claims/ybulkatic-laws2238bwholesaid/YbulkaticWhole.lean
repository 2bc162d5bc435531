import Derived.Test.YbulkaticLawB
import Derived.Test.YbulkaticTab
import Derived.Deep.DeepCutAuto
namespace Go.Proofs.Ybulkatic
open Go.RowKit

/-- Memory is kept, but for the block C. -/
def Kept (C : Nat) (w w' : World) : Prop := w.heap.size ≤ w'.heap.size ∧ ∀ p : Addr, p.block < w.heap.size → p.block ≠ C → w'.cell? p = w.cell? p
theorem Kept.refl (C : Nat) (w : World) : Kept C w w := ⟨Nat.le_refl _, fun _ _ _ => rfl⟩
theorem Kept.alloc {C : Nat} {w w' : World} (h : Kept C w w') (o : Obj) : Kept C w (w'.alloc o) :=
  ⟨by have := h.1; simp; omega, fun p hp hn => by rw [World.cell?_alloc_lt w' o p (Nat.lt_of_lt_of_le hp h.1)]; exact h.2 p hp hn⟩
theorem Kept.setCell {C : Nat} {w w' : World} (h : Kept C w w') {a : Addr} (ha : a.block = C) (u : Value) : Kept C w (w'.setCell a u) :=
  ⟨by have := h.1; simpa using this, fun p hp hn => by
    rw [World.cell?_of_block (w := w') (Below.heap_setCell w' a u p.block (by rw [ha]; exact hn))]; exact h.2 p hp hn⟩
theorem Kept.below {C : Nat} {w w' : World} (h : Below w.heap.size w w') : Kept C w w' := ⟨h.size, fun _ hp _ => h.cell hp⟩
theorem Kept.trans {C : Nat} {a b c : World} (h : Kept C a b) (k : Kept C b c) : Kept C a c :=
  ⟨Nat.le_trans h.1 k.1, fun p hp hn => by rw [k.2 p (Nat.lt_of_lt_of_le hp h.1) hn]; exact h.2 p hp hn⟩
theorem Kept.at {C : Nat} {w w' : World} (h : Kept C w w') {b o : Nat} {u : Value} (hb : b ≠ C) (hc : w.cell? ⟨b, o, none⟩ = some u) : w'.cell? ⟨b, o, none⟩ = some u := by
  rw [h.2 ⟨b, o, none⟩ (block_lt_of_cell hc) hb]; exact hc

theorem RRow.kept {C : Nat} {w w' : World} {v : Value} {R : List (Int × Int)} {b : Bool} (h : RRow w v R) (c0 : w.cell? ⟨C, 0, none⟩ = some (.bool b)) (k : Kept C w w') : RRow w' v R := by
  obtain ⟨ao, cap, h1, h2⟩ := h
  refine ⟨ao, cap, h1, fun hp => ?_⟩
  obtain ⟨g, e, hg, hc⟩ := h2 hp
  have hgC : g ≠ C := by
    rintro rfl
    have := (hc 0 hp).1
    rw [Nat.zero_mul, c0] at this
    cases this
  exact ⟨g, e, Nat.lt_of_lt_of_le hg k.1, fun i hi => ⟨k.at hgC (hc i hi).1, k.at hgC (hc i hi).2⟩⟩

/-- A list of no table, or of one of one range. -/
def TabQ (w : World) (tv : Value) (r : Int) (q : Option Bool) : Prop :=
  (tv = .slice none 0 0 ∧ q = none) ∨ ∃ s t g lo hi, tv = .slice (some ⟨s, 0, none⟩) 1 1 ∧ w.cell? ⟨s, 0, none⟩ = some (.pointer (some ⟨t, 0, none⟩)) ∧ w.cell? ⟨t, 0, none⟩ = some (.slice (some ⟨g, 0, none⟩) 1 1) ∧ w.cell? ⟨t, 1, none⟩ = some (.slice none 0 0) ∧
    w.cell? ⟨g, 0, none⟩ = some (.int .u16 lo) ∧ w.cell? ⟨g, 1, none⟩ = some (.int .u16 hi) ∧ w.cell? ⟨g, 2, none⟩ = some (.int .u16 1) ∧ 0 ≤ lo ∧ 0 ≤ hi ∧ hi ≤ 65535 ∧ q = some (decide (lo ≤ r) && decide (r ≤ hi))
theorem TabQ.kept {C : Nat} {w w' : World} {tv : Value} {r : Int} {q : Option Bool} {b : Bool} (h : TabQ w tv r q) (c0 : w.cell? ⟨C, 0, none⟩ = some (.bool b)) (k : Kept C w w') : TabQ w' tv r q := by
  rcases h with h | ⟨s, t, g, lo, hi, e, hs, ht, ht1, g0, g1, g2, rest⟩
  · exact .inl h
  · have n1 : s ≠ C := by rintro rfl; rw [c0] at hs; cases hs
    have n2 : t ≠ C := by rintro rfl; rw [c0] at ht; cases ht
    have n3 : g ≠ C := by rintro rfl; rw [c0] at g0; cases g0
    exact .inr ⟨s, t, g, lo, hi, e, k.at n1 hs, k.at n2 ht, k.at n2 ht1, k.at n3 g0, k.at n3 g1, k.at n3 g2, rest⟩

theorem TabQ.one {w : World} {tv : Value} {r : Int} {q : Option Bool} (h : TabQ w tv r q) (r0 : -2147483648 ≤ r) (r1 : r ≤ 2147483647) :
    ∃ qa : Option Addr, SlOne w tv qa ∧ (qa = none → q = none) ∧ ∀ p, qa = some p → ∃ b, q = some b ∧ ∀ n, Calls Yba.prog 23 #[.pointer (some p), .int .i32 r] (w.drewN n) fun e w' => e = .returned (.bool b) ∧ ∃ m, w' = w.drewN m := by
  rcases h with ⟨rfl, rfl⟩ | ⟨s, t, g, lo, hi, rfl, hs, ht, ht1, g0, g1, g2, l0, h0, h1, rfl⟩
  · exact ⟨none, ⟨none, 0, 0, rfl, .inl ⟨rfl, rfl⟩⟩, fun _ => rfl, fun p h => by cases h⟩
  · refine ⟨some ⟨t, 0, none⟩, ⟨_, _, _, rfl, .inr ⟨rfl, s, _, rfl, hs, rfl⟩⟩, fun h => (by cases h), fun p hp => ?_⟩
    cases hp
    refine ⟨_, rfl, fun n => ?_⟩
    refine (is_any g t lo hi r (w.drewN n) g0 g1 g2 ht ht1 l0 h0 h1 r0 r1).mono ?_
    rintro e w' ⟨he, m, hm⟩
    exact ⟨he, n + m, by rw [hm, World.drewN_drewN]⟩

/-- The block B holds xs. -/
def ACells (B : Nat) (w : World) (xs : List Value) : Prop := ∀ j u, xs[j]? = some u → w.cell? ⟨B, j, none⟩ = some u
theorem ACells.kept {B C : Nat} {w w' : World} {xs : List Value} (h : ACells B w xs) (hB : B ≠ C) (k : Kept C w w') : ACells B w' xs := fun j u hj => k.at hB (h j u hj)

/-- What holds between the statements. -/
def Inv (w : World) (C B : Nat) (xs : List Value) (neg : Bool) (v : Value) (R : List (Int × Int)) (r : Int) (W : World) (tv nv ov : Value) (qt qn : Option Bool) : Prop :=
  Below w.heap.size w W ∧ (w.heap.size ≤ C ∧ C < W.heap.size ∧ B < C ∧ ∀ j, W.frozen? ⟨C, j, none⟩ = false) ∧ ACells B W xs ∧ (W.cell? ⟨C, 0, none⟩ = some (.bool neg) ∧ W.cell? ⟨C, 1, none⟩ = some v ∧ W.cell? ⟨C, 2, none⟩ = some tv ∧ W.cell? ⟨C, 3, none⟩ = some nv ∧ W.cell? ⟨C, 4, none⟩ = some ov) ∧ RRow W v R ∧ TabQ W tv r qt ∧ TabQ W nv r qn

theorem IsRow.later {k : IntKind} {w w' : World} {a : Option Addr} {len cap : Nat} {zs : List Int} (h : IsRow k w a len cap zs) (hb : Below w.heap.size w w') : IsRow k w' a len cap zs := by
  rcases h with h | ⟨x, h1, h2, h3, h4, hc, h5⟩
  · exact .inl h
  · refine .inr ⟨x, h1, h2, h3, h4, fun i hi => ?_, h5⟩
    rw [hb.cell (block_lt_of_cell (hc i hi))]; exact hc i hi

/-- A table is made, and its list is laid into the cell o of the block C. -/
theorem tab_step (w W w3 W' : World) (C o : Nat) (lo hi r : Int) (u : Value)
    (hw3 : w3 = (W.alloc (.cells #[.int .u16 lo, .int .u16 hi, .int .u16 1] 73)).alloc (.cells #[.slice (some ⟨W.heap.size, 0, none⟩) 1 1, .slice none 0 0, .int .i64 0] 77))
    (hW : W' = (w3.alloc (.cells #[.pointer (some ⟨W.heap.size + 1, 0, none⟩)] 49)).setCell ⟨C, o, none⟩ (.slice (some ⟨w3.heap.size, 0, none⟩) 1 1))
    (hC : C < W.heap.size) (hu : W.cell? ⟨C, o, none⟩ = some u) (hb : Below w.heap.size w W) (hw : w.heap.size ≤ C) (l0 : 0 ≤ lo) (h0 : 0 ≤ hi) (h1 : hi ≤ 65535) :
    (∀ j, W'.frozen? ⟨C, j, none⟩ = W.frozen? ⟨C, j, none⟩) ∧ Kept C W W' ∧ Below w.heap.size w W' ∧ W'.cell? ⟨C, o, none⟩ = some (.slice (some ⟨w3.heap.size, 0, none⟩) 1 1) ∧ (∀ j v, j ≠ o → W.cell? ⟨C, j, none⟩ = some v → W'.cell? ⟨C, j, none⟩ = some v) ∧ TabQ W' (.slice (some ⟨w3.heap.size, 0, none⟩) 1 1) r (some (decide (lo ≤ r) && decide (r ≤ hi))) := by
  have hs : w3.heap.size = W.heap.size + 1 + 1 := by rw [hw3]; simp
  obtain ⟨o3, ho3⟩ : ∃ o3, o3 = Obj.cells #[.pointer (some ⟨W.heap.size + 1, 0, none⟩)] 49 := ⟨_, rfl⟩
  rw [← ho3] at hW
  have k3 : Kept C W w3 := by rw [hw3]; exact ((Kept.refl _ _).alloc _).alloc _
  have b3 : Below w.heap.size w w3 := by rw [hw3]; exact (hb.alloc hb.size _).alloc (by have := hb.size; simp; omega) _
  have old : ∀ (p : Addr) v, p.block < w3.heap.size → p ≠ ⟨C, o, none⟩ → w3.cell? p = some v → W'.cell? p = some v := by
    intro p v hp hn hv
    rw [hW, World.cell?_setCell_other (h := fun e => hn e.symm), World.cell?_alloc_lt _ _ _ hp]; exact hv
  have w3C : ∀ j v, W.cell? ⟨C, j, none⟩ = some v → w3.cell? ⟨C, j, none⟩ = some v := by
    intro j v hv
    rw [hw3, World.cell?_alloc_lt _ _ _ (by simp; omega), World.cell?_alloc_lt _ _ _ (by exact hC)]; exact hv
  have cT : ∀ j v, (#[.slice (some ⟨W.heap.size, 0, none⟩) 1 1, .slice none 0 0, .int .i64 0] : Array Value)[j]? = some v → W'.cell? ⟨W.heap.size + 1, j, none⟩ = some v := by
    intro j v hj
    refine old _ _ (by rw [hs]; simp) (by intro e; cases e; omega) ?_
    rw [hw3, show W.heap.size + 1 = (W.alloc (.cells #[.int .u16 lo, .int .u16 hi, .int .u16 1] 73)).heap.size by simp, World.cell?_alloc_new]; exact hj
  have cG : ∀ j v, (#[.int .u16 lo, .int .u16 hi, .int .u16 1] : Array Value)[j]? = some v → W'.cell? ⟨W.heap.size, j, none⟩ = some v := by
    intro j v hj
    refine old _ _ (by rw [hs]; simp; omega) (by intro e; cases e; omega) ?_
    rw [hw3, World.cell?_alloc_lt _ _ _ (by simp), World.cell?_alloc_new]; exact hj
  have cS : W'.cell? ⟨w3.heap.size, 0, none⟩ = some (.pointer (some ⟨W.heap.size + 1, 0, none⟩)) := by
    rw [hW, World.cell?_setCell_other (h := by intro e; cases e; omega), ho3, World.cell?_alloc_new]; rfl
  refine ⟨?_, ?_, ?_, ?_, ?_, .inr ⟨w3.heap.size, W.heap.size + 1, W.heap.size, lo, hi, rfl, cS, cT 0 _ rfl, cT 1 _ rfl, cG 0 _ rfl, cG 1 _ rfl, cG 2 _ rfl, l0, h0, h1, rfl⟩⟩
  · intro j
    rw [hW, World.frozen?_setCell, World.frozen?_alloc_past _ _ _ (by omega), hw3, World.frozen?_alloc_past _ _ _ (by simp; omega), World.frozen?_alloc_past _ _ _ (by omega)]
  · rw [hW]; exact (k3.alloc _).setCell rfl _
  · rw [hW]; exact (b3.alloc b3.size _).setCell hw _
  · rw [hW]
    refine World.cell?_setCell_same _ _ _ (u := u) ?_
    rw [World.cell?_alloc_lt _ _ _ (by rw [hs]; simp; omega)]; exact w3C o u hu
  · intro j v hj hv
    exact old _ _ (by rw [hs]; simp; omega) (by intro e; cases e; exact hj rfl) (w3C j v hv)
end Go.Proofs.Ybulkatic

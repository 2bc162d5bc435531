import Derived.Test.YbulkaticMk
import Derived.Test.YbulkaticTab
namespace Go.Proofs.Ybulkatic
open Go.RowKit

/-- The world is kept, but for the blocks S. -/
structure Kp (S : List Nat) (w w' : World) : Prop where
  os : w'.os = w.os
  tape : w'.tape = w.tape
  output : w'.output = w.output
  size : w.heap.size ≤ w'.heap.size
  block : ∀ b, b < w.heap.size → b ∉ S → w'.heap[b]? = w.heap[b]?

theorem Kp.refl (S : List Nat) (w : World) : Kp S w w := ⟨rfl, rfl, rfl, Nat.le_refl _, fun _ _ _ => rfl⟩
theorem Kp.trans {S : List Nat} {a b c : World} (h : Kp S a b) (k : Kp S b c) : Kp S a c :=
  ⟨k.os.trans h.os, k.tape.trans h.tape, k.output.trans h.output, Nat.le_trans h.size k.size, fun i hi hn => (k.block i (Nat.lt_of_lt_of_le hi h.size) hn).trans (h.block i hi hn)⟩
theorem Kp.of_below {S : List Nat} {w w' : World} (h : Below w.heap.size w w') : Kp S w w' := ⟨h.os, h.tape, h.output, h.size, fun b hb _ => h.block b hb⟩
theorem Kp.mono {S T : List Nat} {w w' : World} (h : Kp S w w') (hs : ∀ b, b ∈ S → b ∈ T) : Kp T w w' := ⟨h.os, h.tape, h.output, h.size, fun b hb hn => h.block b hb fun e => hn (hs b e)⟩
theorem Kp.alloc {S : List Nat} {a w : World} (h : Kp S a w) (o : Obj) : Kp S a (w.alloc o) :=
  h.trans (Kp.of_below ((Below.refl _ w).alloc (Nat.le_refl _) o))
theorem Kp.setCell {S : List Nat} {a w : World} (h : Kp S a w) {p : Addr} (hp : p.block ∈ S) (u : Value) : Kp S a (w.setCell p u) :=
  h.trans ⟨rfl, rfl, rfl, by simp [World.setCell], fun b _ hn => Below.heap_setCell _ _ _ _ (fun e => hn (e ▸ hp))⟩
theorem Kp.drewN {S : List Nat} {a w : World} (h : Kp S a w) (n : Nat) : Kp S a (w.drewN n) := h.trans ⟨rfl, rfl, rfl, Nat.le_refl _, fun _ _ _ => rfl⟩
theorem Kp.cell {S : List Nat} {w w' : World} (h : Kp S w w') {p : Addr} (hp : p.block < w.heap.size) (hn : p.block ∉ S) : w'.cell? p = w.cell? p := World.cell?_of_block (w := w) (h.block p.block hp hn)
theorem Kp.frozen {S : List Nat} {w w' : World} (h : Kp S w w') {p : Addr} (hp : p.block < w.heap.size) (hn : p.block ∉ S) : w'.frozen? p = w.frozen? p := World.frozen?_of_block (w := w) (h.block p.block hp hn)
theorem Kp.below {S : List Nat} {w w' : World} {B : Nat} (h : Kp S w w') (hB : B ≤ w.heap.size) (hS : ∀ b, b ∈ S → B ≤ b) : Below B w w' :=
  ⟨h.os, h.tape, h.output, h.size, fun b hb => h.block b (by omega) fun e => by have := hS b e; omega⟩

/-- The block g holds the ranges E, and may be written. -/
def RowAt (w : World) (g : Nat) (E : List (Int × Int)) : Prop :=
  g < w.heap.size ∧ ∀ i, i < E.length → (w.cell? ⟨g, i * 2, none⟩ = some (.int .i32 (rlo E i)) ∧ w.frozen? ⟨g, i * 2, none⟩ = false) ∧ w.cell? ⟨g, i * 2 + 1, none⟩ = some (.int .i32 (rhi E i)) ∧ w.frozen? ⟨g, i * 2 + 1, none⟩ = false

theorem RowAt.kept {S : List Nat} {w w' : World} {g : Nat} {E : List (Int × Int)} (h : RowAt w g E) (k : Kp S w w') (hg : g ∉ S) : RowAt w' g E := by
  refine ⟨Nat.lt_of_lt_of_le h.1 k.size, fun i hi => ?_⟩
  rw [k.cell (by exact h.1) (by exact hg), k.cell (by exact h.1) (by exact hg), k.frozen (by exact h.1) (by exact hg), k.frozen (by exact h.1) (by exact hg)]
  exact h.2 i hi
theorem RowAt.row {w : World} {g : Nat} {E : List (Int × Int)} (h : RowAt w g E) (cap : Nat) : RRow w (.slice (some ⟨g, 0, none⟩) E.length cap) E :=
  ⟨_, cap, rfl, fun _ => ⟨g, rfl, h.1, fun i hi => ⟨(h.2 i hi).1.1, (h.2 i hi).2.1⟩⟩⟩

theorem RRow.kept2 {S : List Nat} {w w' : World} {v : Value} {R : List (Int × Int)} (h : RRow w v R) (k : Kp S w w') (hS : ∀ g n c, v = .slice (some ⟨g, 0, none⟩) n c → g ∉ S) : RRow w' v R := by
  obtain ⟨ao, cap, h1, h2⟩ := h
  refine ⟨ao, cap, h1, fun hp => ?_⟩
  obtain ⟨g, e, hg, hc⟩ := h2 hp
  have hn := hS g _ _ (by rw [h1, e])
  refine ⟨g, e, Nat.lt_of_lt_of_le hg k.size, fun i hi => ?_⟩
  rw [k.cell (by exact hg) (by exact hn), k.cell (by exact hg) (by exact hn)]
  exact hc i hi

/-- What the call has made: a row of ranges at a block of its own. -/
theorem rowAt_of {w : World} {base n : Nat} {v : Value} {R : List (Int × Int)} (h : w.ownsRow base 36 2 v n (rcs R)) (hv : v ≠ .slice none 0 0) :
    ∃ g cap, v = .slice (some ⟨g, 0, none⟩) n cap ∧ base ≤ g ∧ n ≤ cap ∧ cap ≤ maxLen ∧ RowAt w g R := by
  rcases id h.2 with ⟨rfl, h0⟩ | ⟨g, cap, cur, rfl, hg, hh, hn, hm, -⟩
  · exact absurd rfl hv
  · refine ⟨g, cap, rfl, hg, hn, hm, ?_, fun i hi => ?_⟩
    · rcases Nat.lt_or_ge g w.heap.size with hx | hx
      · exact hx
      · rw [Array.getElem?_eq_none hx] at hh; cases hh
    · obtain ⟨e1, e2⟩ := rcs_at R i hi
      have c1 := h.cells (g := g) rfl _ _ e1
      have c2 := h.cells (g := g) rfl _ _ e2
      rw [Addr.add_mid] at c1 c2
      rw [Nat.zero_add] at c1 c2
      refine ⟨⟨c1, ?_⟩, c2, ?_⟩ <;> · rw [World.frozen?]; simp [hh]

/-- The set at the block C. -/
structure Cls (w : World) (C : Nat) (neg : Bool) (v ov : Value) (x y : Int) : Prop where
  lt : C < w.heap.size
  c0 : w.cell? ⟨C, 0, none⟩ = some (.bool neg)
  c1 : w.cell? ⟨C, 1, none⟩ = some v
  c2 : w.cell? ⟨C, 2, none⟩ = some (.slice none 0 0)
  c3 : w.cell? ⟨C, 3, none⟩ = some (.slice none 0 0)
  c4 : w.cell? ⟨C, 4, none⟩ = some ov
  c5 : w.cell? ⟨C, 5, none⟩ = some (.int .u64 x)
  c6 : w.cell? ⟨C, 6, none⟩ = some (.int .u64 y)
  fz : ∀ j, w.frozen? ⟨C, j, none⟩ = false
theorem Cls.kept {S : List Nat} {w w' : World} {C : Nat} {neg : Bool} {v ov : Value} {x y : Int} (h : Cls w C neg v ov x y) (k : Kp S w w') (hC : C ∉ S) : Cls w' C neg v ov x y := by
  have e : ∀ j, w'.cell? ⟨C, j, none⟩ = w.cell? ⟨C, j, none⟩ := fun j => k.cell (by exact h.lt) (by exact hC)
  exact ⟨Nat.lt_of_lt_of_le h.lt k.size, by rw [e]; exact h.c0, by rw [e]; exact h.c1, by rw [e]; exact h.c2, by rw [e]; exact h.c3, by rw [e]; exact h.c4, by rw [e]; exact h.c5, by rw [e]; exact h.c6, fun j => by rw [k.frozen (by exact h.lt) (by exact hC)]; exact h.fz j⟩
end Go.Proofs.Ybulkatic

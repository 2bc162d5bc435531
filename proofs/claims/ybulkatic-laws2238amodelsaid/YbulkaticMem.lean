/-
  MEMBERS IN MEMORY: a row of members (four cells each), and what a store does to it. Of whatever program.
-/
import Derived.Test.YbulkaticUni
import Derived.WalkKit
import Derived.Deep.MidRow
import Derived.Deep.Draws
namespace Go.Proofs.Ybulkatic
open Go.RowKit

/-- GUARDS FOR AN ARM OF A WALK ('with_reducible refine at_load 61 ?_'): they fit at a load (a store) of that type alone, and fail at once elsewhere. -/
theorem at_load (ty : TypeId) {P : Program} {ops : Array Oper} {Q : Exit → Act → World → Prop} {d : Option Tmp} {x : Operand} {t : TypeId} {pos : String} {after : Array Edge} {g : Option (Nat × Bool)} {rest : List Oper} {a : Act} {w : World}
    (h : wpList P ops Q (⟨d, .load ty x, t, pos, after, g⟩ :: rest) a w) : wpList P ops Q (⟨d, .load ty x, t, pos, after, g⟩ :: rest) a w := h
theorem at_store (ty : TypeId) {P : Program} {ops : Array Oper} {Q : Exit → Act → World → Prop} {d : Option Tmp} {x y : Operand} {t : TypeId} {pos : String} {after : Array Edge} {g : Option (Nat × Bool)} {rest : List Oper} {a : Act} {w : World}
    (h : wpList P ops Q (⟨d, .store ty x y, t, pos, after, g⟩ :: rest) a w) : wpList P ops Q (⟨d, .store ty x y, t, pos, after, g⟩ :: rest) a w := h

/-- Of the blocks that were there, block M alone may have turned. -/
structure Only (M : Nat) (w w' : World) : Prop where
  os : w'.os = w.os
  tape : w'.tape = w.tape
  output : w'.output = w.output
  size : w.heap.size ≤ w'.heap.size
  block : ∀ k, k < w.heap.size → k ≠ M → w'.heap[k]? = w.heap[k]?

theorem Only.refl (M : Nat) (w : World) : Only M w w := ⟨rfl, rfl, rfl, Nat.le_refl _, fun _ _ _ => rfl⟩
theorem Only.trans {M : Nat} {a b c : World} (h : Only M a b) (k : Only M b c) : Only M a c :=
  ⟨k.os.trans h.os, k.tape.trans h.tape, k.output.trans h.output, Nat.le_trans h.size k.size, fun i hi hne => (k.block i (Nat.lt_of_lt_of_le hi h.size) hne).trans (h.block i hi hne)⟩
theorem Only.of_below {M : Nat} {w w' : World} (h : Below w.heap.size w w') : Only M w w' := ⟨h.os, h.tape, h.output, h.size, fun k hk _ => h.block k hk⟩
theorem Only.below {M B : Nat} {w w' : World} (h : Only M w w') (h1 : B ≤ M) (h2 : B ≤ w.heap.size) : Below B w w' := ⟨h.os, h.tape, h.output, h.size, fun k hk => h.block k (by omega) (by omega)⟩
theorem Only.drew {M : Nat} {a w : World} (h : Only M a w) : Only M a w.drew := ⟨h.os, h.tape, h.output, h.size, h.block⟩
theorem Only.drewN {M : Nat} {a w : World} (h : Only M a w) (n : Nat) : Only M a (w.drewN n) := ⟨h.os, h.tape, h.output, h.size, h.block⟩

theorem setCells_rest (b : Nat) : ∀ (vs : List Value) (o : Nat) (w : World), (w.setCells b o vs).os = w.os ∧ (w.setCells b o vs).tape = w.tape ∧ (w.setCells b o vs).output = w.output ∧ (w.setCells b o vs).heap.size = w.heap.size ∧ ∀ k, k ≠ b → (w.setCells b o vs).heap[k]? = w.heap[k]?
  | [], _, _ => ⟨rfl, rfl, rfl, rfl, fun _ _ => rfl⟩
  | v :: r, o, w => by
    obtain ⟨h1, h2, h3, h4, h5⟩ := setCells_rest b r (o + 1) (w.setCell ⟨b, o, none⟩ v)
    refine ⟨h1, h2, h3, ?_, fun k hk => ?_⟩
    · rw [World.setCells, h4]; simp
    · rw [World.setCells, h5 k hk, Below.heap_setCell _ _ _ _ hk]
theorem Only.setCells {M : Nat} {a w : World} (h : Only M a w) (o : Nat) (vs : List Value) : Only M a (w.setCells M o vs) := by
  obtain ⟨h1, h2, h3, h4, h5⟩ := setCells_rest M vs o w
  exact h.trans ⟨h1, h2, h3, by omega, fun k _ hk => h5 k hk⟩

/-- A member's cells. -/
def mem (p : ByteArray × ByteArray) : List Value := [.string p.1, .int .u8 0, .string p.2, .slice none 0 0]
/-- A value's cells. -/
def vals (t : ByteArray) : List Value := [.int .u8 0, .string t, .slice none 0 0]
/-- Block M holds the members X, and may be written. -/
def IsMem (w : World) (M : Nat) (X : List (ByteArray × ByteArray)) : Prop := (∀ i, i < X.length → w.rangeAt M (i * 4) (mem (X.getD i zp))) ∧ w.there M 0 (X.length * 4)

theorem IsMem.of_block {w w' : World} {M : Nat} {X : List (ByteArray × ByteArray)} (h : IsMem w M X) (hb : w'.heap[M]? = w.heap[M]?) : IsMem w' M X :=
  ⟨fun i hi j v hv => by rw [World.cell?_of_block (w := w) (by exact hb)]; exact h.1 i hi j v hv,
   fun j hj => by rw [World.cell?_of_block (w := w) (by exact hb), World.frozen?_of_block (w := w) (by exact hb)]; exact h.2 j hj⟩
theorem IsMem.lt {w : World} {M : Nat} {X : List (ByteArray × ByteArray)} (h : IsMem w M X) (hp : 0 < X.length) : M < w.heap.size :=
  block_lt_of_cell (h.1 0 hp 0 _ rfl)
theorem IsMem.drew {w : World} {M : Nat} {X : List (ByteArray × ByteArray)} (h : IsMem w M X) : IsMem w.drew M X := h.of_block rfl
theorem IsMem.drewN {w : World} {M : Nat} {X : List (ByteArray × ByteArray)} (h : IsMem w M X) (n : Nat) : IsMem (w.drewN n) M X := h.of_block rfl

theorem IsMem.name {w : World} {M : Nat} {X : List (ByteArray × ByteArray)} (h : IsMem w M X) {i : Nat} (hi : i < X.length) : w.cell? ⟨M, i * 4, none⟩ = some (.string (X.getD i zp).1) := h.1 i hi 0 _ rfl
theorem IsMem.kind {w : World} {M : Nat} {X : List (ByteArray × ByteArray)} (h : IsMem w M X) {i : Nat} (hi : i < X.length) : w.cell? ⟨M, i * 4 + 1, none⟩ = some (.int .u8 0) := h.1 i hi 1 _ rfl
theorem IsMem.text {w : World} {M : Nat} {X : List (ByteArray × ByteArray)} (h : IsMem w M X) {i : Nat} (hi : i < X.length) : w.cell? ⟨M, i * 4 + 2, none⟩ = some (.string (X.getD i zp).2) := h.1 i hi 2 _ rfl
theorem IsMem.chil {w : World} {M : Nat} {X : List (ByteArray × ByteArray)} (h : IsMem w M X) {i : Nat} (hi : i < X.length) : w.cell? ⟨M, i * 4 + 3, none⟩ = some (.slice none 0 0) := h.1 i hi 3 _ rfl
theorem IsMem.val {w : World} {M : Nat} {X : List (ByteArray × ByteArray)} (h : IsMem w M X) {i : Nat} (hi : i < X.length) : w.rangeAt M (i * 4 + 1) (vals (X.getD i zp).2) := fun j v hv => by
  have := h.1 i hi (j + 1) v (by simpa [mem, vals] using hv)
  rw [← this]; congr 2; omega
theorem IsMem.whole {w : World} {M : Nat} {X : List (ByteArray × ByteArray)} (h : IsMem w M X) {i : Nat} (hi : i < X.length) : w.rangeAt M (i * 4) (mem (X.getD i zp)) := h.1 i hi
theorem IsMem.thereAll {w : World} {M : Nat} {X : List (ByteArray × ByteArray)} (h : IsMem w M X) {i : Nat} (hi : i < X.length) : w.there M (i * 4) 4 := fun j hj => by
  have := h.2 (i * 4 + j) (by omega)
  rw [show 0 + (i * 4 + j) = i * 4 + j by omega] at this; exact this
theorem IsMem.thereVal {w : World} {M : Nat} {X : List (ByteArray × ByteArray)} (h : IsMem w M X) {i : Nat} (hi : i < X.length) : w.there M (i * 4 + 1) 3 := fun j hj => by
  have := h.2 (i * 4 + (1 + j)) (by omega)
  rw [show 0 + (i * 4 + (1 + j)) = i * 4 + 1 + j by omega] at this; exact this

theorem getD_set_eq {α : Type} {L : List α} {i : Nat} {d x : α} (h : i < L.length) : (L.set i x).getD i d = x := by
  simp [List.getD_eq_getElem?_getD, h]
theorem getD_set_ne {α : Type} {L : List α} {i j : Nat} {d x : α} (h : i ≠ j) : (L.set i x).getD j d = L.getD j d := by
  simp [List.getD_eq_getElem?_getD, h]

theorem IsMem.setAll {w : World} {M : Nat} {X : List (ByteArray × ByteArray)} (h : IsMem w M X) {i : Nat} (hi : i < X.length) (p : ByteArray × ByteArray) : IsMem (w.setCells M (i * 4) (mem p)) M (X.set i p) := by
  refine ⟨fun j hj => ?_, ?_⟩
  · by_cases e : i = j
    · subst e
      rw [getD_set_eq hi]
      exact World.rangeAt_setCells_same _ _ _ _ (h.thereAll hi)
    · rw [getD_set_ne e]
      rw [List.length_set] at hj
      exact World.rangeAt_setCells_apart (h.1 j hj) _ _ _ (.inr (by simp [mem]; omega))
  · rw [List.length_set]; exact World.there_setCells h.2 _ _ _

theorem IsMem.setVal {w : World} {M : Nat} {X : List (ByteArray × ByteArray)} (h : IsMem w M X) {i : Nat} (hi : i < X.length) (t : ByteArray) : IsMem (w.setCells M (i * 4 + 1) (vals t)) M (X.set i ((X.getD i zp).1, t)) := by
  refine ⟨fun j hj => ?_, ?_⟩
  · by_cases e : i = j
    · subst e
      rw [getD_set_eq hi]
      have h1 := World.rangeAt_setCells_same w M (i * 4 + 1) (vals t) (h.thereVal hi)
      have h0 : (w.setCells M (i * 4 + 1) (vals t)).cell? ⟨M, i * 4, none⟩ = some (.string (X.getD i zp).1) := by
        rw [World.cell?_setCells_out M (vals t) _ w _ (fun _ _ => .inl (by show i * 4 < _; omega))]
        exact h.name hi
      intro k v hv
      match k, hv with
      | 0, hv => simp [mem] at hv; subst hv; exact h0
      | k + 1, hv =>
        have := h1 k v (by simpa [mem, vals] using hv)
        rw [← this]; congr 2; omega
    · rw [getD_set_ne e]
      rw [List.length_set] at hj
      exact World.rangeAt_setCells_apart (h.1 j hj) _ _ _ (.inr (by simp [mem, vals]; omega))
  · rw [List.length_set]; exact World.there_setCells h.2 _ _ _

/-- Zero cells of so many members. -/
def zcs (k : Nat) : List Value := (List.replicate k zp).flatMap mem
theorem zcs_len (k : Nat) : (zcs k).length = k * 4 := by
  induction k with
  | zero => rfl
  | succ k ih => simp only [zcs, List.replicate_succ, List.flatMap_cons, List.length_append] at *; rw [ih]; simp [mem]; omega
theorem zcs_at (k : Nat) : ∀ j i v, j < k → (mem zp)[i]? = some v → (zcs k)[j * 4 + i]? = some v := by
  induction k with
  | zero => intro j i v hj; omega
  | succ k ih =>
    intro j i v hj hv
    have hi : i < 4 := by simpa [mem] using (List.getElem?_eq_some_iff.1 hv).1
    simp only [zcs, List.replicate_succ, List.flatMap_cons]
    match j with
    | 0 =>
      rw [List.getElem?_append_left (by simp [mem]; omega)]
      simpa using hv
    | j + 1 =>
      rw [List.getElem?_append_right (by simp [mem]; omega)]
      have := ih j i v (by omega) hv
      rw [← this]; congr 1; simp [mem]; omega

theorem IsMem.cleared {w : World} {M : Nat} {X : List (ByteArray × ByteArray)} (h : IsMem w M X) {k : Nat} (hk : k ≤ X.length) : IsMem (w.setCells M (k * 4) (zcs (X.length - k))) M (X.take k ++ List.replicate (X.length - k) zp) := by
  have hl : (X.take k ++ List.replicate (X.length - k) zp).length = X.length := by simp; omega
  refine ⟨fun j hj => ?_, ?_⟩
  · rw [hl] at hj
    by_cases e : j < k
    · have : (X.take k ++ List.replicate (X.length - k) zp).getD j zp = X.getD j zp := by
        rw [getD_at (by omega), getD_at hj, List.getElem_append_left (by simp; omega)]; simp
      rw [this]
      exact World.rangeAt_setCells_apart (h.1 j hj) _ _ _ (.inr (by simp [mem, zcs_len]; omega))
    · have : (X.take k ++ List.replicate (X.length - k) zp).getD j zp = zp := by
        rw [getD_at (by omega), List.getElem_append_right (by simp; omega)]; simp
      rw [this]
      have ht : w.there M (k * 4) (zcs (X.length - k)).length := fun i hi => by
        rw [zcs_len] at hi
        have := h.2 (k * 4 + i) (by omega)
        rw [show 0 + (k * 4 + i) = k * 4 + i by omega] at this; exact this
      have h1 := World.rangeAt_setCells_same w M (k * 4) _ ht
      intro i v hv
      have := h1 ((j - k) * 4 + i) v (zcs_at _ _ _ _ (by omega) hv)
      rw [← this]; congr 2; omega
  · rw [hl]; exact World.there_setCells h.2 _ _ _
end Go.Proofs.Ybulkatic

/-
  SMALL LAWS ON WIDE VALUES (a struct of many cells, by value), of whatever program: after the kit's own Deep/MidRow.
-/
import Derived.WalkKit
import Derived.Deep.MidRow
import Derived.Deep.AppendLies
import Derived.Deep.WholeRow
namespace Go.Proofs.Ybulkatdu
open Go.RowKit

theorem foldl_set (cs : List Value) : ∀ (k : Nat) (acc : Array Value), k + cs.length = acc.size →
    (cs.zipIdx k).foldl (fun a (p : Value × Nat) => a.setIfInBounds p.2 p.1) acc = (acc.toList.take k ++ cs).toArray := by
  induction cs with
  | nil =>
    intro k acc h
    simp at h
    simp [← h, List.take_of_length_le]
  | cons c cs ih =>
    intro k acc h
    simp only [List.length_cons] at h
    simp only [List.zipIdx_cons, List.foldl_cons]
    rw [ih (k + 1) _ (by simp; omega)]
    congr 1
    have hk : k < acc.toList.length := by simp; omega
    rw [show (acc.setIfInBounds k c).toList = acc.toList.set k c by simp]
    rw [List.take_succ_eq_append_getElem (by simp; omega)]
    simp [List.take_set_of_le]

variable {P : Program}

/-- A slice of one wide element: the element's cells lie in a new block. -/
theorem run_buildSlice_one (w : World) (t e : TypeId) (i : TypeInfo) (z : Value) (cs : List Value) (ht : P.underlying t = some (.slice e)) (hi : P.info? e = some i) (hz : i.zero = some z) (hs : i.size = cs.length) (hc : 0 < cs.length) (hc2 : cs.length ≤ 16777216) :
    (Instr.buildSlice t 1 #[(0, .agg cs.toArray)]).run P w = .ok (.slice (some ⟨w.heap.size, 0, none⟩) 1 1) (w.alloc (.cells cs.toArray e)) := by
  have hf : Instr.fill (fun j => some (j * cs.length, cs.length)) ((Array.range (1 * cs.length)).map fun j => z.cells[j % z.cells.size]!) [(0, .agg cs.toArray)] = some cs.toArray := by
    have h1 := foldl_set cs 0 ((Array.range (1 * cs.length)).map fun j => z.cells[j % z.cells.size]!) (by simp)
    have hv : (Value.agg cs.toArray).cells = cs.toArray := rfl
    simp only [Instr.fill, hv]
    simp only [Nat.zero_mul, Nat.zero_add, Nat.one_mul, List.size_toArray, Array.size_map, Array.size_range, ne_eq, not_true, decide_false, Bool.false_or, gt_iff_lt, Nat.lt_irrefl, Bool.false_eq_true, if_false]
    congr 1
    rw [← Array.foldl_toList]
    simpa using h1
  have h0 : ¬ (1 * cs.length > 2 ^ 24) := by simp; omega
  have h1 : ¬ (1 * cs.length = 0) := by omega
  simp only [Instr.buildSlice, Sem.run_bind, run_underlying ht, Result.andThen_ok, sizeOf, typeInfo, run_program, hi, hs, Sem.run_pure]
  rw [if_neg h0, if_neg h1]
  simp [zeroValue, typeInfo, run_program, hi, hz, Sem.run_bind]
  simp only [Nat.one_mul] at hf
  rw [hf]
  simp [newRow]

theorem wp_buildSlice_one {o : Oper} {a : Act} {w : World} {K : Act → World → Prop} {Q : Exit → Act → World → Prop} (t : TypeId) (x : Operand) (ho : o.op = .buildSlice t 1 #[(0, x)])
    (e : TypeId) (i : TypeInfo) (z : Value) (cs : List Value) (hx : a.eval x = .agg cs.toArray) (ht : P.underlying t = some (.slice e)) (hi : P.info? e = some i) (hz : i.zero = some z) (hs : i.size = cs.length) (hc : 0 < cs.length) (hc2 : cs.length ≤ 16777216)
    (h : K (a.put o.dst (.slice (some ⟨w.heap.size, 0, none⟩) 1 1)) (w.alloc (.cells cs.toArray e))) : o.wp P a w K Q := by
  unfold Oper.wp execOp
  simp only [ho, List.map_toArray, List.map_cons, List.map_nil, hx, Sem.run_bind, run_buildSlice_one w t e i z cs ht hi hz hs hc hc2, Result.andThen_ok, Sem.run_pure]
  exact h

theorem step_buildSlice_one {ops : Array Oper} {o : Oper} {a : Act} {w : World} {K : Act → World → Prop} {Q : Exit → Act → World → Prop} {E : Prop} (hgd : o.guard = none) (t : TypeId) (x : Operand) (ho : o.op = .buildSlice t 1 #[(0, x)])
    (e : TypeId) (i : TypeInfo) (z : Value) (cs : List Value) (hx : a.eval x = .agg cs.toArray) (ht : P.underlying t = some (.slice e)) (hi : P.info? e = some i) (hz : i.zero = some z) (hs : i.size = cs.length) (hc : 0 < cs.length) (hc2 : cs.length ≤ 16777216)
    (h : K (a.put o.dst (.slice (some ⟨w.heap.size, 0, none⟩) 1 1)) (w.alloc (.cells cs.toArray e))) : if Region.wanted o (yielded ops a.tmps) = true then Oper.wp P o a w K Q else E := by
  have hw : Region.wanted o (yielded ops a.tmps) = true := by simp [Region.wanted, hgd]
  rw [if_pos hw]
  exact wp_buildSlice_one t x ho e i z cs hx ht hi hz hs hc hc2 h

/-- A wide load behind a guard that says yes. -/
theorem wpList_load_mid_if {ops : Array Oper} {rest : List Oper} {op : Oper} {a : Act} {w : World} {Q : Exit → Act → World → Prop} (hw : Region.wanted op (yielded ops a.tmps) = true) (ty : TypeId) (x : Operand) (ho : op.op = .load ty x)
    (b o : Nat) (hx : a.eval x = .pointer (some ⟨b, o, none⟩)) (cs : List Value) (d : TypeDesc) (hc : w.rangeAt b o cs)
    (hu : P.underlying ty = some d) (hd : d.isRow = true) (hi : (P.info? ty).map (·.size) = some cs.length)
    (h : wpList P ops Q rest (a.put op.dst (.agg cs.toArray)) w) : wpList P ops Q (op :: rest) a w :=
  wpList_step fun _ hK => by rw [if_pos hw]; exact wp_load_mid ty x ho b o hx cs d hc hu hd hi (hK _ _ h)

/-- A whole value into the block that was made last. -/
theorem wpList_store_new {ops : Array Oper} {rest : List Oper} {op : Oper} {a : Act} {w' : World} {Q : Exit → Act → World → Prop} (hgd : op.guard = none) (ty : TypeId) (x y : Operand) (ho : op.op = .store ty x y)
    (w : World) (old cells : Array Value) (t : TypeId) (hx : a.eval x = .pointer (some ⟨w.heap.size, 0, none⟩)) (hy : a.eval y = .agg cells) (hw : w' = w.alloc (.cells old t)) (hi : (P.info? ty).map (·.size) = some cells.size)
    (hold : old.size = cells.size) (h1 : cells.all (·.oneCell') = true) (h : wpList P ops Q rest (a.put op.dst undef) (w.alloc (.cells cells t))) : wpList P ops Q (op :: rest) a w' := by
  subst hw
  exact wpList_store_row hgd ty x y ho w.heap.size cells hx hy t old (heap_alloc_new w _) hi hold h1 (by rw [World.setRow_alloc_new]; exact h)

/-- A value built out of two parts. -/
theorem wpList_build2 {ops : Array Oper} {rest : List Oper} {op : Oper} {a : Act} {w : World} {Q : Exit → Act → World → Prop} (hgd : op.guard = none) (t : TypeId) (i0 i1 : Nat) (x0 x1 : Operand) (ho : op.op = .build t #[(i0, x0), (i1, x1)])
    (v0 v1 : Value) (h0 : a.eval x0 = v0) (h1 : a.eval x1 = v1) (cells : Array Value) (hb : P.built t [(i0, v0), (i1, v1)] = some cells)
    (h : wpList P ops Q rest (a.put op.dst (.agg cells)) w) : wpList P ops Q (op :: rest) a w := by
  have e : P.built t ((#[(i0, x0), (i1, x1)] : Array (Nat × Operand)).map fun (i, x) => (i, a.eval x)).toList = some cells := by simpa [h0, h1] using hb
  refine wpList_build hgd t _ ho (by rw [e]; rfl) ?_
  rw [e]
  exact h

theorem rangeAt_below {w w' : World} (hb : Below w.heap.size w w') {g o : Nat} (hg : g < w.heap.size) {cs : List Value} (h : w.rangeAt g o cs) : w'.rangeAt g o cs := fun j v hv => by
  rw [hb.cell (by exact hg)]; exact h j v hv
end Go.Proofs.Ybulkatdu

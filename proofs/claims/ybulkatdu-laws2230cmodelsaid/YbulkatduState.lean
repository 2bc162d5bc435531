import Derived.Test.YbulkatduLook
import Derived.Deep.WholeRow
namespace Go.Proofs.Ybulkatdu
open Go.RowKit
set_option linter.unusedSimpArgs false

/-- The 32 cells of a hash: the first and the last are given. -/
def hcs (x y : Int) : List Value :=
  [.int .u8 x, .int .u8 0, .int .u8 0, .int .u8 0, .int .u8 0, .int .u8 0, .int .u8 0, .int .u8 0, .int .u8 0, .int .u8 0, .int .u8 0, .int .u8 0, .int .u8 0, .int .u8 0, .int .u8 0, .int .u8 0, .int .u8 0,
   .int .u8 0, .int .u8 0, .int .u8 0, .int .u8 0, .int .u8 0, .int .u8 0, .int .u8 0, .int .u8 0, .int .u8 0, .int .u8 0, .int .u8 0, .int .u8 0, .int .u8 0, .int .u8 0, .int .u8 y]
/-- The cells of a state. -/
def scs (b : Bool) (x y : Int) : List Value := .bool b :: hcs x y
theorem scs_all (b : Bool) (x y : Int) : (scs b x y).toArray.all (·.oneCell') = true := by
  rw [Array.all_eq_true_iff_forall_mem]; intro u hu; simp only [scs, hcs, List.mem_toArray, List.mem_cons, List.not_mem_nil, or_false] at hu
  rcases hu with rfl | rfl | rfl | rfl | rfl | rfl | rfl | rfl | rfl | rfl | rfl | rfl | rfl | rfl | rfl | rfl | rfl | rfl | rfl | rfl | rfl | rfl | rfl | rfl | rfl | rfl | rfl | rfl | rfl | rfl | rfl | rfl | rfl <;> rfl
theorem Yba.size36 : (Yba.prog.info? 36).map (·.size) = some 32 := by kernel_rfl
theorem Yba.size44 : (Yba.prog.info? 44).map (·.size) = some 33 := by kernel_rfl
theorem built44 (b : Bool) (x y : Int) : Yba.prog.built 44 [(0, .bool b), (1, .agg (hcs x y).toArray)] = some (scs b x y).toArray := by kernel_rfl
theorem got_all (L : List Nat) (hf : Nat → Int) (q : Nat) : (got L hf q).toArray.all (·.oneCell') = true := by
  unfold got; split
  · exact tc_all _ _
  · exact zc_all
theorem got_len (L : List Nat) (hf : Nat → Int) (q : Nat) : (got L hf q).length = 35 := by unfold got; split <;> rfl
/-- The first and the last byte of what 'lookup' hands back. -/
def gx (L : List Nat) (hf : Nat → Int) (q : Nat) : Int := if L.contains q then hf q else 0
def gy (L : List Nat) (hf : Nat → Int) (q : Nat) : Int := if L.contains q then x5a (hf q) else 0
theorem got_hash (L : List Nat) (hf : Nat → Int) (q : Nat) : ((got L hf q).drop 1).take 32 = hcs (gx L hf q) (gy L hf q) := by
  unfold got gx gy; cases L.contains q <;> rfl

theorem ret_row1 {fn : Func} (h : fn.results = #[.cell 4 44]) (tmps : Array Value) (w : World) (g : Nat) (t : TypeId) (cs : Array Value) (fr : Nat × Nat) (hp : tmps.getD 4 undef = .pointer (some ⟨g, 0, none⟩))
    (hg : w.heap[g]? = some (.cells cs t fr)) (hi : cs.size = 33) : (results fn tmps).run Yba.prog w = .ok (.agg cs) w :=
  results_cell_row h tmps w g t cs fr _ hp hg Yba.underlying44 rfl (by rw [hi]; exact Yba.size44)

theorem rangeAt_setRow {w : World} {g : Nat} {old cs : Array Value} {t : TypeId} {fr : Nat × Nat} (hg : w.heap[g]? = some (.cells old t fr)) (o n : Nat) (l : List Value) (hl : (cs.toList.drop o).take n = l) : (w.setRow g cs).rangeAt g o l := by
  subst hl
  intro j v hv
  rw [cell_setRow_same w g _ old cs t fr hg]
  rw [List.getElem?_take] at hv
  split at hv
  · simpa using hv
  · cases hv

set_option maxRecDepth 100000 in
theorem state_any (G : Nat) (v : Value) (L : List Nat) (hf : Nat → Int) (q : Nat) (w : World) (hG : w.cell? ⟨G, 2, none⟩ = some v) (hv : TRow w v L hf) (hL : L.Pairwise (· < ·)) (hq : q < 8) (h8 : ∀ i ∈ L, i < 8) :
    Calls Yba.prog 13 #[.pointer (some ⟨G, 0, none⟩), .string (nm q)] w fun e w' => e = .returned (.agg (scs (L.contains q) (gx L hf q) (gy L hf q)).toArray) ∧ Below w.heap.size w w' := by
  have hGl := block_lt_of_cell hG
  go_enter Yba.func13, Yba.ntmps13
  go_wp2_with fail
  generalize hW : w.alloc _ = W
  replace hW : w.alloc (.cells (scs false 0 0).toArray 44) = W := hW
  have hbW : Below w.heap.size w W := by rw [← hW]; exact (Below.refl _ _).alloc (Nat.le_refl _) _
  have hsW : W.heap.size = w.heap.size + 1 := by rw [← hW]; simp
  have hRW : W.heap[w.heap.size]? = some (.cells (scs false 0 0).toArray 44 (0, 0)) := by rw [← hW]; exact heap_alloc_new _ _
  refine (look_any G v L hf q W (by rw [hbW.cell (by exact hGl)]; exact hG) (hv.later hbW) hL hq h8).mono ?_
  rintro e w1 ⟨rfl, hb⟩
  have hR1 : w1.heap[w.heap.size]? = some (.cells (scs false 0 0).toArray 44 (0, 0)) := by rw [hb.block _ (by omega)]; exact hRW
  have hb1 : Below w.heap.size w w1 := hbW.trans (hb.mono (by omega))
  have hs1 : w.heap.size < w1.heap.size := by have := hb.size; omega
  obtain ⟨ct, hct⟩ : ∃ ct, ct = L.contains q := ⟨_, rfl⟩
  rw [← hct]
  obtain ⟨cs, hcs'⟩ : ∃ cs, cs = got L hf q := ⟨_, rfl⟩
  have hlen : cs.toArray.size = 35 := by rw [hcs']; simpa using got_len L hf q
  have hall : cs.toArray.all (·.oneCell') = true := by rw [hcs']; exact got_all L hf q
  have hhash : (cs.drop 1).take 32 = hcs (gx L hf q) (gy L hf q) := by rw [hcs']; exact got_hash L hf q
  rw [← hcs']
  obtain ⟨x, hx⟩ : ∃ x, x = gx L hf q := ⟨_, rfl⟩
  obtain ⟨y, hy⟩ : ∃ y, y = gy L hf q := ⟨_, rfl⟩
  rw [← hx, ← hy] at hhash
  have HE : Hid (ct = L.contains q ∧ x = gx L hf q ∧ y = gy L hf q) := ⟨hct, hx, hy⟩
  clear hcs' hct hx hy hRW hv hL h8 hG
  have hA : ∀ o, (w1.alloc o).heap[w1.heap.size]? = some o := fun o => heap_alloc_new w1 o
  have k38 : Hid ((Yba.prog.info? 38).map (·.size) = some cs.toArray.size) := by rw [hlen]; exact Yba.size38
  have kz : Hid (zc.toArray.size = cs.toArray.size) := by rw [hlen]; rfl
  clear hlen
  have hrN : (w1.alloc (.cells cs.toArray 38)).rangeAt w1.heap.size 1 (hcs x y) := by
    rw [← World.setRow_alloc_new w1 zc.toArray cs.toArray 38]
    exact rangeAt_setRow (heap_alloc_new _ _) 1 32 _ hhash
  clear hhash
  have hRA : (w1.alloc (.cells cs.toArray 38)).heap[w.heap.size]? = some (.cells (scs false 0 0).toArray 44 (0, 0)) := by rw [Below.heap_alloc _ _ _ hs1]; exact hR1
  go_wp2_with (first
    | (refine wpList_store_new rfl 38 _ _ rfl w1 _ cs.toArray 38 rfl rfl rfl k38.out kz.out hall ?_)
    | (refine wpList_load_mid rfl 36 _ rfl w1.heap.size 1 rfl (hcs x y) _ hrN Yba.underlying36 rfl Yba.size36 ?_)
    | (refine wpList_build2 rfl 44 0 1 _ _ rfl _ _ rfl rfl _ (built44 ct x y) ?_)
    | (refine wpList_store_row rfl 44 _ _ rfl w.heap.size (scs ct x y).toArray rfl rfl 44 (scs false 0 0).toArray hRA Yba.size44 rfl (scs_all _ _ _) ?_))
  refine bodyPost_ret (ret_row1 Yba.results13 _ _ w.heap.size 44 (scs ct x y).toArray (0, 0) rfl (setRow_heap _ w.heap.size _ (scs ct x y).toArray 44 _ hRA) rfl) rfl ⟨?_, below_setRow' (hb1.alloc (Nat.le_of_lt hs1) _) (Nat.le_refl _) _⟩
  obtain ⟨e1, e2, e3⟩ := HE.out
  rw [e1, e2, e3]
end Go.Proofs.Ybulkatdu

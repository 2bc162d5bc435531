import Derived.Test.YbulkatduEq
import Derived.Test.YbulkatduShelf
import Derived.Deep.MidRow
namespace Go.Proofs.Ybulkatdu
open Go.RowKit Go.Sort

/-- The cells of a list of names. -/
def strs (L : List Nat) : List Value := L.map fun q => .string (nm q)

theorem below_sort {ws : World} {B blk off n : Nat} {d : Array (List UInt8)} {os : Array Obj} (hB : B ≤ blk) (hs : B ≤ ws.heap.size) : Go.RowKit.Below B ws (grow (putRow encStr (Sort.ahead ws n) blk off d) os) := by
  refine ⟨rfl, rfl, rfl, by simp, fun k hk => ?_⟩
  rw [heap_grow_old _ _ (by simp; omega)]
  simp only [putRow, mapBlock, Array.getElem?_modify, heap_ahead]
  rw [if_neg (by omega)]

theorem sort_names (v : Value) (AA D : List Nat) (base : Nat) (ws : World) (hown : ws.ownsRow base 9 1 v AA.length (strs AA)) (hl : AA.length ≤ 16) (hD8 : D.length ≤ 8) (hbase : base ≤ ws.heap.size)
    (hD : ((AA.map nmL).mergeSort fun x y => decide (x ≤ y)) = D.map nmL) :
    Calls Yba.prog 12 #[v] ws fun e w' => e = .returned (.tuple #[]) ∧ NmRow w' v D ∧ Go.RowKit.Below base ws w' := by
  have hlen : D.length = AA.length := by
    have := congrArg List.length hD
    simp at this
    omega
  rcases hown.2 with ⟨rfl, h0⟩ | ⟨g, cap, cur, rfl, hg, hh, hn, hm, hs, ht⟩
  · have hA : AA = [] := List.eq_nil_of_length_eq_zero h0
    subst hA
    have hDn : D = [] := List.eq_nil_of_length_eq_zero (by simpa using hlen)
    subst hDn
    refine (Yba.slices_Sort_string_none none 0 ws).mono ?_
    rintro e w' ⟨rfl, rfl⟩
    exact ⟨rfl, ⟨by simp, .inl ⟨rfl, rfl⟩⟩, Go.RowKit.Below.refl _ _⟩
  · have hglt : g < ws.heap.size := by
      rcases Nat.lt_or_ge g ws.heap.size with hx | hx
      · exact hx
      · rw [Array.getElem?_eq_none hx] at hh; cases hh
    have hcell : ∀ j, j < AA.length → ws.cell? ⟨g, 0 + j, none⟩ = some (.string (nm (AA.getD j 0))) := by
      intro j hj
      have hc := hown.cells (g := g) rfl j (.string (nm (AA.getD j 0))) (by
        simp only [strs, List.getElem?_map]
        rw [List.getD_eq_getElem?_getD, List.getElem?_eq_getElem hj]; rfl)
      rw [Addr.add_mid] at hc
      exact hc
    have hH : Holds encStr ws g 0 (AA.map nmL).toArray := by
      intro j hj
      have hj' : j < AA.length := by simpa using hj
      refine ⟨?_, ?_⟩
      · rw [hcell j hj']
        rw [List.getD_eq_getElem?_getD, List.getElem?_eq_getElem hj', getElem!_pos _ j hj]
        simp [nm]
      · rw [World.frozen?]; simp [hh]
    have hc := Yba.slices_Sort_string g 0 cap (AA.map nmL) ws hH hglt (by simp; omega)
    rw [List.length_map] at hc
    refine hc.mono ?_
    rintro e w' ⟨rfl, n, os, rfl⟩
    refine ⟨rfl, ⟨hD8, .inr ⟨g, 0, cap, by rw [hlen], fun j hj => ?_⟩⟩, below_sort hg hbase⟩
    rw [cell?_grow _ _ _ (by simpa using hglt), putRow_ahead, cell?_ahead, hD]
    rw [cell?_putRow encStr ws g 0 _ _ hH (by simp [hlen]) j (by simpa using hj)]
    rw [List.getD_eq_getElem?_getD, List.getElem?_eq_getElem hj, getElem!_pos _ j (by simpa using hj)]
    simp [nm]
end Go.Proofs.Ybulkatdu

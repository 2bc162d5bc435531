import Derived.Test.YbulkaticClo
import Derived.Test.YbulkaticShelf
namespace Go.Proofs.Ybulkatic
open Go.RowKit Go.Sort

/-- A range's two cells, among the characters. -/
def encR (x : Int × Int) : List Value := [.int .i32 (x.1 % 1114112), .int .i32 (x.2 % 1114112)]
def cfR (x y : Int × Int) : Int := x.1 % 1114112 - y.1 % 1114112
theorem ltR (x y : Int × Int) : ltOf cfR x y = decide (x.1 % 1114112 < y.1 % 1114112) := by
  unfold ltOf cfR
  by_cases h : x.1 % 1114112 < y.1 % 1114112
  · rw [decide_eq_true h, decide_eq_true (by omega)]
  · rw [decide_eq_false h, decide_eq_false (by omega)]
theorem swoR : SWO (ltOf cfR) := {
  irrefl := fun x => by rw [ltR]; simp
  trans := fun x y z h1 h2 => by rw [ltR] at *; simp at *; omega
  ntrans := fun x y z h1 h2 => by rw [ltR] at *; simp at *; omega }

theorem lays20 (blk off size : Nat) (w : World) : CmpLays Yba.prog 20 #[] encR 2 cfR blk off size w := by
  intro m os dk _ x y
  refine (clo_any (x.1 % 1114112) (x.2 % 1114112) (y.1 % 1114112) (y.2 % 1114112) _ (by omega) (by omega) (by omega) (by omega)).mono ?_
  rintro e w' ⟨rfl, rfl⟩
  exact ⟨rfl, 0, _, by rw [alloc_eq_grow, alloc_eq_grow, grow_grow]; rfl⟩

theorem kp_sort {ws : World} {g n : Nat} {d : Array (Int × Int)} {os : Array Obj} : Kp [g] ws (sortWorldK encR 2 ws g 0 n d os) := by
  unfold sortWorldK
  refine ⟨rfl, rfl, rfl, by rw [size_grow, size_putRowK]; exact Nat.le_add_right _ _, fun k hk hn => ?_⟩
  rw [heap_grow_old _ _ (by rw [size_putRowK]; exact hk)]
  simp only [putRowK, putRow, mapBlock, Array.getElem?_modify, heap_ahead]
  rw [if_neg (by simp at hn; omega)]

theorem sort_any (g cap : Nat) (R : List (Int × Int)) (w : World) (h : RowAt w g R) (hG : Good R) (hl : R.length ≤ 1024) :
    Calls Yba.prog 19 #[.slice (some ⟨g, 0, none⟩) R.length cap, .func (.func 20) #[] #[]] w fun e w' => e = .returned (.tuple #[]) ∧ ∃ R', R'.length = R.length ∧ Good R' ∧ (∀ r, inRs R' r = inRs R r) ∧ LoS R' ∧ RowAt w' g R' ∧ Kp [g] w w' := by
  have eg : ∀ args w, (callFunc 20 args).run Yba.prog w = .ok (.enter 20 args) w := enters_of Yba.func20 (by kernel_rfl) rfl
  have id1 : ∀ (E : List (Int × Int)), Good E → ∀ i, i < E.length → rlo E i % 1114112 = rlo E i ∧ rhi E i % 1114112 = rhi E i := fun E hE i hi => by
    have := hE.at hi
    omega
  have hH : HoldsK encR 2 w g 0 R.toArray := by
    intro j hj
    rw [size_flatK] at hj
    have hj' : j < R.length * 2 := by simpa using hj
    rw [get_flatK _ _ _ _ hj, Nat.zero_add]
    have hi : j / 2 < R.length := by omega
    have e : R.toArray[j / 2]! = (rlo R (j / 2), rhi R (j / 2)) := by
      rw [getElem!_pos _ _ (by simpa using hi), List.getElem_toArray, get_eq hi]
    rw [e]
    obtain ⟨⟨a1, a2⟩, a3, a4⟩ := h.2 (j / 2) hi
    obtain ⟨i1, i2⟩ := id1 R hG _ hi
    rcases Nat.mod_two_eq_zero_or_one j with hm | hm
    · rw [hm]
      have ej : j / 2 * 2 = j := by omega
      rw [ej] at a1 a2
      refine ⟨?_, a2⟩
      rw [a1]
      simp [encR, i1]
    · rw [hm]
      have ej : j / 2 * 2 + 1 = j := by omega
      rw [ej] at a3 a4
      refine ⟨?_, a4⟩
      rw [a3]
      simp [encR, i2]
  have hc := AnyQ.slices_SortFunc Yba.sortR 2 Yba.isAgg36 Yba.sizeOf36 encR (fun _ => rfl) (fun x v hv => by simp [encR] at hv; rcases hv with rfl | rfl <;> rfl) cfR swoR 20 #[] g 0 cap R.toArray w eg (lays20 g 0 _ w) hH h.1 (by simp; omega)
  have hc' : Calls Yba.prog 19 #[.slice (some ⟨g, 0, none⟩) R.length cap, .func (.func 20) #[] #[]] w _ := hc
  refine hc'.mono ?_
  rintro e w' ⟨rfl, d', n, os, hp, hs, rfl⟩
  obtain ⟨p1, -, p3⟩ := hp
  have hlen : d'.toList.length = R.length := by simpa using p1
  have hperm : d'.toList.Perm R := by
    have e1 : d'.extract 0 R.toArray.size = d' := by rw [← p1]; simp
    have e2 : R.toArray.extract 0 R.toArray.size = R.toArray := by simp
    rw [e1, e2] at p3
    simpa using p3
  have hg' : Good d'.toList := good_perm hperm.symm hG
  refine ⟨rfl, d'.toList, hlen, hg', fun r => inRs_perm hperm r, fun i j hij hj => ?_, ⟨?_, fun i hi => ?_⟩, kp_sort⟩
  · have := hs i j (Nat.zero_le _) hij (by rw [← p1]; simpa using hj)
    rw [ltR] at this
    have ei : d'[i]! = (rlo d'.toList i, rhi d'.toList i) := by
      rw [getElem!_pos _ _ (by rw [p1]; simp; omega), ← get_eq (by omega), Array.getElem_toList]
    have ej : d'[j]! = (rlo d'.toList j, rhi d'.toList j) := by
      rw [getElem!_pos _ _ (by rw [p1]; simp; omega), ← get_eq (by omega), Array.getElem_toList]
    rw [ei, ej] at this
    simp only [decide_eq_false_iff_not] at this
    have := id1 _ hg' i (by omega)
    have := id1 _ hg' j (by omega)
    omega
  · exact Nat.lt_of_lt_of_le h.1 (size_sortWorldK_c _ _ _ _ _ _ _ _)
  · have hh := holdsK_sortWorldK_c encR 2 w g 0 R.toArray d' n os hH h.1 (by simpa using p1)
    have hi' : i < d'.size := by simpa using hi
    have c0 := HoldsK.cell hh (i := i) (c := 0) hi' (by omega)
    have c1 := HoldsK.cell hh (i := i) (c := 1) hi' (by omega)
    have ei : d'[i]! = (rlo d'.toList i, rhi d'.toList i) := by
      rw [getElem!_pos d' i hi', ← get_eq hi, Array.getElem_toList]
    rw [ei] at c0 c1
    obtain ⟨i1, i2⟩ := id1 _ hg' i hi
    simp only [encR, i1, i2, Nat.zero_add, Nat.add_zero] at c0 c1
    exact ⟨c0, c1⟩

theorem sort_none (p : Option Addr) (cap : Nat) (fv : Value) (w : World) : Calls Yba.prog 19 #[.slice p 0 cap, fv] w fun e w' => e = .returned (.tuple #[]) ∧ w' = w :=
  AnyF.slices_SortFunc_none Yba.sortR p cap fv w
end Go.Proofs.Ybulkatic

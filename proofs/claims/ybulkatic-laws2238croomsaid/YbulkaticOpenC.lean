import Derived.Test.YbulkaticLawC
import Derived.ProofKit
import Derived.OpenShut
import Derived.ChangeOld
import Derived.Below
import Derived.Deep.SlicePairs
namespace Go.Proofs.Ybulkatic
open Go.ChangeShapes Go.WideShapes Go.ChangeAt Go.RowKit Go.Deep

theorem Yba.cells58 : Yba.prog.cellsOf 58 = 2 := by kernel_rfl
theorem Yba.cells9 : Yba.prog.cellsOf 9 = 1 := by kernel_rfl

/-- The string in a value. -/
def strOf : Value → ByteArray
  | .string s => s
  | _ => ⟨#[]⟩

theorem items_of {H : Type} {enc : TypeId × Value → H} {W : World} {base fuel : Nat} {spare : Nat → Bool} {held : Bool} {a : Option Addr} {len cap : Nat} {x : DataW H × List MemPlace}
    (h : DataW.trod enc Yba.prog W base spare held fuel 53 [.slice a len cap] = some x) : ∃ S, IsItems W a len S ∧ len ≤ maxLen ∧ ∀ i, i < len → (S.getD i zp).1.size ≤ maxLen := by
  rcases open_slice_pairs Yba.underlying53 Yba.underlying58 Yba.cells58 rfl rfl Yba.cells9 Yba.cells9 h with ⟨hcs, _⟩ | ⟨y, l, c, m, n, V0, V1, D0, D1, P0, P1, hcs, _, hl, hm, hmm, _, hx⟩
  · simp at hcs
    obtain ⟨rfl, rfl, rfl⟩ := hcs
    exact ⟨[], ⟨rfl, fun h => absurd h (by omega)⟩, by simp, fun i hi => absurd hi (by omega)⟩
  · simp at hcs
    obtain ⟨rfl, rfl, rfl⟩ := hcs
    have hlm : len ≤ m := by rw [hmm]; split <;> omega
    have each : ∀ i, i < len → W.cell? (y.add (i * 2)) = some (.string (strOf (V0 i))) ∧ W.cell? (y.add (i * 2 + 1)) = some (.string (strOf (V1 i))) ∧ (strOf (V0 i)).size ≤ maxLen := by
      intro i hi
      obtain ⟨h1, h2, h3, h4⟩ := hx i (by omega)
      obtain ⟨s0, e0, -, z0⟩ := DataW.trod_string Yba.underlying9 h3
      obtain ⟨s1, e1, -, z1⟩ := DataW.trod_string Yba.underlying9 h4
      simp at e0 e1
      rw [e0] at h1 ⊢
      rw [e1] at h2 ⊢
      exact ⟨h1, h2, z0⟩
    have hget : ∀ i, i < len → ((List.range len).map fun i => (strOf (V0 i), strOf (V1 i))).getD i zp = (strOf (V0 i), strOf (V1 i)) := by
      intro i hi
      rw [getD_at (by simpa using hi)]; simp
    refine ⟨(List.range len).map fun i => (strOf (V0 i), strOf (V1 i)), ⟨by simp, fun hp => ?_⟩, by omega, fun i hi => by rw [hget i hi]; exact (each i hi).2.2⟩
    obtain ⟨b, off, spot⟩ := y
    have hspot : spot = none := by simpa [Addr.add] using World.cell?_spot (each 0 hp).1
    subst hspot
    refine ⟨b, off, rfl, fun i hi => ?_⟩
    rw [hget i hi]
    obtain ⟨h1, h2, -⟩ := each i hi
    rw [add_plain] at h1 h2
    exact ⟨h1, h2⟩
end Go.Proofs.Ybulkatic

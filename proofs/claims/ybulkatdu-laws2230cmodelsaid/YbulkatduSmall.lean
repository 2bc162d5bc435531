import Derived.Test.YbulkatduRows
import Derived.Test.YbulkatduPlain
import Derived.WalkKit
import Derived.ProofKit
import Derived.OpenShut
import Derived.WalkSpells
import Derived.Below
import Derived.Deep.QuietTactic
import Derived.BigQuiet
import Derived.Outline
namespace Go.Proofs.Ybulkatdu
open Go.RowKit

/-- A slice of bytes that came in: its elements are the first 'len' of 'zs'. -/
def IsRow (k : IntKind) (w : World) (a : Option Addr) (len cap : Nat) (zs : List Int) : Prop :=
  (a = none ∧ len = 0 ∧ cap = 0 ∧ zs = []) ∨
  ∃ x, a = some x ∧ len ≤ cap ∧ cap ≤ maxLen ∧ zs.length = cap ∧ (∀ i, i < zs.length → w.cell? (x.add i) = some (.int k (zs.getD i 0))) ∧ ∀ n ∈ zs, (Lit.int k n).wf = true

/-- What the law reads at i. -/
def hashAt (len : Nat) (zs : List Int) (i : Nat) : Int := if i < len then zs.getD i 0 else 0

theorem hash_any (a : Option Addr) (len cap : Nat) (zs : List Int) (i : Nat) (w : World) (h : IsRow .u8 w a len cap zs) (hi : i < 8) :
    Calls Yba.prog 8 #[.slice a len cap, .int .i64 i] w fun e w' => e = .returned (.int .u8 (hashAt len zs i)) ∧ w' = w := by
  unfold hashAt
  rcases h with ⟨rfl, rfl, rfl, rfl⟩ | ⟨x, rfl, hl, hm, hz, hc, hw⟩
  · go_enter Yba.func8, Yba.ntmps8
    go_wp2
    go_ret
    exact ⟨rfl, rfl⟩
  · unfold maxLen at hm
    by_cases hlt : i < len
    · obtain ⟨b, off, rfl, hc'⟩ := ints_at hc (by omega)
      have hcell := hc' i (by omega)
      rw [if_pos hlt]
      clear hc hc'
      go_enter Yba.func8, Yba.ntmps8
      go_wp2
      go_ret
      exact ⟨rfl, rfl⟩
    · rw [if_neg hlt]
      go_enter Yba.func8, Yba.ntmps8
      go_wp2
      go_ret
      exact ⟨rfl, rfl⟩

/-- The cells of the table of names. -/
def nmCells : Array Value := #[.string (nm 0), .string (nm 1), .string (nm 2), .string (nm 3), .string (nm 4), .string (nm 5), .string (nm 6), .string (nm 7)]

theorem names_any (w : World) :
    Calls Yba.prog 7 #[] w fun e w' => e = .returned (.slice (some ⟨w.heap.size, 0, none⟩) 8 8) ∧ w' = w.alloc (.cells nmCells 9) := by
  go_enter Yba.func7, Yba.ntmps7
  go_wp2
  go_ret
  exact ⟨rfl, rfl⟩

end Go.Proofs.Ybulkatdu

/-
  DERIVED. GIVEN WITH THE SEED: THE CARDS: each row of YbulkatlwFmtRows.lean that lists a variable, with what it lists TIED to the program's text (the seventh form; the later family's looks); each row that meets fmt, with fmt's text TOLD by the authors' own Lean function (tested against real Go, not proved from fmt's source: count such statements apart). THE CARD IS WHAT COUNTS. Prove the row's statement (the work); the ties are given (YbulkatlwFmtTie.lean); close each card by the builder's one call (the guide's Derived/Test/ToyasCard.lean, 'card_holds'). Laid BY PROGRAM, IN A SANDBOX (cutbox-door.mjs). By AI agents, Wed Nov 11 2026. No macro, syntax, notation, axiom, sorry.
-/
import Derived.Test.YbulkatlwFmtRows
import GoSem.ClaimSeven
namespace Go.Proofs.YbulkatlwFmt
namespace Rows

/-- THE TOLD AND TIED CARD OF 'wfhttp.LawS2245BModel'. -/
def lawS2245BModelCard : Claim7 := { stood := { row := lawS2245BModelRow, standIns := [], harness := (true, "b9ce22d8d4e22fc1c33559f5fb23e19d9874a2e995361d2a27f6202d5a2a6c7b"), looks := false }, told := true, laidByText := true, laidKinds := [.data], laidTests := true, laidLooks := .later, goes := false }
def LawS2245BModelToldSaid : Prop := Claim7.holds Ybaf.pinned (.plain (OpenSpec.ofChange lawS2245BModelSpec)) lawS2245BModelCard
/-- ITS FALSE NEIGHBOUR. Refute it at one input. -/
def LawS2245BModelToldWrongFalsely : Prop := Claim7.holds Ybaf.pinned (.plain (OpenSpec.ofChange lawS2245BModelWrong)) lawS2245BModelCard

/-- THE TOLD AND TIED CARD OF 'wfhttp.LawS2245BSibling'. -/
def lawS2245BSiblingCard : Claim7 := { stood := { row := lawS2245BSiblingRow, standIns := [], harness := (true, "b9ce22d8d4e22fc1c33559f5fb23e19d9874a2e995361d2a27f6202d5a2a6c7b"), looks := false }, told := true, laidByText := true, laidKinds := [.data], laidTests := true, laidLooks := .later, goes := false }
def LawS2245BSiblingToldSaid : Prop := Claim7.holds Ybaf.pinned (.plain (OpenSpec.ofChange lawS2245BSiblingSpec)) lawS2245BSiblingCard
/-- ITS FALSE NEIGHBOUR. Refute it at one input. -/
def LawS2245BSiblingToldWrongFalsely : Prop := Claim7.holds Ybaf.pinned (.plain (OpenSpec.ofChange lawS2245BSiblingWrong)) lawS2245BSiblingCard
end Rows
end Go.Proofs.YbulkatlwFmt

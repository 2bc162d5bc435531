/-
  No cell of these rows narrows 'for every input' (looked for: loops, veiled, ifaces, maps, wideKeys, modest, calm, conditions, laid).
  DERIVED. THE GIVEN ROWS OF THIS SEAT. 6 by the template 'for every input the law returns true; each argument reads behind the call as it read before'; 0 by the template 'total and deterministic' (their statements: YbulkaticTotals.lean).
  GIVEN WITH THE SEED: the statements are not yours to turn. If you find one false, say at which input.
  Laid BY PROGRAM, IN A SANDBOX (cutbox-rows.mjs): the forced cells as the released guide's own fill.sh prints them over the translation 81654bd1990dc105… (all of the seat's roots in one cut). By AI agents, Wed Nov 11 2026. No macro, syntax, notation, axiom, sorry.
-/
import Derived.Test.YbulkaticChecked
import GoSem.Claim
import GoSem.ClaimJoined
import GoSem.ClaimMapViews
import Derived.JoinedTies
import Derived.KernelRfl
namespace Go.Proofs.Ybulkatic
/- THE CELL 'sum', in the pinned program and in every row, IS THE sha256 OF THE DUMP (.gsa) THAT YbulkaticProg.lean LOADS. Nothing in Lean hashes anything: it is a label: what it is worth is what the hold of that sum in a sandbox is worth. -/
noncomputable def Yba.pinned : Pinned := { name := "ybulkatic", sum := "81654bd1990dc1053abf8b6f9e9521dcdae0f70041d310e45089e69ba4e0f0a0", checked := Yba.checked }
namespace Rows
def none {H : Type} : Left H := { results := [], args := [] }

/-- 'iregexp.LawS2238AModel': WHATEVER THE INPUT: true; the input reads as it did. -/
def lawS2238AModelSpec : ChangeSpec := { name := "lawS2238AModel", fn := fun _ => fun
  | [d1, d2, d3, d4, d5] => { results := [.lit (.bool true)], args := [d1, d2, d3, d4, d5] }
  | _ => none }
def lawS2238AModelRow : OpenClaim := { program := "ybulkatic", sum := "81654bd1990dc1053abf8b6f9e9521dcdae0f70041d310e45089e69ba4e0f0a0", func := "example.com/tessera/tessera/internal/iregexp.LawS2238AModel", spec := "lawS2238AModel", unfollowed := true, recurses := true, apart := false }
def LawS2238AModelSaid : Prop := lawS2238AModelRow.holds Yba.pinned (OpenSpec.ofChange lawS2238AModelSpec)

/-- ITS FALSE NEIGHBOUR: 'it returns false'. Refute it at one input. -/
def lawS2238AModelWrong : ChangeSpec := { name := "lawS2238AModel", fn := fun _ => fun
  | [d1, d2, d3, d4, d5] => { results := [.lit (.bool false)], args := [d1, d2, d3, d4, d5] }
  | _ => none }
def LawS2238AModelWrongFalsely : Prop := lawS2238AModelRow.holds Yba.pinned (OpenSpec.ofChange lawS2238AModelWrong)

/-- 'iregexp.LawS2238ACanonical': WHATEVER THE INPUT: true; the input reads as it did. -/
def lawS2238ACanonicalSpec : ChangeSpec := { name := "lawS2238ACanonical", fn := fun _ => fun
  | [d] => { results := [.lit (.bool true)], args := [d] }
  | _ => none }
def lawS2238ACanonicalRow : OpenClaim := { program := "ybulkatic", sum := "81654bd1990dc1053abf8b6f9e9521dcdae0f70041d310e45089e69ba4e0f0a0", func := "example.com/tessera/tessera/internal/iregexp.LawS2238ACanonical", spec := "lawS2238ACanonical", unfollowed := true, recurses := true, apart := false }
def LawS2238ACanonicalSaid : Prop := lawS2238ACanonicalRow.holds Yba.pinned (OpenSpec.ofChange lawS2238ACanonicalSpec)

/-- ITS FALSE NEIGHBOUR: 'it returns false'. Refute it at one input. -/
def lawS2238ACanonicalWrong : ChangeSpec := { name := "lawS2238ACanonical", fn := fun _ => fun
  | [d] => { results := [.lit (.bool false)], args := [d] }
  | _ => none }
def LawS2238ACanonicalWrongFalsely : Prop := lawS2238ACanonicalRow.holds Yba.pinned (OpenSpec.ofChange lawS2238ACanonicalWrong)

/-- 'iregexp.LawS2238BRanges': WHATEVER THE INPUT: true; the input reads as it did. -/
def lawS2238BRangesSpec : ChangeSpec := { name := "lawS2238BRanges", fn := fun _ => fun
  | [d1, d2, d3, d4, d5, d6, d7] => { results := [.lit (.bool true)], args := [d1, d2, d3, d4, d5, d6, d7] }
  | _ => none }
def lawS2238BRangesRow : OpenClaim := { program := "ybulkatic", sum := "81654bd1990dc1053abf8b6f9e9521dcdae0f70041d310e45089e69ba4e0f0a0", func := "example.com/tessera/tessera/internal/iregexp.LawS2238BRanges", spec := "lawS2238BRanges", recurses := true, apart := false }
def LawS2238BRangesSaid : Prop := lawS2238BRangesRow.holds Yba.pinned (OpenSpec.ofChange lawS2238BRangesSpec)

/-- ITS FALSE NEIGHBOUR: 'it returns false'. Refute it at one input. -/
def lawS2238BRangesWrong : ChangeSpec := { name := "lawS2238BRanges", fn := fun _ => fun
  | [d1, d2, d3, d4, d5, d6, d7] => { results := [.lit (.bool false)], args := [d1, d2, d3, d4, d5, d6, d7] }
  | _ => none }
def LawS2238BRangesWrongFalsely : Prop := lawS2238BRangesRow.holds Yba.pinned (OpenSpec.ofChange lawS2238BRangesWrong)

/-- 'iregexp.LawS2238BWhole': WHATEVER THE INPUT: true; the input reads as it did. -/
def lawS2238BWholeSpec : ChangeSpec := { name := "lawS2238BWhole", fn := fun _ => fun
  | [d] => { results := [.lit (.bool true)], args := [d] }
  | _ => none }
def lawS2238BWholeRow : OpenClaim := { program := "ybulkatic", sum := "81654bd1990dc1053abf8b6f9e9521dcdae0f70041d310e45089e69ba4e0f0a0", func := "example.com/tessera/tessera/internal/iregexp.LawS2238BWhole", spec := "lawS2238BWhole", recurses := true, apart := false }
def LawS2238BWholeSaid : Prop := lawS2238BWholeRow.holds Yba.pinned (OpenSpec.ofChange lawS2238BWholeSpec)

/-- ITS FALSE NEIGHBOUR: 'it returns false'. Refute it at one input. -/
def lawS2238BWholeWrong : ChangeSpec := { name := "lawS2238BWhole", fn := fun _ => fun
  | [d] => { results := [.lit (.bool false)], args := [d] }
  | _ => none }
def LawS2238BWholeWrongFalsely : Prop := lawS2238BWholeRow.holds Yba.pinned (OpenSpec.ofChange lawS2238BWholeWrong)

/-- 'value.LawS2238CModel': WHATEVER THE INPUT: true; the input reads as it did. -/
def lawS2238CModelSpec : ChangeSpec := { name := "lawS2238CModel", fn := fun _ => fun
  | [d] => { results := [.lit (.bool true)], args := [d] }
  | _ => none }
def lawS2238CModelRow : OpenClaim := { program := "ybulkatic", sum := "81654bd1990dc1053abf8b6f9e9521dcdae0f70041d310e45089e69ba4e0f0a0", func := "example.com/tessera/tessera/internal/value.LawS2238CModel", spec := "lawS2238CModel", apart := false }
def LawS2238CModelSaid : Prop := lawS2238CModelRow.holds Yba.pinned (OpenSpec.ofChange lawS2238CModelSpec)

/-- ITS FALSE NEIGHBOUR: 'it returns false'. Refute it at one input. -/
def lawS2238CModelWrong : ChangeSpec := { name := "lawS2238CModel", fn := fun _ => fun
  | [d] => { results := [.lit (.bool false)], args := [d] }
  | _ => none }
def LawS2238CModelWrongFalsely : Prop := lawS2238CModelRow.holds Yba.pinned (OpenSpec.ofChange lawS2238CModelWrong)

/-- 'value.LawS2238CRoom': WHATEVER THE INPUT: true; the input reads as it did. -/
def lawS2238CRoomSpec : ChangeSpec := { name := "lawS2238CRoom", fn := fun _ => fun
  | [d] => { results := [.lit (.bool true)], args := [d] }
  | _ => none }
def lawS2238CRoomRow : OpenClaim := { program := "ybulkatic", sum := "81654bd1990dc1053abf8b6f9e9521dcdae0f70041d310e45089e69ba4e0f0a0", func := "example.com/tessera/tessera/internal/value.LawS2238CRoom", spec := "lawS2238CRoom", apart := false }
def LawS2238CRoomSaid : Prop := lawS2238CRoomRow.holds Yba.pinned (OpenSpec.ofChange lawS2238CRoomSpec)

/-- ITS FALSE NEIGHBOUR: 'it returns false'. Refute it at one input. -/
def lawS2238CRoomWrong : ChangeSpec := { name := "lawS2238CRoom", fn := fun _ => fun
  | [d] => { results := [.lit (.bool false)], args := [d] }
  | _ => none }
def LawS2238CRoomWrongFalsely : Prop := lawS2238CRoomRow.holds Yba.pinned (OpenSpec.ofChange lawS2238CRoomWrong)

end Rows
end Go.Proofs.Ybulkatic

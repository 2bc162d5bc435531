/-
  No cell of these rows narrows 'for every input' (looked for: loops, veiled, ifaces, maps, wideKeys, modest, calm, conditions, laid).
  DERIVED. THE GIVEN ROWS OF THIS SEAT. 2 by the template 'for every input the law returns true; each argument reads behind the call as it read before'; 0 by the template 'total and deterministic' (their statements: YbulkatduTotals.lean).
  GIVEN WITH THE SEED: the statements are not yours to turn. If you find one false, say at which input.
  Laid BY PROGRAM, IN A SANDBOX (cutbox-rows.mjs): the forced cells as the released guide's own fill.sh prints them over the translation d330d880cd180eb9… (all of the seat's roots in one cut). By AI agents, Wed Nov 11 2026. No macro, syntax, notation, axiom, sorry.
-/
import Derived.Test.YbulkatduChecked
import GoSem.Claim
import GoSem.ClaimJoined
import GoSem.ClaimMapViews
import Derived.JoinedTies
import Derived.KernelRfl
namespace Go.Proofs.Ybulkatdu
/- THE CELL 'sum', in the pinned program and in every row, IS THE sha256 OF THE DUMP (.gsa) THAT YbulkatduProg.lean LOADS. Nothing in Lean hashes anything: it is a label: what it is worth is what the hold of that sum in a sandbox is worth. -/
noncomputable def Yba.pinned : Pinned := { name := "ybulkatdu", sum := "d330d880cd180eb953f067bc1403482364531428b3cf17db7553efe4675b73a5", checked := Yba.checked }
namespace Rows
def none {H : Type} : Left H := { results := [], args := [] }

/-- 'targets.LawS2230CModel': WHATEVER THE INPUT: true; the input reads as it did. -/
def lawS2230CModelSpec : ChangeSpec := { name := "lawS2230CModel", fn := fun _ => fun
  | [d1, d2, d3, d4] => { results := [.lit (.bool true)], args := [d1, d2, d3, d4] }
  | _ => none }
def lawS2230CModelRow : OpenClaim := { program := "ybulkatdu", sum := "d330d880cd180eb953f067bc1403482364531428b3cf17db7553efe4675b73a5", func := "example.com/landrail/landrail/internal/targets.LawS2230CModel", spec := "lawS2230CModel", inPlace := ["internal/bytealg.abigen_runtime_cmpstring"], unfollowed := true, recurses := true, apart := false }
def LawS2230CModelSaid : Prop := lawS2230CModelRow.holds Yba.pinned (OpenSpec.ofChange lawS2230CModelSpec)

/-- ITS FALSE NEIGHBOUR: 'it returns false'. Refute it at one input. -/
def lawS2230CModelWrong : ChangeSpec := { name := "lawS2230CModel", fn := fun _ => fun
  | [d1, d2, d3, d4] => { results := [.lit (.bool false)], args := [d1, d2, d3, d4] }
  | _ => none }
def LawS2230CModelWrongFalsely : Prop := lawS2230CModelRow.holds Yba.pinned (OpenSpec.ofChange lawS2230CModelWrong)

/-- 'targets.LawS2230CSymmetric': WHATEVER THE INPUT: true; the input reads as it did. -/
def lawS2230CSymmetricSpec : ChangeSpec := { name := "lawS2230CSymmetric", fn := fun _ => fun
  | [d1, d2, d3, d4] => { results := [.lit (.bool true)], args := [d1, d2, d3, d4] }
  | _ => none }
def lawS2230CSymmetricRow : OpenClaim := { program := "ybulkatdu", sum := "d330d880cd180eb953f067bc1403482364531428b3cf17db7553efe4675b73a5", func := "example.com/landrail/landrail/internal/targets.LawS2230CSymmetric", spec := "lawS2230CSymmetric", inPlace := ["internal/bytealg.abigen_runtime_cmpstring"], unfollowed := true, recurses := true, apart := false }
def LawS2230CSymmetricSaid : Prop := lawS2230CSymmetricRow.holds Yba.pinned (OpenSpec.ofChange lawS2230CSymmetricSpec)

/-- ITS FALSE NEIGHBOUR: 'it returns false'. Refute it at one input. -/
def lawS2230CSymmetricWrong : ChangeSpec := { name := "lawS2230CSymmetric", fn := fun _ => fun
  | [d1, d2, d3, d4] => { results := [.lit (.bool false)], args := [d1, d2, d3, d4] }
  | _ => none }
def LawS2230CSymmetricWrongFalsely : Prop := lawS2230CSymmetricRow.holds Yba.pinned (OpenSpec.ofChange lawS2230CSymmetricWrong)

end Rows
end Go.Proofs.Ybulkatdu

/-
  NARROWER THAN 'FOR EVERY INPUT', by the rows' own cells (each row's printed sentence says how): LawS2245BModel: laid · LawS2245BSibling: laid.
  DERIVED. THE GIVEN ROWS OF THIS SEAT. 2 by the template 'for every input the law returns true; each argument reads behind the call as it read before'; 0 by the template 'total and deterministic' (their statements: YbulkatlwFmtTotals.lean).
  GIVEN WITH THE SEED: the statements are not yours to turn. If you find one false, say at which input.
  Laid BY PROGRAM, IN A SANDBOX (cutbox-rows.mjs): the forced cells as the released guide's own fill.sh prints them over the translation 154140e284065ae4… (all of the seat's roots in one cut). By AI agents, Wed Nov 11 2026. No macro, syntax, notation, axiom, sorry.
-/
import Derived.Test.YbulkatlwFmtChecked
import GoSem.Claim
import GoSem.ClaimJoined
import GoSem.ClaimMapViews
import Derived.JoinedTies
import Derived.KernelRfl
namespace Go.Proofs.YbulkatlwFmt
/- THE CELL 'sum', in the pinned program and in every row, IS THE sha256 OF THE DUMP (.gsa) THAT YbulkatlwFmtProg.lean LOADS. Nothing in Lean hashes anything: it is a label: what it is worth is what the hold of that sum in a sandbox is worth. -/
noncomputable def Ybaf.pinned : Pinned := { name := "ybulkatlwfmt", sum := "154140e284065ae4d51bea8347751296064055b98cc7d50c0c3e06f57c1ad1a6", checked := Ybaf.checked }
namespace Rows
def none {H : Type} : Left H := { results := [], args := [] }

/- WHAT THE LISTED PACKAGE-LEVEL VARIABLES READ AS WHEN THE CALL BEGINS. Each datum BY PROGRAM (the guide's laid-datum.mjs) off the statement by which the dump's own 'gosem.cut.vars' lays the variable. In a bare row this is a premise. The card (YbulkatlwFmtCards.lean) ties it to the program's text. -/
def laid_example_com_wireform_wireform_wfhttp_mediaTypes {H : Type} : DataW H := .slice [.agg [.lit (.int .u8 1), .lit (.string [74, 83, 79, 78]), .lit (.string [97, 112, 112, 108, 105, 99, 97, 116, 105, 111, 110, 47, 106, 115, 111, 110]), .lit (.string [97, 112, 112, 108, 105, 99, 97, 116, 105, 111, 110, 47, 106, 115, 111, 110]), .lit (.string [43, 106, 115, 111, 110])], .agg [.lit (.int .u8 2), .lit (.string [88, 77, 76]), .lit (.string [97, 112, 112, 108, 105, 99, 97, 116, 105, 111, 110, 47, 120, 109, 108]), .lit (.string [97, 112, 112, 108, 105, 99, 97, 116, 105, 111, 110, 47, 120, 109, 108]), .lit (.string [43, 120, 109, 108])], .agg [.lit (.int .u8 4), .lit (.string [71, 111, 98]), .lit (.string [97, 112, 112, 108, 105, 99, 97, 116, 105, 111, 110, 47, 103, 111, 98]), .lit (.string [97, 112, 112, 108, 105, 99, 97, 116, 105, 111, 110, 47, 103, 111, 98]), .lit (.string [43, 103, 111, 98])], .agg [.lit (.int .u8 8), .lit (.string [84, 101, 120, 116]), .lit (.string [116, 101, 120, 116, 47, 112, 108, 97, 105, 110]), .lit (.string [116, 101, 120, 116, 47, 112, 108, 97, 105, 110, 59, 32, 99, 104, 97, 114, 115, 101, 116, 61, 117, 116, 102, 45, 56]), .lit (.string [])], .agg [.lit (.int .u8 16), .lit (.string [72, 84, 77, 76]), .lit (.string [116, 101, 120, 116, 47, 104, 116, 109, 108]), .lit (.string [116, 101, 120, 116, 47, 104, 116, 109, 108, 59, 32, 99, 104, 97, 114, 115, 101, 116, 61, 117, 116, 102, 45, 56]), .lit (.string [])]] []

/-- 'wfhttp.LawS2245BModel': WHATEVER THE INPUT: true; the input reads as it did. -/
def lawS2245BModelSpec : ChangeSpec := { name := "lawS2245BModel", vars := ["example.com/wireform/wireform/wfhttp.mediaTypes"], fn := fun _ => fun
  | [d1, d2, d3, g1] => { results := [.lit (.bool true)], args := [d1, d2, d3], vars := [g1] }
  | _ => none }
def lawS2245BModelRow : OpenClaim := { program := "ybulkatlwfmt", sum := "154140e284065ae4d51bea8347751296064055b98cc7d50c0c3e06f57c1ad1a6", func := "example.com/wireform/wireform/wfhttp.LawS2245BModel", spec := "lawS2245BModel", stops := ["fmt.Sprintf, its operands' methods called"], inPlace := ["fmt.Sprintf"], unfollowed := true, recurses := true, named := ["example.com/wireform/wireform/wfhttp.mediaTypes"], apart := false, laid := [("example.com/wireform/wireform/wfhttp.mediaTypes", laid_example_com_wireform_wireform_wfhttp_mediaTypes)] }
/-- NO THEOREM (fmt's text is open here; it may be false): for the released tool's asking of the row's closed facts alone. THE STATEMENT IS 'LawS2245BModelToldSaid' (YbulkatlwFmtCards.lean). -/
def LawS2245BModelFormAsk : Prop := lawS2245BModelRow.holds Ybaf.pinned (OpenSpec.ofChange lawS2245BModelSpec)

/-- ITS FALSE NEIGHBOUR: 'it returns false'. Refute it at one input. -/
def lawS2245BModelWrong : ChangeSpec := { name := "lawS2245BModel", vars := ["example.com/wireform/wireform/wfhttp.mediaTypes"], fn := fun _ => fun
  | [d1, d2, d3, g1] => { results := [.lit (.bool false)], args := [d1, d2, d3], vars := [g1] }
  | _ => none }
def LawS2245BModelWrongFormAsk : Prop := lawS2245BModelRow.holds Ybaf.pinned (OpenSpec.ofChange lawS2245BModelWrong)

/-- 'wfhttp.LawS2245BSibling': WHATEVER THE INPUT: true; the input reads as it did. -/
def lawS2245BSiblingSpec : ChangeSpec := { name := "lawS2245BSibling", vars := ["example.com/wireform/wireform/wfhttp.mediaTypes"], fn := fun _ => fun
  | [d1, d2, g1] => { results := [.lit (.bool true)], args := [d1, d2], vars := [g1] }
  | _ => none }
def lawS2245BSiblingRow : OpenClaim := { program := "ybulkatlwfmt", sum := "154140e284065ae4d51bea8347751296064055b98cc7d50c0c3e06f57c1ad1a6", func := "example.com/wireform/wireform/wfhttp.LawS2245BSibling", spec := "lawS2245BSibling", stops := ["fmt.Sprintf, its operands' methods called"], inPlace := ["fmt.Sprintf"], unfollowed := true, recurses := true, named := ["example.com/wireform/wireform/wfhttp.mediaTypes"], apart := false, laid := [("example.com/wireform/wireform/wfhttp.mediaTypes", laid_example_com_wireform_wireform_wfhttp_mediaTypes)] }
/-- NO THEOREM (fmt's text is open here; it may be false): for the released tool's asking of the row's closed facts alone. THE STATEMENT IS 'LawS2245BSiblingToldSaid' (YbulkatlwFmtCards.lean). -/
def LawS2245BSiblingFormAsk : Prop := lawS2245BSiblingRow.holds Ybaf.pinned (OpenSpec.ofChange lawS2245BSiblingSpec)

/-- ITS FALSE NEIGHBOUR: 'it returns false'. Refute it at one input. -/
def lawS2245BSiblingWrong : ChangeSpec := { name := "lawS2245BSibling", vars := ["example.com/wireform/wireform/wfhttp.mediaTypes"], fn := fun _ => fun
  | [d1, d2, g1] => { results := [.lit (.bool false)], args := [d1, d2], vars := [g1] }
  | _ => none }
def LawS2245BSiblingWrongFormAsk : Prop := lawS2245BSiblingRow.holds Ybaf.pinned (OpenSpec.ofChange lawS2245BSiblingWrong)

end Rows
end Go.Proofs.YbulkatlwFmt

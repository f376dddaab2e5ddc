/-
  NARROWER THAN 'FOR EVERY INPUT', by the rows' own cells (each row's printed sentence says how): LawS1378CModel: laid · LawS1378CIgnoresOthers: laid.
  DERIVED. THE GIVEN ROWS OF THIS SEAT. 2 by the template 'for every input the law returns true; each argument reads behind the call as it read before'; 0 by the template 'total and deterministic' (their statements: YbulkabnaFmtTotals.lean).
  GIVEN WITH THE SEED: the statements are not yours to turn. If you find one false, say at which input.
  Laid BY PROGRAM, IN A SANDBOX (cutbox-rows.mjs): the forced cells as the released guide's own fill.sh prints them over the translation c6319d54de677348… (all of the seat's roots in one cut). By AI agents, Wed Nov 11 2026. No macro, syntax, notation, axiom, sorry.
-/
import Derived.Test.YbulkabnaFmtChecked
import GoSem.Claim
import GoSem.ClaimJoined
import GoSem.ClaimMapViews
import Derived.JoinedTies
import Derived.KernelRfl
namespace Go.Proofs.YbulkabnaFmt
/- THE CELL 'sum', in the pinned program and in every row, IS THE sha256 OF THE DUMP (.gsa) THAT YbulkabnaFmtProg.lean LOADS. Nothing in Lean hashes anything: it is a label: what it is worth is what the hold of that sum in a sandbox is worth. -/
noncomputable def Ybaf.pinned : Pinned := { name := "ybulkabnafmt", sum := "c6319d54de677348123556fa54b6ebe2ab4217293e6bff641f823bdde7d8c454", checked := Ybaf.checked }
namespace Rows
def none {H : Type} : Left H := { results := [], args := [] }

/- WHAT THE LISTED PACKAGE-LEVEL VARIABLES READ AS WHEN THE CALL BEGINS. Each datum BY PROGRAM (the guide's laid-datum.mjs) off the statement by which the dump's own 'gosem.cut.vars' lays the variable. In a bare row this is a premise. The card (YbulkabnaFmtCards.lean) ties it to the program's text. -/
def laid_example_com_fineweave_fineweave_gpuForms {H : Type} : DataW H := .slice [.lit (.string [103, 112, 117]), .lit (.string [103, 112, 117, 45, 99, 111, 114, 101]), .lit (.string [103, 112, 117, 45, 109, 101, 109, 111, 114, 121, 45, 114, 97, 116, 105, 111]), .lit (.string [103, 112, 117, 45, 109, 101, 109, 111, 114, 121]), .lit (.string [110, 118, 105, 100, 105, 97, 46, 99, 111, 109, 47, 103, 112, 117])] []

/-- 'fineweave.LawS1378CModel': WHATEVER THE INPUT: true; the input reads as it did. -/
def lawS1378CModelSpec : ChangeSpec := { name := "lawS1378CModel", vars := ["example.com/fineweave/fineweave.gpuForms"], fn := fun _ => fun
  | [d1, d2, d3, d4, d5, d6, d7, d8, d9, d10, g1] => { results := [.lit (.bool true)], args := [d1, d2, d3, d4, d5, d6, d7, d8, d9, d10], vars := [g1] }
  | _ => none }
def lawS1378CModelRow : OpenClaim := { program := "ybulkabnafmt", sum := "c6319d54de677348123556fa54b6ebe2ab4217293e6bff641f823bdde7d8c454", func := "example.com/fineweave/fineweave.LawS1378CModel", spec := "lawS1378CModel", stops := ["fmt.errorf"], inPlace := ["fmt.errorf"], unfollowed := true, recurses := true, named := ["example.com/fineweave/fineweave.gpuForms"], apart := false, laid := [("example.com/fineweave/fineweave.gpuForms", laid_example_com_fineweave_fineweave_gpuForms)] }
/-- NO THEOREM (fmt's text is open here; it may be false): for the released tool's asking of the row's closed facts alone. THE STATEMENT IS 'LawS1378CModelToldSaid' (YbulkabnaFmtCards.lean). -/
def LawS1378CModelFormAsk : Prop := lawS1378CModelRow.holds Ybaf.pinned (OpenSpec.ofChange lawS1378CModelSpec)

/-- ITS FALSE NEIGHBOUR: 'it returns false'. Refute it at one input. -/
def lawS1378CModelWrong : ChangeSpec := { name := "lawS1378CModel", vars := ["example.com/fineweave/fineweave.gpuForms"], fn := fun _ => fun
  | [d1, d2, d3, d4, d5, d6, d7, d8, d9, d10, g1] => { results := [.lit (.bool false)], args := [d1, d2, d3, d4, d5, d6, d7, d8, d9, d10], vars := [g1] }
  | _ => none }
def LawS1378CModelWrongFormAsk : Prop := lawS1378CModelRow.holds Ybaf.pinned (OpenSpec.ofChange lawS1378CModelWrong)

/-- 'fineweave.LawS1378CIgnoresOthers': WHATEVER THE INPUT: true; the input reads as it did. -/
def lawS1378CIgnoresOthersSpec : ChangeSpec := { name := "lawS1378CIgnoresOthers", vars := ["example.com/fineweave/fineweave.gpuForms"], fn := fun _ => fun
  | [d1, d2, d3, d4, d5, d6, d7, d8, d9, d10, d11, d12, g1] => { results := [.lit (.bool true)], args := [d1, d2, d3, d4, d5, d6, d7, d8, d9, d10, d11, d12], vars := [g1] }
  | _ => none }
def lawS1378CIgnoresOthersRow : OpenClaim := { program := "ybulkabnafmt", sum := "c6319d54de677348123556fa54b6ebe2ab4217293e6bff641f823bdde7d8c454", func := "example.com/fineweave/fineweave.LawS1378CIgnoresOthers", spec := "lawS1378CIgnoresOthers", stops := ["fmt.errorf"], inPlace := ["fmt.errorf"], unfollowed := true, recurses := true, named := ["example.com/fineweave/fineweave.gpuForms"], apart := false, laid := [("example.com/fineweave/fineweave.gpuForms", laid_example_com_fineweave_fineweave_gpuForms)] }
/-- NO THEOREM (fmt's text is open here; it may be false): for the released tool's asking of the row's closed facts alone. THE STATEMENT IS 'LawS1378CIgnoresOthersToldSaid' (YbulkabnaFmtCards.lean). -/
def LawS1378CIgnoresOthersFormAsk : Prop := lawS1378CIgnoresOthersRow.holds Ybaf.pinned (OpenSpec.ofChange lawS1378CIgnoresOthersSpec)

/-- ITS FALSE NEIGHBOUR: 'it returns false'. Refute it at one input. -/
def lawS1378CIgnoresOthersWrong : ChangeSpec := { name := "lawS1378CIgnoresOthers", vars := ["example.com/fineweave/fineweave.gpuForms"], fn := fun _ => fun
  | [d1, d2, d3, d4, d5, d6, d7, d8, d9, d10, d11, d12, g1] => { results := [.lit (.bool false)], args := [d1, d2, d3, d4, d5, d6, d7, d8, d9, d10, d11, d12], vars := [g1] }
  | _ => none }
def LawS1378CIgnoresOthersWrongFormAsk : Prop := lawS1378CIgnoresOthersRow.holds Ybaf.pinned (OpenSpec.ofChange lawS1378CIgnoresOthersWrong)

end Rows
end Go.Proofs.YbulkabnaFmt

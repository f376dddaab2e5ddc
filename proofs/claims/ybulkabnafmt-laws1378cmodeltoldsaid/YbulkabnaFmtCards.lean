/-
  DERIVED. GIVEN WITH THE SEED: THE CARDS: each row of YbulkabnaFmtRows.lean that lists a variable, with what it lists TIED to the program's text (the seventh form; the later family's looks); each row that meets fmt, with fmt's text TOLD by the authors' own Lean function (tested against real Go, not proved from fmt's source: count such statements apart). THE CARD IS WHAT COUNTS. Prove the row's statement (the work); the ties are given (YbulkabnaFmtTie.lean); close each card by the builder's one call (the guide's Derived/Test/ToyasCard.lean, 'card_holds'). Laid BY PROGRAM, IN A SANDBOX (cutbox-door.mjs). By AI agents, Wed Nov 11 2026. No macro, syntax, notation, axiom, sorry.
-/
import Derived.Test.YbulkabnaFmtRows
import GoSem.ClaimSeven
namespace Go.Proofs.YbulkabnaFmt
namespace Rows

/-- THE TOLD AND TIED CARD OF 'fineweave.LawS1378CModel'. -/
def lawS1378CModelCard : Claim7 := { stood := { row := lawS1378CModelRow, standIns := [], harness := (true, "65a2897456a3ca4af53b73f24b8c5768ecc74f57594f7335dd7cb6845a20b0aa"), looks := false }, told := true, laidByText := true, laidKinds := [.wider], laidTests := true, laidLooks := .later, goes := false }
def LawS1378CModelToldSaid : Prop := Claim7.holds Ybaf.pinned (.plain (OpenSpec.ofChange lawS1378CModelSpec)) lawS1378CModelCard
/-- ITS FALSE NEIGHBOUR. Refute it at one input. -/
def LawS1378CModelToldWrongFalsely : Prop := Claim7.holds Ybaf.pinned (.plain (OpenSpec.ofChange lawS1378CModelWrong)) lawS1378CModelCard

/-- THE TOLD AND TIED CARD OF 'fineweave.LawS1378CIgnoresOthers'. -/
def lawS1378CIgnoresOthersCard : Claim7 := { stood := { row := lawS1378CIgnoresOthersRow, standIns := [], harness := (true, "65a2897456a3ca4af53b73f24b8c5768ecc74f57594f7335dd7cb6845a20b0aa"), looks := false }, told := true, laidByText := true, laidKinds := [.wider], laidTests := true, laidLooks := .later, goes := false }
def LawS1378CIgnoresOthersToldSaid : Prop := Claim7.holds Ybaf.pinned (.plain (OpenSpec.ofChange lawS1378CIgnoresOthersSpec)) lawS1378CIgnoresOthersCard
/-- ITS FALSE NEIGHBOUR. Refute it at one input. -/
def LawS1378CIgnoresOthersToldWrongFalsely : Prop := Claim7.holds Ybaf.pinned (.plain (OpenSpec.ofChange lawS1378CIgnoresOthersWrong)) lawS1378CIgnoresOthersCard
end Rows
end Go.Proofs.YbulkabnaFmt

/-
  No cell of these rows narrows 'for every input' (looked for: loops, veiled, ifaces, maps, wideKeys, modest, calm, conditions, laid).
  DERIVED. THE GIVEN ROWS OF THIS SEAT. 5 by the template 'for every input the law returns true; each argument reads behind the call as it read before'; 0 by the template 'total and deterministic' (their statements: YbulkabnoTotals.lean).
  GIVEN WITH THE SEED: the statements are not yours to turn. If you find one false, say at which input.
  Laid BY PROGRAM, IN A SANDBOX (cutbox-rows.mjs): the forced cells as the released guide's own fill.sh prints them over the translation 86e0edac48932455… (all of the seat's roots in one cut). By AI agents, Wed Nov 11 2026. No macro, syntax, notation, axiom, sorry.
-/
import Derived.Test.YbulkabnoChecked
import GoSem.Claim
import GoSem.ClaimJoined
import GoSem.ClaimMapViews
import Derived.JoinedTies
import Derived.KernelRfl
namespace Go.Proofs.Ybulkabno
/- THE CELL 'sum', in the pinned program and in every row, IS THE sha256 OF THE DUMP (.gsa) THAT YbulkabnoProg.lean LOADS. Nothing in Lean hashes anything: it is a label: what it is worth is what the hold of that sum in a sandbox is worth. -/
noncomputable def Yba.pinned : Pinned := { name := "ybulkabno", sum := "86e0edac48932455ba8a3fcfe9c51ccc15db3b1c66d6e397c8ceddd34b4659a8", checked := Yba.checked }
namespace Rows
def none {H : Type} : Left H := { results := [], args := [] }

/-- 'replay.LawS1379ASeconds': WHATEVER THE INPUT: true; the input reads as it did. -/
def lawS1379ASecondsSpec : ChangeSpec := { name := "lawS1379ASeconds", fn := fun _ => fun
  | [d1, d2, d3] => { results := [.lit (.bool true)], args := [d1, d2, d3] }
  | _ => none }
def lawS1379ASecondsRow : OpenClaim := { program := "ybulkabno", sum := "86e0edac48932455ba8a3fcfe9c51ccc15db3b1c66d6e397c8ceddd34b4659a8", func := "example.com/tideward/tideward/internal/replay.LawS1379ASeconds", spec := "lawS1379ASeconds", inPlace := ["math/bits.Add64"], named := ["math/bits.divideError", "math/bits.overflowError"], apart := false }
def LawS1379ASecondsSaid : Prop := lawS1379ASecondsRow.holds Yba.pinned (OpenSpec.ofChange lawS1379ASecondsSpec)

/-- ITS FALSE NEIGHBOUR: 'it returns false'. Refute it at one input. -/
def lawS1379ASecondsWrong : ChangeSpec := { name := "lawS1379ASeconds", fn := fun _ => fun
  | [d1, d2, d3] => { results := [.lit (.bool false)], args := [d1, d2, d3] }
  | _ => none }
def LawS1379ASecondsWrongFalsely : Prop := lawS1379ASecondsRow.holds Yba.pinned (OpenSpec.ofChange lawS1379ASecondsWrong)

/-- 'replay.LawS1379AExact': WHATEVER THE INPUT: true; the input reads as it did. -/
def lawS1379AExactSpec : ChangeSpec := { name := "lawS1379AExact", fn := fun _ => fun
  | [d1, d2, d3] => { results := [.lit (.bool true)], args := [d1, d2, d3] }
  | _ => none }
def lawS1379AExactRow : OpenClaim := { program := "ybulkabno", sum := "86e0edac48932455ba8a3fcfe9c51ccc15db3b1c66d6e397c8ceddd34b4659a8", func := "example.com/tideward/tideward/internal/replay.LawS1379AExact", spec := "lawS1379AExact", inPlace := ["math/bits.Add64"], named := ["math/bits.divideError", "math/bits.overflowError"], apart := false }
def LawS1379AExactSaid : Prop := lawS1379AExactRow.holds Yba.pinned (OpenSpec.ofChange lawS1379AExactSpec)

/-- ITS FALSE NEIGHBOUR: 'it returns false'. Refute it at one input. -/
def lawS1379AExactWrong : ChangeSpec := { name := "lawS1379AExact", fn := fun _ => fun
  | [d1, d2, d3] => { results := [.lit (.bool false)], args := [d1, d2, d3] }
  | _ => none }
def LawS1379AExactWrongFalsely : Prop := lawS1379AExactRow.holds Yba.pinned (OpenSpec.ofChange lawS1379AExactWrong)

/-- 'replay.LawS1379AScript': WHATEVER THE INPUT: true; the input reads as it did. -/
def lawS1379AScriptSpec : ChangeSpec := { name := "lawS1379AScript", fn := fun _ => fun
  | [d1, d2] => { results := [.lit (.bool true)], args := [d1, d2] }
  | _ => none }
def lawS1379AScriptRow : OpenClaim := { program := "ybulkabno", sum := "86e0edac48932455ba8a3fcfe9c51ccc15db3b1c66d6e397c8ceddd34b4659a8", func := "example.com/tideward/tideward/internal/replay.LawS1379AScript", spec := "lawS1379AScript", inPlace := ["math/bits.Add64"], named := ["math/bits.divideError", "math/bits.overflowError"], apart := false }
def LawS1379AScriptSaid : Prop := lawS1379AScriptRow.holds Yba.pinned (OpenSpec.ofChange lawS1379AScriptSpec)

/-- ITS FALSE NEIGHBOUR: 'it returns false'. Refute it at one input. -/
def lawS1379AScriptWrong : ChangeSpec := { name := "lawS1379AScript", fn := fun _ => fun
  | [d1, d2] => { results := [.lit (.bool false)], args := [d1, d2] }
  | _ => none }
def LawS1379AScriptWrongFalsely : Prop := lawS1379AScriptRow.holds Yba.pinned (OpenSpec.ofChange lawS1379AScriptWrong)

/-- 'replay.LawS1379CModel': WHATEVER THE INPUT: true; the input reads as it did. -/
def lawS1379CModelSpec : ChangeSpec := { name := "lawS1379CModel", fn := fun _ => fun
  | [d1, d2, d3, d4, d5] => { results := [.lit (.bool true)], args := [d1, d2, d3, d4, d5] }
  | _ => none }
def lawS1379CModelRow : OpenClaim := { program := "ybulkabno", sum := "86e0edac48932455ba8a3fcfe9c51ccc15db3b1c66d6e397c8ceddd34b4659a8", func := "example.com/tideward/tideward/internal/replay.LawS1379CModel", spec := "lawS1379CModel", inPlace := ["math/bits.Add64"], apart := false }
def LawS1379CModelSaid : Prop := lawS1379CModelRow.holds Yba.pinned (OpenSpec.ofChange lawS1379CModelSpec)

/-- ITS FALSE NEIGHBOUR: 'it returns false'. Refute it at one input. -/
def lawS1379CModelWrong : ChangeSpec := { name := "lawS1379CModel", fn := fun _ => fun
  | [d1, d2, d3, d4, d5] => { results := [.lit (.bool false)], args := [d1, d2, d3, d4, d5] }
  | _ => none }
def LawS1379CModelWrongFalsely : Prop := lawS1379CModelRow.holds Yba.pinned (OpenSpec.ofChange lawS1379CModelWrong)

/-- 'replay.LawS1379CEdge': WHATEVER THE INPUT: true; the input reads as it did. -/
def lawS1379CEdgeSpec : ChangeSpec := { name := "lawS1379CEdge", fn := fun _ => fun
  | [d1, d2, d3, d4, d5] => { results := [.lit (.bool true)], args := [d1, d2, d3, d4, d5] }
  | _ => none }
def lawS1379CEdgeRow : OpenClaim := { program := "ybulkabno", sum := "86e0edac48932455ba8a3fcfe9c51ccc15db3b1c66d6e397c8ceddd34b4659a8", func := "example.com/tideward/tideward/internal/replay.LawS1379CEdge", spec := "lawS1379CEdge", inPlace := ["math/bits.Add64"], apart := false }
def LawS1379CEdgeSaid : Prop := lawS1379CEdgeRow.holds Yba.pinned (OpenSpec.ofChange lawS1379CEdgeSpec)

/-- ITS FALSE NEIGHBOUR: 'it returns false'. Refute it at one input. -/
def lawS1379CEdgeWrong : ChangeSpec := { name := "lawS1379CEdge", fn := fun _ => fun
  | [d1, d2, d3, d4, d5] => { results := [.lit (.bool false)], args := [d1, d2, d3, d4, d5] }
  | _ => none }
def LawS1379CEdgeWrongFalsely : Prop := lawS1379CEdgeRow.holds Yba.pinned (OpenSpec.ofChange lawS1379CEdgeWrong)

end Rows
end Go.Proofs.Ybulkabno

/-
  No cell of these rows narrows 'for every input' (looked for: loops, veiled, ifaces, maps, wideKeys, modest, calm, conditions, laid).
  DERIVED. THE GIVEN ROWS OF THIS SEAT. 2 by the template 'for every input the law returns true; each argument reads behind the call as it read before'; 0 by the template 'total and deterministic' (their statements: YbulkabnaTotals.lean).
  GIVEN WITH THE SEED: the statements are not yours to turn. If you find one false, say at which input.
  Laid BY PROGRAM, IN A SANDBOX (cutbox-rows.mjs): the forced cells as the released guide's own fill.sh prints them over the translation 40faef819aa9bdc6… (all of the seat's roots in one cut). By AI agents, Wed Nov 11 2026. No macro, syntax, notation, axiom, sorry.
-/
import Derived.Test.YbulkabnaChecked
import GoSem.Claim
import GoSem.ClaimJoined
import GoSem.ClaimMapViews
import Derived.JoinedTies
import Derived.KernelRfl
namespace Go.Proofs.Ybulkabna
/- THE CELL 'sum', in the pinned program and in every row, IS THE sha256 OF THE DUMP (.gsa) THAT YbulkabnaProg.lean LOADS. Nothing in Lean hashes anything: it is a label: what it is worth is what the hold of that sum in a sandbox is worth. -/
noncomputable def Yba.pinned : Pinned := { name := "ybulkabna", sum := "40faef819aa9bdc651ca3ea03fd8e82c72977af31b357df7d42b3ca2282b4175", checked := Yba.checked }
namespace Rows
def none {H : Type} : Left H := { results := [], args := [] }

/-- 'cpuset.LawS1378BRuns': WHATEVER THE INPUT: true; the input reads as it did. -/
def lawS1378BRunsSpec : ChangeSpec := { name := "lawS1378BRuns", fn := fun _ => fun
  | [d] => { results := [.lit (.bool true)], args := [d] }
  | _ => none }
def lawS1378BRunsRow : OpenClaim := { program := "ybulkabna", sum := "40faef819aa9bdc651ca3ea03fd8e82c72977af31b357df7d42b3ca2282b4175", func := "example.com/fineweave/fineweave/cpuset.LawS1378BRuns", spec := "lawS1378BRuns", inPlace := ["internal/reflectlite.ValueOf", "internal/reflectlite.Swapper", "(internal/reflectlite.Value).Len"], unfollowed := true, recurses := true, apart := false }
def LawS1378BRunsSaid : Prop := lawS1378BRunsRow.holds Yba.pinned (OpenSpec.ofChange lawS1378BRunsSpec)

/-- ITS FALSE NEIGHBOUR: 'it returns false'. Refute it at one input. -/
def lawS1378BRunsWrong : ChangeSpec := { name := "lawS1378BRuns", fn := fun _ => fun
  | [d] => { results := [.lit (.bool false)], args := [d] }
  | _ => none }
def LawS1378BRunsWrongFalsely : Prop := lawS1378BRunsRow.holds Yba.pinned (OpenSpec.ofChange lawS1378BRunsWrong)

/-- 'cpuset.LawS1378BMembers': WHATEVER THE INPUT: true; the input reads as it did. -/
def lawS1378BMembersSpec : ChangeSpec := { name := "lawS1378BMembers", fn := fun _ => fun
  | [d] => { results := [.lit (.bool true)], args := [d] }
  | _ => none }
def lawS1378BMembersRow : OpenClaim := { program := "ybulkabna", sum := "40faef819aa9bdc651ca3ea03fd8e82c72977af31b357df7d42b3ca2282b4175", func := "example.com/fineweave/fineweave/cpuset.LawS1378BMembers", spec := "lawS1378BMembers", inPlace := ["internal/reflectlite.ValueOf", "internal/reflectlite.Swapper", "(internal/reflectlite.Value).Len"], unfollowed := true, recurses := true, apart := false }
def LawS1378BMembersSaid : Prop := lawS1378BMembersRow.holds Yba.pinned (OpenSpec.ofChange lawS1378BMembersSpec)

/-- ITS FALSE NEIGHBOUR: 'it returns false'. Refute it at one input. -/
def lawS1378BMembersWrong : ChangeSpec := { name := "lawS1378BMembers", fn := fun _ => fun
  | [d] => { results := [.lit (.bool false)], args := [d] }
  | _ => none }
def LawS1378BMembersWrongFalsely : Prop := lawS1378BMembersRow.holds Yba.pinned (OpenSpec.ofChange lawS1378BMembersWrong)

end Rows
end Go.Proofs.Ybulkabna

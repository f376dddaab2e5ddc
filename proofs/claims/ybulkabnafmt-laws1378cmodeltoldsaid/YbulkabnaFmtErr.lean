/-
  fmt.Errorf over this dump: whatever fmt's text is, the call hands back a new error that is not nil. Four formats stand in the program.
-/
import Derived.Test.YbulkabnaFmtRows
import Derived.WalkKit
import Derived.WalkSpells
import Derived.WalkLawsBesides
import Derived.Stop.FmtLaws
namespace Go.Proofs.YbulkabnaFmt
open Go.RowKit Go.Extern.Stop Go.Stop Go.Extern

theorem call14 (args : Array Value) (w : World) : (callFunc 14 args).run Ybaf.prog w = ((FmtStop.errorf #[9, 49] #[31] args).run Ybaf.prog w).andThen fun v w' => .ok (.value v) w' :=
  run_callFunc_extern Ybaf.func14 (by kernel_rfl) (by kernel_rfl) (by kernel_rfl) (by kernel_rfl) args w

theorem guard14 (name : String) (w : World) : (FmtStop.guard name).run Ybaf.prog w = .ok () w := by kernel_rfl
theorem ptr52 (w : World) : (FmtStop.ptrTo "errors.errorString").run Ybaf.prog w = .ok 52 w := by kernel_rfl
theorem elem52 (w : World) : (elemOf 52).run Ybaf.prog w = .ok 54 w := by kernel_rfl

theorem printedA (w : World) : (FmtDoors.printed ⟨#[37, 115, 32, 97, 110, 100, 32, 37, 115, 32, 99, 97, 110, 110, 111, 116, 32, 98, 101, 32, 97, 115, 107, 101, 100, 32, 116, 111, 103, 101, 116, 104, 101, 114]⟩ 2).run Ybaf.prog w = .ok [(0, 115, false), (1, 115, false)] w := by kernel_rfl
theorem printedB (w : World) : (FmtDoors.printed ⟨#[37, 115, 32, 99, 97, 110, 110, 111, 116, 32, 98, 101, 32, 97, 115, 107, 101, 100, 32, 119, 105, 116, 104, 32, 119, 104, 111, 108, 101, 32, 71, 80, 85, 115]⟩ 1).run Ybaf.prog w = .ok [(0, 115, false)] w := by kernel_rfl
theorem printedC (w : World) : (FmtDoors.printed ⟨#[37, 115, 32, 37, 100, 32, 97, 110, 100, 32, 37, 115, 32, 37, 100, 32, 100, 111, 32, 110, 111, 116, 32, 97, 115, 107, 32, 116, 104, 101, 32, 115, 97, 109, 101, 32, 119, 104, 111, 108, 101, 32, 71, 80, 85, 115]⟩ 4).run Ybaf.prog w = .ok [(0, 115, false), (1, 100, false), (2, 115, false), (3, 100, false)] w := by kernel_rfl
theorem printedD (w : World) : (FmtDoors.printed ⟨#[37, 115, 32, 37, 100, 58, 32, 97, 98, 111, 118, 101, 32, 49, 48, 48, 32, 97, 110, 100, 32, 110, 111, 116, 32, 97, 32, 109, 117, 108, 116, 105, 112, 108, 101, 32, 111, 102, 32, 49, 48, 48]⟩ 2).run Ybaf.prog w = .ok [(0, 115, false), (1, 100, false)] w := by kernel_rfl

def shape42 : List UInt8 := 12 :: FmtStop.pack "fineweave.gpuForm".toUTF8.data.toList
def shape9 : List UInt8 := 12 :: FmtStop.pack "string".toUTF8.data.toList
def shape2 : List UInt8 := 5 :: FmtStop.pack "int64".toUTF8.data.toList
theorem op42 (name : String) (x : ByteArray) (w : World) : (FmtStop.operand name true 115 false (.iface 42 (.string x))).run Ybaf.prog w = .ok (shape42, FmtStop.pack x.data.toList) w := by kernel_rfl
theorem op9 (name : String) (x : ByteArray) (w : World) : (FmtStop.operand name true 115 false (.iface 9 (.string x))).run Ybaf.prog w = .ok (shape9, FmtStop.pack x.data.toList) w := by kernel_rfl
theorem op2 (name : String) (x : Int) (w : World) : (FmtStop.operand name true 100 false (.iface 2 (.int .i64 x))).run Ybaf.prog w = .ok (shape2, digits 8 (x % 2 ^ 64).toNat) w := by kernel_rfl

attribute [local go_sem] call14 guard14 ptr52 elem52 printedA printedB printedC printedD op42 op9 op2

/-- What a call of fmt.Errorf leaves: a new error, the heap longer by the one block. -/
def ErrPost (w : World) (e : Ending) (w' : World) : Prop := ∃ s : Value, e = .returned (.iface 52 (.pointer (some ⟨w.heap.size, 0, none⟩))) ∧ w' = (w.alloc (.cells #[s] 54)).drew

set_option maxHeartbeats 400000 in
theorem errorfA (x y : ByteArray) (b : Nat) (w : World) (h0 : w.cell? ⟨b, 0, none⟩ = some (.iface 42 (.string x))) (h1 : w.cell? ⟨b, 1, none⟩ = some (.iface 42 (.string y))) :
    Calls Ybaf.prog 9 #[.string ⟨#[37, 115, 32, 97, 110, 100, 32, 37, 115, 32, 99, 97, 110, 110, 111, 116, 32, 98, 101, 32, 97, 115, 107, 101, 100, 32, 116, 111, 103, 101, 116, 104, 101, 114]⟩, .slice (some ⟨b, 0, none⟩) 2 2] w (ErrPost w) := by
  go_enter Ybaf.func9, Ybaf.ntmps9
  go_wp2
  go_ret
  exact ⟨_, rfl, rfl⟩

set_option maxHeartbeats 400000 in
theorem errorfB (x : ByteArray) (b : Nat) (w : World) (h0 : w.cell? ⟨b, 0, none⟩ = some (.iface 42 (.string x))) :
    Calls Ybaf.prog 9 #[.string ⟨#[37, 115, 32, 99, 97, 110, 110, 111, 116, 32, 98, 101, 32, 97, 115, 107, 101, 100, 32, 119, 105, 116, 104, 32, 119, 104, 111, 108, 101, 32, 71, 80, 85, 115]⟩, .slice (some ⟨b, 0, none⟩) 1 1] w (ErrPost w) := by
  go_enter Ybaf.func9, Ybaf.ntmps9
  go_wp2
  go_ret
  exact ⟨_, rfl, rfl⟩

set_option maxHeartbeats 400000 in
theorem errorfC (x y : ByteArray) (m n : Int) (b : Nat) (w : World) (h0 : w.cell? ⟨b, 0, none⟩ = some (.iface 42 (.string x))) (h1 : w.cell? ⟨b, 1, none⟩ = some (.iface 2 (.int .i64 m)))
    (h2 : w.cell? ⟨b, 2, none⟩ = some (.iface 42 (.string y))) (h3 : w.cell? ⟨b, 3, none⟩ = some (.iface 2 (.int .i64 n))) :
    Calls Ybaf.prog 9 #[.string ⟨#[37, 115, 32, 37, 100, 32, 97, 110, 100, 32, 37, 115, 32, 37, 100, 32, 100, 111, 32, 110, 111, 116, 32, 97, 115, 107, 32, 116, 104, 101, 32, 115, 97, 109, 101, 32, 119, 104, 111, 108, 101, 32, 71, 80, 85, 115]⟩, .slice (some ⟨b, 0, none⟩) 4 4] w (ErrPost w) := by
  go_enter Ybaf.func9, Ybaf.ntmps9
  go_wp2
  go_ret
  exact ⟨_, rfl, rfl⟩

set_option maxHeartbeats 400000 in
theorem errorfD (x : ByteArray) (n : Int) (b : Nat) (w : World) (h0 : w.cell? ⟨b, 0, none⟩ = some (.iface 9 (.string x))) (h1 : w.cell? ⟨b, 1, none⟩ = some (.iface 2 (.int .i64 n))) :
    Calls Ybaf.prog 9 #[.string ⟨#[37, 115, 32, 37, 100, 58, 32, 97, 98, 111, 118, 101, 32, 49, 48, 48, 32, 97, 110, 100, 32, 110, 111, 116, 32, 97, 32, 109, 117, 108, 116, 105, 112, 108, 101, 32, 111, 102, 32, 49, 48, 48]⟩, .slice (some ⟨b, 0, none⟩) 2 2] w (ErrPost w) := by
  go_enter Ybaf.func9, Ybaf.ntmps9
  go_wp2
  go_ret
  exact ⟨_, rfl, rfl⟩
end Go.Proofs.YbulkabnaFmt

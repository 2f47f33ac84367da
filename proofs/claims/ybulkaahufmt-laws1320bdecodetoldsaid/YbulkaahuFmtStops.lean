/-
  THE CLOSED FACTS FOR A WALK OVER fmt's STOPPED FRONTS, at this dump's numbers (after the guide's NameFmt texts; typed by hand, since the tool that writes them is not at hand here). Each is proved by the kernel's own evaluation.
-/
import Derived.Test.YbulkaahuFmtRows
import Derived.Stop.CallBack
import Derived.Stop.IfaceNil
import GoSem.ClaimData
namespace Go.Proofs.YbulkaahuFmt
open Go.Extern.Stop Go.Stop Go.Extern

theorem call19 (args : Array Value) (w : World) : (callFunc 19 args).run Ybaf.prog w = ((FmtStop.errorf #[9, 68] #[39] args).run Ybaf.prog w).andThen fun v w' => .ok (.value v) w' :=
  run_callFunc_extern Ybaf.func19 (by kernel_rfl) (by kernel_rfl) (by kernel_rfl) (by kernel_rfl) args w
theorem call21 (args : Array Value) (w : World) : (callFunc 21 args).run Ybaf.prog w = ((FmtStop.sprintf #[9, 68] #[9] args).run Ybaf.prog w).andThen fun v w' => .ok (.value v) w' :=
  run_callFunc_extern Ybaf.func21 (by kernel_rfl) (by kernel_rfl) (by kernel_rfl) (by kernel_rfl) args w
theorem fguard (name : String) (w : World) : (FmtStop.guard name).run Ybaf.prog w = .ok () w := by kernel_rfl

-- "no proxy %s in any ring", one operand
theorem fmt0 : FmtStop.printed? ⟨#[110, 111, 32, 112, 114, 111, 120, 121, 32, 37, 115, 32, 105, 110, 32, 97, 110, 121, 32, 114, 105, 110, 103]⟩ 1 = some [(0, 115, false)] := by kernel_rfl
theorem fmt0r (w : World) : (FmtDoors.printed ⟨#[110, 111, 32, 112, 114, 111, 120, 121, 32, 37, 115, 32, 105, 110, 32, 97, 110, 121, 32, 114, 105, 110, 103]⟩ 1).run Ybaf.prog w = .ok [(0, 115, false)] w := by kernel_rfl
-- "%w: %s", two operands
theorem fmt1 : FmtStop.printed? ⟨#[37, 119, 58, 32, 37, 115]⟩ 2 = some [(0, 119, false), (1, 115, false)] := by kernel_rfl
theorem fmt1r (w : World) : (FmtDoors.printed ⟨#[37, 119, 58, 32, 37, 115]⟩ 2).run Ybaf.prog w = .ok [(0, 119, false), (1, 115, false)] w := by kernel_rfl
-- "cut short at byte %d", one operand
theorem fmt2 : FmtStop.printed? ⟨#[99, 117, 116, 32, 115, 104, 111, 114, 116, 32, 97, 116, 32, 98, 121, 116, 101, 32, 37, 100]⟩ 1 = some [(0, 100, false)] := by kernel_rfl
theorem fmt2r (w : World) : (FmtDoors.printed ⟨#[99, 117, 116, 32, 115, 104, 111, 114, 116, 32, 97, 116, 32, 98, 121, 116, 101, 32, 37, 100]⟩ 1).run Ybaf.prog w = .ok [(0, 100, false)] w := by kernel_rfl
-- "number at byte %d overflows 64 bits", one operand
theorem fmt3 : FmtStop.printed? ⟨#[110, 117, 109, 98, 101, 114, 32, 97, 116, 32, 98, 121, 116, 101, 32, 37, 100, 32, 111, 118, 101, 114, 102, 108, 111, 119, 115, 32, 54, 52, 32, 98, 105, 116, 115]⟩ 1 = some [(0, 100, false)] := by kernel_rfl
theorem fmt3r (w : World) : (FmtDoors.printed ⟨#[110, 117, 109, 98, 101, 114, 32, 97, 116, 32, 98, 121, 116, 101, 32, 37, 100, 32, 111, 118, 101, 114, 102, 108, 111, 119, 115, 32, 54, 52, 32, 98, 105, 116, 115]⟩ 1).run Ybaf.prog w = .ok [(0, 100, false)] w := by kernel_rfl

def shape9 : List UInt8 := [12, 6, 0, 0, 0, 0, 0, 0, 0, 115, 116, 114, 105, 110, 103]
theorem op9_115w (name : String) (x : ByteArray) (w : World) : (FmtStop.operand name true 115 false (.iface 9 (.string x))).run Ybaf.prog w = .ok (shape9, FmtStop.pack x.data.toList) w := by kernel_rfl
def shape3 : List UInt8 := [5, 3, 0, 0, 0, 0, 0, 0, 0, 105, 110, 116]
theorem op3_100 (name : String) (x : Int) (w : World) : (FmtStop.operand name false 100 false (.iface 3 (.int .i64 x))).run Ybaf.prog w = .ok (shape3, Go.Extern.Stop.digits 8 (x % 2 ^ 64).toNat) w := by kernel_rfl

theorem ptr83 (w : World) : (FmtStop.ptrTo "errors.errorString").run Ybaf.prog w = .ok 83 w := by kernel_rfl
theorem elem83 (w : World) : (elemOf 83).run Ybaf.prog w = .ok 85 w := by kernel_rfl
theorem isError83 (w : World) : (FmtDoors.textMethod 83 "Error").run Ybaf.prog w = .ok true w := by kernel_rfl
theorem ptr70 (w : World) : (FmtStop.ptrTo "fmt.wrapError").run Ybaf.prog w = .ok 70 w := by kernel_rfl
theorem elem70 (w : World) : (elemOf 70).run Ybaf.prog w = .ok 117 w := by kernel_rfl
theorem isError70 (w : World) : (FmtDoors.textMethod 70 "Error").run Ybaf.prog w = .ok true w := by kernel_rfl
end Go.Proofs.YbulkaahuFmt

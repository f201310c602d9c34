/- The closed facts for a walk over fmt.errorf's stop in this dump (after the kit's print for a dump of its own): each by the kernel's own evaluation. -/
import Derived.Test.YbulkcyhyFmtCards
import Derived.Stop.CallBack
import Derived.Stop.IfaceNil
import GoSem.ClaimData
namespace Go.Proofs.YbulkcyhyFmt.facts
open Go.Extern.Stop Go.Stop Go.Extern

theorem call10 (args : Array Value) (w : World) : (callFunc 10 args).run Ybaf.prog w = ((FmtStop.errorf #[9, 89] #[79] args).run Ybaf.prog w).andThen fun v w' => .ok (.value v) w' :=
  run_callFunc_extern Ybaf.func10 (by kernel_rfl) (by kernel_rfl) (by kernel_rfl) (by kernel_rfl) args w
theorem guardOk (name : String) (w : World) : (FmtStop.guard name).run Ybaf.prog w = .ok () w := by kernel_rfl

/-- the format of the unlisted kind -/
def fA : ByteArray := ⟨#[37, 115, 32, 115, 101, 110, 100, 115, 32, 110, 111, 32, 37, 113, 32, 109, 101, 115, 115, 97, 103, 101]⟩
/-- the format of the round below 0 -/
def fB : ByteArray := ⟨#[114, 111, 117, 110, 100, 32, 37, 100, 32, 105, 115, 32, 98, 101, 108, 111, 119, 32, 48]⟩
theorem printedA (w : World) : (FmtDoors.printed ⟨#[37, 115, 32, 115, 101, 110, 100, 115, 32, 110, 111, 32, 37, 113, 32, 109, 101, 115, 115, 97, 103, 101]⟩ 2).run Ybaf.prog w = .ok [(0, 115, false), (1, 113, false)] w := by kernel_rfl
theorem printedB (w : World) : (FmtDoors.printed ⟨#[114, 111, 117, 110, 100, 32, 37, 100, 32, 105, 115, 32, 98, 101, 108, 111, 119, 32, 48]⟩ 1).run Ybaf.prog w = .ok [(0, 100, false)] w := by kernel_rfl

def shape9 : List UInt8 := [12, 6, 0, 0, 0, 0, 0, 0, 0, 115, 116, 114, 105, 110, 103]
def shape3 : List UInt8 := [5, 3, 0, 0, 0, 0, 0, 0, 0, 105, 110, 116]
theorem op9s (name : String) (x : ByteArray) (w : World) : (FmtStop.operand name true 115 false (.iface 9 (.string x))).run Ybaf.prog w = .ok (shape9, FmtStop.pack x.data.toList) w := by kernel_rfl
theorem op9q (name : String) (x : ByteArray) (w : World) : (FmtStop.operand name true 113 false (.iface 9 (.string x))).run Ybaf.prog w = .ok (shape9, FmtStop.pack x.data.toList) w := by kernel_rfl
theorem op3d (name : String) (x : Int) (w : World) : (FmtStop.operand name true 100 false (.iface 3 (.int .i64 x))).run Ybaf.prog w = .ok (shape3, Go.Extern.Stop.digits 8 (x % 2 ^ 64).toNat) w := by kernel_rfl
theorem ptr85 (w : World) : (FmtStop.ptrTo "errors.errorString").run Ybaf.prog w = .ok 85 w := by kernel_rfl
theorem elem85 (w : World) : (elemOf 85).run Ybaf.prog w = .ok 87 w := by kernel_rfl
end Go.Proofs.YbulkcyhyFmt.facts

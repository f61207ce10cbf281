/-
  The closed facts of this program that a walk over the stopped fmt.errorf wants; after the pattern of the kit's generated facts.
-/
import Derived.Test.Qxb6617055aFmtProg
import Derived.Stop.CallBack
import Derived.Stop.IfaceNil
import Derived.KernelRfl
import GoSem.ClaimData
namespace Go.Proofs.Qxb6617055aFmt
open Go.Extern.Stop Go.Stop Go.Extern

theorem call16 (args : Array Value) (w : World) : (callFunc 16 args).run Tryf.prog w = ((FmtStop.errorf #[9, 32] #[25] args).run Tryf.prog w).andThen fun v w' => .ok (.value v) w' :=
  run_callFunc_extern Tryf.func16 (by kernel_rfl) (by kernel_rfl) (by kernel_rfl) (by kernel_rfl) args w
theorem fguard (name : String) (w : World) : (FmtStop.guard name).run Tryf.prog w = .ok () w := by kernel_rfl

theorem fmt0r (w : World) : (FmtDoors.printed ⟨#[100, 101, 116, 97, 105, 108, 115, 32, 115, 101, 116, 116, 105, 110, 103, 32, 37, 113, 32, 105, 115, 32, 110, 111, 116, 32, 37, 113, 32, 111, 114, 32, 37, 113]⟩ 3).run Tryf.prog w = .ok [(0, 113, false), (1, 113, false), (2, 113, false)] w := by kernel_rfl
theorem fmt0 : FmtStop.printed? ⟨#[100, 101, 116, 97, 105, 108, 115, 32, 115, 101, 116, 116, 105, 110, 103, 32, 37, 113, 32, 105, 115, 32, 110, 111, 116, 32, 37, 113, 32, 111, 114, 32, 37, 113]⟩ 3 = some [(0, 113, false), (1, 113, false), (2, 113, false)] := by kernel_rfl

def shape9 : List UInt8 := [12, 6, 0, 0, 0, 0, 0, 0, 0, 115, 116, 114, 105, 110, 103]
def shape23 : List UInt8 := 12 :: FmtStop.pack "pulsekeep.ShowDetails".toUTF8.data.toList
theorem op9_113w (name : String) (x : ByteArray) (w : World) : (FmtStop.operand name true 113 false (.iface 9 (.string x))).run Tryf.prog w = .ok (shape9, FmtStop.pack x.data.toList) w := by kernel_rfl
theorem op23_113w (name : String) (x : ByteArray) (w : World) : (FmtStop.operand name true 113 false (.iface 23 (.string x))).run Tryf.prog w = .ok (shape23, FmtStop.pack x.data.toList) w := by kernel_rfl

theorem ptr35 (w : World) : (FmtStop.ptrTo "errors.errorString").run Tryf.prog w = .ok 35 w := by kernel_rfl
theorem elem35 (w : World) : (elemOf 35).run Tryf.prog w = .ok 37 w := by kernel_rfl
theorem isError35 (w : World) : (FmtDoors.textMethod 35 "Error").run Tryf.prog w = .ok true w := by kernel_rfl
end Go.Proofs.Qxb6617055aFmt

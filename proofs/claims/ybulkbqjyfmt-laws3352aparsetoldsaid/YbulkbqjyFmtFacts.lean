/-
  THE CLOSED FACTS FOR A WALK OVER fmt.errorf's STOP, at this dump's numbers (after the guide's worked ..Fmt texts).
-/
import Derived.Test.YbulkbqjyFmtProg
import Derived.Stop.CallBack
import Derived.Stop.IfaceNil
import GoSem.ClaimData
import Derived.KernelRfl
namespace Go.Proofs.YbulkbqjyFmt
open Go.Extern.Stop Go.Stop Go.Extern

@[go_sem] theorem fx_call11 (args : Array Value) (w : World) : (callFunc 11 args).run Ybaf.prog w = ((FmtStop.errorf #[9, 33] #[24] args).run Ybaf.prog w).andThen fun v w' => .ok (.value v) w' :=
  run_callFunc_extern Ybaf.func11 (by kernel_rfl) (by kernel_rfl) (by kernel_rfl) (by kernel_rfl) args w

@[go_sem] theorem fx_guard (name : String) (w : World) : (FmtStop.guard name).run Ybaf.prog w = .ok () w := by kernel_rfl

@[go_sem] theorem fx_fmt0 : FmtStop.printed? ⟨#[111, 114, 100, 101, 114, 32, 37, 113, 32, 105, 115, 32, 110, 101, 105, 116, 104, 101, 114, 32, 37, 115, 32, 110, 111, 114, 32, 37, 115]⟩ 3 = some [(0, 113, false), (1, 115, false), (2, 115, false)] := by kernel_rfl
@[go_sem] theorem fx_fmt0r (w : World) : (FmtDoors.printed ⟨#[111, 114, 100, 101, 114, 32, 37, 113, 32, 105, 115, 32, 110, 101, 105, 116, 104, 101, 114, 32, 37, 115, 32, 110, 111, 114, 32, 37, 115]⟩ 3).run Ybaf.prog w = .ok [(0, 113, false), (1, 115, false), (2, 115, false)] w := by kernel_rfl

/-- What an Order reads as when fmt is asked: a string kind, its type's name. -/
def fx_shape26 : List UInt8 := [12, 17, 0, 0, 0, 0, 0, 0, 0, 99, 111, 117, 110, 116, 101, 114, 115, 105, 103, 110, 46, 79, 114, 100, 101, 114]
@[go_sem] theorem fx_op26_113w (name : String) (x : ByteArray) (w : World) : (FmtStop.operand name true 113 false (.iface 26 (.string x))).run Ybaf.prog w = .ok (fx_shape26, FmtStop.pack x.data.toList) w := by kernel_rfl
@[go_sem] theorem fx_op26_115w (name : String) (x : ByteArray) (w : World) : (FmtStop.operand name true 115 false (.iface 26 (.string x))).run Ybaf.prog w = .ok (fx_shape26, FmtStop.pack x.data.toList) w := by kernel_rfl

@[go_sem] theorem fx_ptr36 (w : World) : (FmtStop.ptrTo "errors.errorString").run Ybaf.prog w = .ok 36 w := by kernel_rfl
@[go_sem] theorem fx_elem36 (w : World) : (elemOf 36).run Ybaf.prog w = .ok 38 w := by kernel_rfl
@[go_sem] theorem fx_isError36 (w : World) : (FmtDoors.textMethod 36 "Error").run Ybaf.prog w = .ok true w := by kernel_rfl

end Go.Proofs.YbulkbqjyFmt

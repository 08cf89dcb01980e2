/-
  CLOSED FACTS FOR THE WALKS OVER fmt's STOPPED FRONTS in this seat's translation (after the shape of the kit's own generated texts, typed for this dump). Each is proved by the kernel's own evaluation. Nothing here is trusted.
-/
import Derived.Test.YbulkkjeFmtProg
import Derived.Stop.CallBack
import Derived.Stop.IfaceNil
import GoSem.ClaimData
namespace Go.Proofs.YbulkkjeFmt
open Go.Extern.Stop Go.Stop Go.Extern

-- fmt.errorf: function 12: a plain stop
theorem Ybaf.call12 (args : Array Value) (w : World) : (callFunc 12 args).run Ybaf.prog w = ((FmtStop.errorf #[9, 44] #[36] args).run Ybaf.prog w).andThen fun v w' => .ok (.value v) w' :=
  run_callFunc_extern Ybaf.func12 (by kernel_rfl) (by kernel_rfl) (by kernel_rfl) (by kernel_rfl) args w
-- fmt.Sprintf: function 14: a plain stop
theorem Ybaf.call14 (args : Array Value) (w : World) : (callFunc 14 args).run Ybaf.prog w = ((FmtStop.sprintf #[9, 44] #[9] args).run Ybaf.prog w).andThen fun v w' => .ok (.value v) w' :=
  run_callFunc_extern Ybaf.func14 (by kernel_rfl) (by kernel_rfl) (by kernel_rfl) (by kernel_rfl) args w
theorem Ybaf.guard (name : String) (w : World) : (FmtStop.guard name).run Ybaf.prog w = .ok () w := by kernel_rfl

-- the formats
theorem Ybaf.fmt0 : FmtStop.printed? ⟨#[99, 111, 110, 102, 105, 103, 117, 114, 101, 100, 32, 118, 101, 114, 115, 105, 111, 110, 32, 37, 115, 32, 105, 115, 32, 110, 111, 116, 32, 111, 110, 101, 32, 116, 104, 105, 115, 32, 112, 97, 99, 107, 97, 103, 101, 32, 115, 112, 101, 97, 107, 115]⟩ 1 = some [(0, 115, false)] := by kernel_rfl
theorem Ybaf.fmt0r (w : World) : (FmtDoors.printed ⟨#[99, 111, 110, 102, 105, 103, 117, 114, 101, 100, 32, 118, 101, 114, 115, 105, 111, 110, 32, 37, 115, 32, 105, 115, 32, 110, 111, 116, 32, 111, 110, 101, 32, 116, 104, 105, 115, 32, 112, 97, 99, 107, 97, 103, 101, 32, 115, 112, 101, 97, 107, 115]⟩ 1).run Ybaf.prog w = .ok [(0, 115, false)] w := by kernel_rfl
theorem Ybaf.fmt1 : FmtStop.printed? ⟨#[99, 111, 110, 102, 105, 103, 117, 114, 101, 100, 32, 77, 105, 110, 86, 101, 114, 115, 105, 111, 110, 32, 37, 115, 32, 105, 115, 32, 97, 98, 111, 118, 101, 32, 77, 97, 120, 86, 101, 114, 115, 105, 111, 110, 32, 37, 115]⟩ 2 = some [(0, 115, false), (1, 115, false)] := by kernel_rfl
theorem Ybaf.fmt1r (w : World) : (FmtDoors.printed ⟨#[99, 111, 110, 102, 105, 103, 117, 114, 101, 100, 32, 77, 105, 110, 86, 101, 114, 115, 105, 111, 110, 32, 37, 115, 32, 105, 115, 32, 97, 98, 111, 118, 101, 32, 77, 97, 120, 86, 101, 114, 115, 105, 111, 110, 32, 37, 115]⟩ 2).run Ybaf.prog w = .ok [(0, 115, false), (1, 115, false)] w := by kernel_rfl
theorem Ybaf.fmt2 : FmtStop.printed? ⟨#[48, 120, 37, 48, 52, 88]⟩ 1 = some [(0, 88, false)] := by kernel_rfl
theorem Ybaf.fmt2r (w : World) : (FmtDoors.printed ⟨#[48, 120, 37, 48, 52, 88]⟩ 1).run Ybaf.prog w = .ok [(0, 88, false)] w := by kernel_rfl

-- the operands: type 9: string; type 22: uint16
def Ybaf.shape9 : List UInt8 := [12, 6, 0, 0, 0, 0, 0, 0, 0, 115, 116, 114, 105, 110, 103]
theorem Ybaf.op9_115w (name : String) (x : ByteArray) (w : World) : (FmtStop.operand name true 115 false (.iface 9 (.string x))).run Ybaf.prog w = .ok (Ybaf.shape9, FmtStop.pack x.data.toList) w := by kernel_rfl
def Ybaf.shape22 : List UInt8 := [7, 6, 0, 0, 0, 0, 0, 0, 0, 117, 105, 110, 116, 49, 54]
theorem Ybaf.op22_88 (name : String) (x : Int) (w : World) : (FmtStop.operand name false 88 false (.iface 22 (.int .u16 x))).run Ybaf.prog w = .ok (Ybaf.shape22, Go.Extern.Stop.digits 8 (x % 2 ^ 64).toNat) w := by kernel_rfl

-- the error type that fmt.errorf makes
theorem Ybaf.ptr48 (w : World) : (FmtStop.ptrTo "errors.errorString").run Ybaf.prog w = .ok 48 w := by kernel_rfl
theorem Ybaf.elem48 (w : World) : (elemOf 48).run Ybaf.prog w = .ok 50 w := by kernel_rfl
theorem Ybaf.isError48 (w : World) : (FmtDoors.textMethod 48 "Error").run Ybaf.prog w = .ok true w := by kernel_rfl
end Go.Proofs.YbulkkjeFmt

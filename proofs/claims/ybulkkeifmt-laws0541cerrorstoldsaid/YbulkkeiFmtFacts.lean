/-
  CLOSED FACTS FOR THE WALKS OVER fmt's STOPPED FRONTS in this seat's translation (after the shape of the kit's own generated texts, typed for this dump). Each is proved by the kernel's own evaluation. Nothing here is trusted.
-/
import Derived.Test.YbulkkeiFmtProg
import Derived.Stop.CallBack
import Derived.Stop.IfaceNil
import GoSem.ClaimData
namespace Go.Proofs.YbulkkeiFmt
open Go.Extern.Stop Go.Stop Go.Extern

-- fmt.errorf: function 27: a stop that calls
theorem Ybaf.call27 (args : Array Value) (w : World) : (callFunc 27 args).run Ybaf.prog w = (FmtCalls.errorf #[9, 116] #[32] args).run Ybaf.prog w :=
  run_callFunc_next Ybaf.func27 (by kernel_rfl) (by kernel_rfl) (by kernel_rfl) args w
theorem Ybaf.guard (name : String) (w : World) : (FmtStop.guard name).run Ybaf.prog w = .ok () w := by kernel_rfl
theorem Ybaf.nextTurns : Extern.next FmtCalls.turnsRow = some (FmtCalls.begun #[] #[]) := by kernel_rfl
theorem Ybaf.nextReturned : Extern.next FmtCalls.returnedRow = some (FmtCalls.returned #[] #[]) := by kernel_rfl

-- the formats
-- the text: the block id q is reserved
theorem Ybaf.fmt0 : FmtStop.printed? ⟨#[116, 104, 101, 32, 98, 108, 111, 99, 107, 32, 105, 100, 32, 37, 113, 32, 105, 115, 32, 114, 101, 115, 101, 114, 118, 101, 100]⟩ 1 = some [(0, 113, false)] := by kernel_rfl
theorem Ybaf.fmt0r (w : World) : (FmtDoors.printed ⟨#[116, 104, 101, 32, 98, 108, 111, 99, 107, 32, 105, 100, 32, 37, 113, 32, 105, 115, 32, 114, 101, 115, 101, 114, 118, 101, 100]⟩ 1).run Ybaf.prog w = .ok [(0, 113, false)] w := by kernel_rfl
-- the text: block q is on chain d, outside 0 to d
theorem Ybaf.fmt1 : FmtStop.printed? ⟨#[98, 108, 111, 99, 107, 32, 37, 113, 32, 105, 115, 32, 111, 110, 32, 99, 104, 97, 105, 110, 32, 37, 100, 44, 32, 111, 117, 116, 115, 105, 100, 101, 32, 48, 32, 116, 111, 32, 37, 100]⟩ 3 = some [(0, 113, false), (1, 100, false), (2, 100, false)] := by kernel_rfl
theorem Ybaf.fmt1r (w : World) : (FmtDoors.printed ⟨#[98, 108, 111, 99, 107, 32, 37, 113, 32, 105, 115, 32, 111, 110, 32, 99, 104, 97, 105, 110, 32, 37, 100, 44, 32, 111, 117, 116, 115, 105, 100, 101, 32, 48, 32, 116, 111, 32, 37, 100]⟩ 3).run Ybaf.prog w = .ok [(0, 113, false), (1, 100, false), (2, 100, false)] w := by kernel_rfl
-- the text: the block id q is used twice
theorem Ybaf.fmt2 : FmtStop.printed? ⟨#[116, 104, 101, 32, 98, 108, 111, 99, 107, 32, 105, 100, 32, 37, 113, 32, 105, 115, 32, 117, 115, 101, 100, 32, 116, 119, 105, 99, 101]⟩ 1 = some [(0, 113, false)] := by kernel_rfl
theorem Ybaf.fmt2r (w : World) : (FmtDoors.printed ⟨#[116, 104, 101, 32, 98, 108, 111, 99, 107, 32, 105, 100, 32, 37, 113, 32, 105, 115, 32, 117, 115, 101, 100, 32, 116, 119, 105, 99, 101]⟩ 1).run Ybaf.prog w = .ok [(0, 113, false)] w := by kernel_rfl
-- the text: block q votes for s
theorem Ybaf.fmt3 : FmtStop.printed? ⟨#[98, 108, 111, 99, 107, 32, 37, 113, 32, 118, 111, 116, 101, 115, 32, 102, 111, 114, 32, 37, 115]⟩ 2 = some [(0, 113, false), (1, 115, false)] := by kernel_rfl
theorem Ybaf.fmt3r (w : World) : (FmtDoors.printed ⟨#[98, 108, 111, 99, 107, 32, 37, 113, 32, 118, 111, 116, 101, 115, 32, 102, 111, 114, 32, 37, 115]⟩ 2).run Ybaf.prog w = .ok [(0, 113, false), (1, 115, false)] w := by kernel_rfl
-- the text: block q of chain d names block q of chain d as its parent
theorem Ybaf.fmt4 : FmtStop.printed? ⟨#[98, 108, 111, 99, 107, 32, 37, 113, 32, 111, 102, 32, 99, 104, 97, 105, 110, 32, 37, 100, 32, 110, 97, 109, 101, 115, 32, 98, 108, 111, 99, 107, 32, 37, 113, 32, 111, 102, 32, 99, 104, 97, 105, 110, 32, 37, 100, 32, 97, 115, 32, 105, 116, 115, 32, 112, 97, 114, 101, 110, 116]⟩ 4 = some [(0, 113, false), (1, 100, false), (2, 113, false), (3, 100, false)] := by kernel_rfl
theorem Ybaf.fmt4r (w : World) : (FmtDoors.printed ⟨#[98, 108, 111, 99, 107, 32, 37, 113, 32, 111, 102, 32, 99, 104, 97, 105, 110, 32, 37, 100, 32, 110, 97, 109, 101, 115, 32, 98, 108, 111, 99, 107, 32, 37, 113, 32, 111, 102, 32, 99, 104, 97, 105, 110, 32, 37, 100, 32, 97, 115, 32, 105, 116, 115, 32, 112, 97, 114, 101, 110, 116]⟩ 4).run Ybaf.prog w = .ok [(0, 113, false), (1, 100, false), (2, 113, false), (3, 100, false)] w := by kernel_rfl
-- the text: block q votes for voter block q
theorem Ybaf.fmt5 : FmtStop.printed? ⟨#[98, 108, 111, 99, 107, 32, 37, 113, 32, 118, 111, 116, 101, 115, 32, 102, 111, 114, 32, 118, 111, 116, 101, 114, 32, 98, 108, 111, 99, 107, 32, 37, 113]⟩ 2 = some [(0, 113, false), (1, 113, false)] := by kernel_rfl
theorem Ybaf.fmt5r (w : World) : (FmtDoors.printed ⟨#[98, 108, 111, 99, 107, 32, 37, 113, 32, 118, 111, 116, 101, 115, 32, 102, 111, 114, 32, 118, 111, 116, 101, 114, 32, 98, 108, 111, 99, 107, 32, 37, 113]⟩ 2).run Ybaf.prog w = .ok [(0, 113, false), (1, 113, false)] w := by kernel_rfl

-- the operands: type 9: string; type 3: int
def Ybaf.shape9 : List UInt8 := [12, 6, 0, 0, 0, 0, 0, 0, 0, 115, 116, 114, 105, 110, 103]
def Ybaf.shape3 : List UInt8 := [5, 3, 0, 0, 0, 0, 0, 0, 0, 105, 110, 116]
theorem Ybaf.act9_113w (name : String) (x : Value) (w : World) : (FmtCalls.act name true 113 false (.iface 9 x)).run Ybaf.prog w = .ok (.closed true) w := by kernel_rfl
theorem Ybaf.op9_113w (name : String) (x : ByteArray) (w : World) : (FmtStop.operand name true 113 false (.iface 9 (.string x))).run Ybaf.prog w = .ok (Ybaf.shape9, FmtStop.pack x.data.toList) w := by kernel_rfl
theorem Ybaf.act9_115w (name : String) (x : Value) (w : World) : (FmtCalls.act name true 115 false (.iface 9 x)).run Ybaf.prog w = .ok (.closed true) w := by kernel_rfl
theorem Ybaf.op9_115w (name : String) (x : ByteArray) (w : World) : (FmtStop.operand name true 115 false (.iface 9 (.string x))).run Ybaf.prog w = .ok (Ybaf.shape9, FmtStop.pack x.data.toList) w := by kernel_rfl
theorem Ybaf.act3_100w (name : String) (x : Value) (w : World) : (FmtCalls.act name true 100 false (.iface 3 x)).run Ybaf.prog w = .ok (.closed true) w := by kernel_rfl
theorem Ybaf.op3_100w (name : String) (x : Int) (w : World) : (FmtStop.operand name true 100 false (.iface 3 (.int .i64 x))).run Ybaf.prog w = .ok (Ybaf.shape3, Go.Extern.Stop.digits 8 (x % 2 ^ 64).toNat) w := by kernel_rfl

-- the error type that fmt.errorf makes
theorem Ybaf.ptr113 (w : World) : (FmtStop.ptrTo "errors.errorString").run Ybaf.prog w = .ok 113 w := by kernel_rfl
theorem Ybaf.elem113 (w : World) : (elemOf 113).run Ybaf.prog w = .ok 115 w := by kernel_rfl
theorem Ybaf.isError113 (w : World) : (FmtDoors.textMethod 113 "Error").run Ybaf.prog w = .ok true w := by kernel_rfl
end Go.Proofs.YbulkkeiFmt

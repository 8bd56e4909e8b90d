/-
  DERIVED. The closed facts for a walk over the stopped front of fmt at this dump (after the guide own CheckFmt.lean).
-/
import Derived.Test.Qxb6628172aFmtRows
import Derived.Stop.CallBack
import Derived.Stop.IfaceNil
import GoSem.ClaimData
namespace Go.Proofs.Qxb6628172aFmt
open Go.Extern.Stop Go.Stop Go.Extern

theorem Tryf.call7 (args : Array Value) (w : World) : (callFunc 7 args).run Tryf.prog w = ((FmtStop.errorf #[9, 28] #[24] args).run Tryf.prog w).andThen fun v w' => .ok (.value v) w' :=
  run_callFunc_extern Tryf.func7 (by kernel_rfl) (by kernel_rfl) (by kernel_rfl) (by kernel_rfl) args w
theorem Tryf.guard (name : String) (w : World) : (FmtStop.guard name).run Tryf.prog w = .ok () w := by kernel_rfl
theorem Tryf.fmt0 : FmtStop.printed? ⟨#[108, 97, 98, 101, 108, 32, 37, 113, 32, 105, 115, 32, 37, 100, 32, 99, 104, 97, 114, 97, 99, 116, 101, 114, 115, 44, 32, 119, 97, 110, 116, 32, 49, 32, 116, 111, 32, 37, 100]⟩ 3 = some [(0, 113, false), (1, 100, false), (2, 100, false)] := by kernel_rfl
theorem Tryf.fmt0r (w : World) : (FmtDoors.printed ⟨#[108, 97, 98, 101, 108, 32, 37, 113, 32, 105, 115, 32, 37, 100, 32, 99, 104, 97, 114, 97, 99, 116, 101, 114, 115, 44, 32, 119, 97, 110, 116, 32, 49, 32, 116, 111, 32, 37, 100]⟩ 3).run Tryf.prog w = .ok [(0, 113, false), (1, 100, false), (2, 100, false)] w := by kernel_rfl
theorem Tryf.fmt0z : FmtStop.printed? ⟨#[108, 97, 98, 101, 108, 32, 37, 113, 32, 105, 115, 32, 37, 100, 32, 99, 104, 97, 114, 97, 99, 116, 101, 114, 115, 44, 32, 119, 97, 110, 116, 32, 49, 32, 116, 111, 32, 37, 100]⟩ 0 = some [] := by kernel_rfl
theorem Tryf.fmt0zr (w : World) : (FmtDoors.printed ⟨#[108, 97, 98, 101, 108, 32, 37, 113, 32, 105, 115, 32, 37, 100, 32, 99, 104, 97, 114, 97, 99, 116, 101, 114, 115, 44, 32, 119, 97, 110, 116, 32, 49, 32, 116, 111, 32, 37, 100]⟩ 0).run Tryf.prog w = .ok [] w := by kernel_rfl
theorem Tryf.fmt1 : FmtStop.printed? ⟨#[108, 97, 98, 101, 108, 32, 37, 113, 32, 115, 116, 97, 114, 116, 115, 32, 119, 105, 116, 104, 32, 39, 45, 39, 44, 32, 119, 97, 110, 116, 32, 97, 32, 108, 101, 116, 116, 101, 114, 32, 111, 114, 32, 97, 32, 100, 105, 103, 105, 116]⟩ 1 = some [(0, 113, false)] := by kernel_rfl
theorem Tryf.fmt1r (w : World) : (FmtDoors.printed ⟨#[108, 97, 98, 101, 108, 32, 37, 113, 32, 115, 116, 97, 114, 116, 115, 32, 119, 105, 116, 104, 32, 39, 45, 39, 44, 32, 119, 97, 110, 116, 32, 97, 32, 108, 101, 116, 116, 101, 114, 32, 111, 114, 32, 97, 32, 100, 105, 103, 105, 116]⟩ 1).run Tryf.prog w = .ok [(0, 113, false)] w := by kernel_rfl
theorem Tryf.fmt1z : FmtStop.printed? ⟨#[108, 97, 98, 101, 108, 32, 37, 113, 32, 115, 116, 97, 114, 116, 115, 32, 119, 105, 116, 104, 32, 39, 45, 39, 44, 32, 119, 97, 110, 116, 32, 97, 32, 108, 101, 116, 116, 101, 114, 32, 111, 114, 32, 97, 32, 100, 105, 103, 105, 116]⟩ 0 = some [] := by kernel_rfl
theorem Tryf.fmt1zr (w : World) : (FmtDoors.printed ⟨#[108, 97, 98, 101, 108, 32, 37, 113, 32, 115, 116, 97, 114, 116, 115, 32, 119, 105, 116, 104, 32, 39, 45, 39, 44, 32, 119, 97, 110, 116, 32, 97, 32, 108, 101, 116, 116, 101, 114, 32, 111, 114, 32, 97, 32, 100, 105, 103, 105, 116]⟩ 0).run Tryf.prog w = .ok [] w := by kernel_rfl
theorem Tryf.fmt2 : FmtStop.printed? ⟨#[108, 97, 98, 101, 108, 32, 37, 113, 32, 104, 111, 108, 100, 115, 32, 37, 113, 44, 32, 119, 97, 110, 116, 32, 111, 110, 108, 121, 32, 97, 45, 122, 44, 32, 48, 45, 57, 32, 97, 110, 100, 32, 39, 45, 39]⟩ 2 = some [(0, 113, false), (1, 113, false)] := by kernel_rfl
theorem Tryf.fmt2r (w : World) : (FmtDoors.printed ⟨#[108, 97, 98, 101, 108, 32, 37, 113, 32, 104, 111, 108, 100, 115, 32, 37, 113, 44, 32, 119, 97, 110, 116, 32, 111, 110, 108, 121, 32, 97, 45, 122, 44, 32, 48, 45, 57, 32, 97, 110, 100, 32, 39, 45, 39]⟩ 2).run Tryf.prog w = .ok [(0, 113, false), (1, 113, false)] w := by kernel_rfl
theorem Tryf.fmt2z : FmtStop.printed? ⟨#[108, 97, 98, 101, 108, 32, 37, 113, 32, 104, 111, 108, 100, 115, 32, 37, 113, 44, 32, 119, 97, 110, 116, 32, 111, 110, 108, 121, 32, 97, 45, 122, 44, 32, 48, 45, 57, 32, 97, 110, 100, 32, 39, 45, 39]⟩ 0 = some [] := by kernel_rfl
theorem Tryf.fmt2zr (w : World) : (FmtDoors.printed ⟨#[108, 97, 98, 101, 108, 32, 37, 113, 32, 104, 111, 108, 100, 115, 32, 37, 113, 44, 32, 119, 97, 110, 116, 32, 111, 110, 108, 121, 32, 97, 45, 122, 44, 32, 48, 45, 57, 32, 97, 110, 100, 32, 39, 45, 39]⟩ 0).run Tryf.prog w = .ok [] w := by kernel_rfl
def Tryf.shape9 : List UInt8 := [12, 6, 0, 0, 0, 0, 0, 0, 0, 115, 116, 114, 105, 110, 103]
def Tryf.shape3 : List UInt8 := [5, 3, 0, 0, 0, 0, 0, 0, 0, 105, 110, 116]
def Tryf.shape5 : List UInt8 := [6, 5, 0, 0, 0, 0, 0, 0, 0, 117, 105, 110, 116, 56]
theorem Tryf.op9_118 (name : String) (x : ByteArray) (w : World) : (FmtStop.operand name false 118 false (.iface 9 (.string x))).run Tryf.prog w = .ok (Tryf.shape9, FmtStop.pack x.data.toList) w := by kernel_rfl
theorem Tryf.op3_118 (name : String) (x : Int) (w : World) : (FmtStop.operand name false 118 false (.iface 3 (.int .i64 x))).run Tryf.prog w = .ok (Tryf.shape3, Go.Extern.Stop.digits 8 (x % 2 ^ 64).toNat) w := by kernel_rfl
theorem Tryf.op5_118 (name : String) (x : Int) (w : World) : (FmtStop.operand name false 118 false (.iface 5 (.int .u8 x))).run Tryf.prog w = .ok (Tryf.shape5, Go.Extern.Stop.digits 8 (x % 2 ^ 64).toNat) w := by kernel_rfl
theorem Tryf.op9_118w (name : String) (x : ByteArray) (w : World) : (FmtStop.operand name true 118 false (.iface 9 (.string x))).run Tryf.prog w = .ok (Tryf.shape9, FmtStop.pack x.data.toList) w := by kernel_rfl
theorem Tryf.op3_118w (name : String) (x : Int) (w : World) : (FmtStop.operand name true 118 false (.iface 3 (.int .i64 x))).run Tryf.prog w = .ok (Tryf.shape3, Go.Extern.Stop.digits 8 (x % 2 ^ 64).toNat) w := by kernel_rfl
theorem Tryf.op5_118w (name : String) (x : Int) (w : World) : (FmtStop.operand name true 118 false (.iface 5 (.int .u8 x))).run Tryf.prog w = .ok (Tryf.shape5, Go.Extern.Stop.digits 8 (x % 2 ^ 64).toNat) w := by kernel_rfl
theorem Tryf.op9_113 (name : String) (x : ByteArray) (w : World) : (FmtStop.operand name false 113 false (.iface 9 (.string x))).run Tryf.prog w = .ok (Tryf.shape9, FmtStop.pack x.data.toList) w := by kernel_rfl
theorem Tryf.op3_113 (name : String) (x : Int) (w : World) : (FmtStop.operand name false 113 false (.iface 3 (.int .i64 x))).run Tryf.prog w = .ok (Tryf.shape3, Go.Extern.Stop.digits 8 (x % 2 ^ 64).toNat) w := by kernel_rfl
theorem Tryf.op5_113 (name : String) (x : Int) (w : World) : (FmtStop.operand name false 113 false (.iface 5 (.int .u8 x))).run Tryf.prog w = .ok (Tryf.shape5, Go.Extern.Stop.digits 8 (x % 2 ^ 64).toNat) w := by kernel_rfl
theorem Tryf.op9_113w (name : String) (x : ByteArray) (w : World) : (FmtStop.operand name true 113 false (.iface 9 (.string x))).run Tryf.prog w = .ok (Tryf.shape9, FmtStop.pack x.data.toList) w := by kernel_rfl
theorem Tryf.op3_113w (name : String) (x : Int) (w : World) : (FmtStop.operand name true 113 false (.iface 3 (.int .i64 x))).run Tryf.prog w = .ok (Tryf.shape3, Go.Extern.Stop.digits 8 (x % 2 ^ 64).toNat) w := by kernel_rfl
theorem Tryf.op5_113w (name : String) (x : Int) (w : World) : (FmtStop.operand name true 113 false (.iface 5 (.int .u8 x))).run Tryf.prog w = .ok (Tryf.shape5, Go.Extern.Stop.digits 8 (x % 2 ^ 64).toNat) w := by kernel_rfl
theorem Tryf.op9_100 (name : String) (x : ByteArray) (w : World) : (FmtStop.operand name false 100 false (.iface 9 (.string x))).run Tryf.prog w = .ok (Tryf.shape9, FmtStop.pack x.data.toList) w := by kernel_rfl
theorem Tryf.op3_100 (name : String) (x : Int) (w : World) : (FmtStop.operand name false 100 false (.iface 3 (.int .i64 x))).run Tryf.prog w = .ok (Tryf.shape3, Go.Extern.Stop.digits 8 (x % 2 ^ 64).toNat) w := by kernel_rfl
theorem Tryf.op5_100 (name : String) (x : Int) (w : World) : (FmtStop.operand name false 100 false (.iface 5 (.int .u8 x))).run Tryf.prog w = .ok (Tryf.shape5, Go.Extern.Stop.digits 8 (x % 2 ^ 64).toNat) w := by kernel_rfl
theorem Tryf.op9_100w (name : String) (x : ByteArray) (w : World) : (FmtStop.operand name true 100 false (.iface 9 (.string x))).run Tryf.prog w = .ok (Tryf.shape9, FmtStop.pack x.data.toList) w := by kernel_rfl
theorem Tryf.op3_100w (name : String) (x : Int) (w : World) : (FmtStop.operand name true 100 false (.iface 3 (.int .i64 x))).run Tryf.prog w = .ok (Tryf.shape3, Go.Extern.Stop.digits 8 (x % 2 ^ 64).toNat) w := by kernel_rfl
theorem Tryf.op5_100w (name : String) (x : Int) (w : World) : (FmtStop.operand name true 100 false (.iface 5 (.int .u8 x))).run Tryf.prog w = .ok (Tryf.shape5, Go.Extern.Stop.digits 8 (x % 2 ^ 64).toNat) w := by kernel_rfl
theorem Tryf.strict9 (name : String) (x : ByteArray) (w : World) : (FmtStop.strict name (.iface 9 (.string x))).run Tryf.prog w = .ok (Tryf.shape9, FmtStop.pack x.data.toList) w := by kernel_rfl
theorem Tryf.strict3 (name : String) (x : Int) (w : World) : (FmtStop.strict name (.iface 3 (.int .i64 x))).run Tryf.prog w = .ok (Tryf.shape3, Go.Extern.Stop.digits 8 (x % 2 ^ 64).toNat) w := by kernel_rfl
theorem Tryf.strict5 (name : String) (x : Int) (w : World) : (FmtStop.strict name (.iface 5 (.int .u8 x))).run Tryf.prog w = .ok (Tryf.shape5, Go.Extern.Stop.digits 8 (x % 2 ^ 64).toNat) w := by kernel_rfl
theorem Tryf.ptr30 (w : World) : (FmtStop.ptrTo "errors.errorString").run Tryf.prog w = .ok 30 w := by kernel_rfl
theorem Tryf.elem30 (w : World) : (elemOf 30).run Tryf.prog w = .ok 32 w := by kernel_rfl
theorem Tryf.isError30 (w : World) : (FmtDoors.textMethod 30 "Error").run Tryf.prog w = .ok true w := by kernel_rfl
theorem Tryf.ptr29 (w : World) : (FmtStop.ptrTo "fmt.wrapError").run Tryf.prog w = .ok 29 w := by kernel_rfl
theorem Tryf.elem29 (w : World) : (elemOf 29).run Tryf.prog w = .ok 50 w := by kernel_rfl
theorem Tryf.isError29 (w : World) : (FmtDoors.textMethod 29 "Error").run Tryf.prog w = .ok true w := by kernel_rfl
end Go.Proofs.Qxb6628172aFmt

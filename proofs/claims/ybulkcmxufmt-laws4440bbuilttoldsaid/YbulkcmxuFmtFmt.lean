/-
  THE CLOSED FACTS FOR A WALK OVER fmt's STOPPED FRONT at this dump (after the guide's CheckFmt.lean, turned to this program's formats and types). Each is proved by the kernel's own evaluation.
-/
import Derived.Test.YbulkcmxuFmtProg
import Derived.Stop.CallBack
import Derived.Stop.IfaceNil
import GoSem.ClaimData
namespace Go.Proofs
open Go.Extern.Stop Go.Stop Go.Extern
@[go_sem] theorem Ybaf.call14 (args : Array Value) (w : World) : (callFunc 14 args).run Ybaf.prog w = ((FmtStop.errorf #[9, 43] #[27] args).run Ybaf.prog w).andThen fun v w' => .ok (.value v) w' :=
  run_callFunc_extern Ybaf.func14 (by kernel_rfl) (by kernel_rfl) (by kernel_rfl) (by kernel_rfl) args w
@[go_sem] theorem Ybaf.guard (name : String) (w : World) : (FmtStop.guard name).run Ybaf.prog w = .ok () w := by kernel_rfl
@[go_sem] theorem Ybaf.fmt0 : FmtStop.printed? ⟨#[99, 97, 110, 110, 111, 116, 32, 101, 115, 99, 97, 112, 101, 32, 37, 113, 58, 32, 39, 33, 39, 32, 97, 116, 32, 111, 102, 102, 115, 101, 116, 32, 37, 100]⟩ 2 = some [(0, 113, false), (1, 100, false)] := by kernel_rfl
@[go_sem] theorem Ybaf.fmt0r (w : World) : (FmtDoors.printed ⟨#[99, 97, 110, 110, 111, 116, 32, 101, 115, 99, 97, 112, 101, 32, 37, 113, 58, 32, 39, 33, 39, 32, 97, 116, 32, 111, 102, 102, 115, 101, 116, 32, 37, 100]⟩ 2).run Ybaf.prog w = .ok [(0, 113, false), (1, 100, false)] w := by kernel_rfl
@[go_sem] theorem Ybaf.fmt0z : FmtStop.printed? ⟨#[99, 97, 110, 110, 111, 116, 32, 101, 115, 99, 97, 112, 101, 32, 37, 113, 58, 32, 39, 33, 39, 32, 97, 116, 32, 111, 102, 102, 115, 101, 116, 32, 37, 100]⟩ 0 = some [] := by kernel_rfl
@[go_sem] theorem Ybaf.fmt0zr (w : World) : (FmtDoors.printed ⟨#[99, 97, 110, 110, 111, 116, 32, 101, 115, 99, 97, 112, 101, 32, 37, 113, 58, 32, 39, 33, 39, 32, 97, 116, 32, 111, 102, 102, 115, 101, 116, 32, 37, 100]⟩ 0).run Ybaf.prog w = .ok [] w := by kernel_rfl
@[go_sem] theorem Ybaf.fmt1 : FmtStop.printed? ⟨#[99, 97, 110, 110, 111, 116, 32, 101, 115, 99, 97, 112, 101, 32, 37, 113, 58, 32, 98, 121, 116, 101, 32, 48, 120, 37, 48, 50, 120, 32, 97, 116, 32, 111, 102, 102, 115, 101, 116, 32, 37, 100, 32, 105, 115, 32, 110, 111, 116, 32, 112, 114, 105, 110, 116, 97, 98, 108, 101, 32, 65, 83, 67, 73, 73]⟩ 3 = some [(0, 113, false), (1, 120, false), (2, 100, false)] := by kernel_rfl
@[go_sem] theorem Ybaf.fmt1r (w : World) : (FmtDoors.printed ⟨#[99, 97, 110, 110, 111, 116, 32, 101, 115, 99, 97, 112, 101, 32, 37, 113, 58, 32, 98, 121, 116, 101, 32, 48, 120, 37, 48, 50, 120, 32, 97, 116, 32, 111, 102, 102, 115, 101, 116, 32, 37, 100, 32, 105, 115, 32, 110, 111, 116, 32, 112, 114, 105, 110, 116, 97, 98, 108, 101, 32, 65, 83, 67, 73, 73]⟩ 3).run Ybaf.prog w = .ok [(0, 113, false), (1, 120, false), (2, 100, false)] w := by kernel_rfl
@[go_sem] theorem Ybaf.fmt1z : FmtStop.printed? ⟨#[99, 97, 110, 110, 111, 116, 32, 101, 115, 99, 97, 112, 101, 32, 37, 113, 58, 32, 98, 121, 116, 101, 32, 48, 120, 37, 48, 50, 120, 32, 97, 116, 32, 111, 102, 102, 115, 101, 116, 32, 37, 100, 32, 105, 115, 32, 110, 111, 116, 32, 112, 114, 105, 110, 116, 97, 98, 108, 101, 32, 65, 83, 67, 73, 73]⟩ 0 = some [] := by kernel_rfl
@[go_sem] theorem Ybaf.fmt1zr (w : World) : (FmtDoors.printed ⟨#[99, 97, 110, 110, 111, 116, 32, 101, 115, 99, 97, 112, 101, 32, 37, 113, 58, 32, 98, 121, 116, 101, 32, 48, 120, 37, 48, 50, 120, 32, 97, 116, 32, 111, 102, 102, 115, 101, 116, 32, 37, 100, 32, 105, 115, 32, 110, 111, 116, 32, 112, 114, 105, 110, 116, 97, 98, 108, 101, 32, 65, 83, 67, 73, 73]⟩ 0).run Ybaf.prog w = .ok [] w := by kernel_rfl
def Ybaf.shape9 : List UInt8 := [12, 6, 0, 0, 0, 0, 0, 0, 0, 115, 116, 114, 105, 110, 103]
def Ybaf.shape3 : List UInt8 := [5, 3, 0, 0, 0, 0, 0, 0, 0, 105, 110, 116]
def Ybaf.shape5 : List UInt8 := [6, 5, 0, 0, 0, 0, 0, 0, 0, 117, 105, 110, 116, 56]
@[go_sem] theorem Ybaf.op9_113 (name : String) (x : ByteArray) (w : World) : (FmtStop.operand name false 113 false (.iface 9 (.string x))).run Ybaf.prog w = .ok (Ybaf.shape9, FmtStop.pack x.data.toList) w := by kernel_rfl
@[go_sem] theorem Ybaf.op3_100 (name : String) (x : Int) (w : World) : (FmtStop.operand name false 100 false (.iface 3 (.int .i64 x))).run Ybaf.prog w = .ok (Ybaf.shape3, Go.Extern.Stop.digits 8 (x % 2 ^ 64).toNat) w := by kernel_rfl
@[go_sem] theorem Ybaf.op5_120 (name : String) (x : Int) (w : World) : (FmtStop.operand name false 120 false (.iface 5 (.int .u8 x))).run Ybaf.prog w = .ok (Ybaf.shape5, Go.Extern.Stop.digits 8 (x % 2 ^ 64).toNat) w := by kernel_rfl
@[go_sem] theorem Ybaf.op9_113w (name : String) (x : ByteArray) (w : World) : (FmtStop.operand name true 113 false (.iface 9 (.string x))).run Ybaf.prog w = .ok (Ybaf.shape9, FmtStop.pack x.data.toList) w := by kernel_rfl
@[go_sem] theorem Ybaf.op3_100w (name : String) (x : Int) (w : World) : (FmtStop.operand name true 100 false (.iface 3 (.int .i64 x))).run Ybaf.prog w = .ok (Ybaf.shape3, Go.Extern.Stop.digits 8 (x % 2 ^ 64).toNat) w := by kernel_rfl
@[go_sem] theorem Ybaf.op5_120w (name : String) (x : Int) (w : World) : (FmtStop.operand name true 120 false (.iface 5 (.int .u8 x))).run Ybaf.prog w = .ok (Ybaf.shape5, Go.Extern.Stop.digits 8 (x % 2 ^ 64).toNat) w := by kernel_rfl
@[go_sem] theorem Ybaf.ptr47 (w : World) : (FmtStop.ptrTo "errors.errorString").run Ybaf.prog w = .ok 47 w := by kernel_rfl
@[go_sem] theorem Ybaf.elem47 (w : World) : (elemOf 47).run Ybaf.prog w = .ok 49 w := by kernel_rfl
@[go_sem] theorem Ybaf.isError47' (w : World) : (FmtDoors.textMethod 47 "Error").run Ybaf.prog w = .ok true w := by kernel_rfl
end Go.Proofs

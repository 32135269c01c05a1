/- THE CLOSED FACTS FOR A WALK OVER THE STOPPED FRONT fmt.errorf, for this program (after the guide's CheckFmt). -/
import Derived.Test.Qxb6002376aFmtProg
import Derived.Stop.FmtLaws
import Derived.Stop.IfaceNil
import GoSem.ClaimData
namespace Go.Proofs
open Go.Extern.Stop Go.Stop Go.Extern

@[go_sem] theorem Tryf.call38 (args : Array Value) (w : World) : (callFunc 38 args).run Tryf.prog w = ((FmtStop.errorf #[9, 71] #[31] args).run Tryf.prog w).andThen fun v w' => .ok (.value v) w' :=
  run_callFunc_extern Tryf.func38 (by kernel_rfl) (by kernel_rfl) (by kernel_rfl) (by kernel_rfl) args w
@[go_sem] theorem Tryf.guard (name : String) (w : World) : (FmtStop.guard name).run Tryf.prog w = .ok () w := by kernel_rfl
-- name percent q has an empty label
@[go_sem] theorem Tryf.fmt0 : FmtStop.printed? ⟨#[110, 97, 109, 101, 32, 37, 113, 32, 104, 97, 115, 32, 97, 110, 32, 101, 109, 112, 116, 121, 32, 108, 97, 98, 101, 108]⟩ 1 = some [(0, 113, false)] := by kernel_rfl
@[go_sem] theorem Tryf.fmt0r (w : World) : (FmtDoors.printed ⟨#[110, 97, 109, 101, 32, 37, 113, 32, 104, 97, 115, 32, 97, 110, 32, 101, 109, 112, 116, 121, 32, 108, 97, 98, 101, 108]⟩ 1).run Tryf.prog w = .ok [(0, 113, false)] w := by kernel_rfl
-- name percent q has a label longer than percent d bytes
@[go_sem] theorem Tryf.fmt1 : FmtStop.printed? ⟨#[110, 97, 109, 101, 32, 37, 113, 32, 104, 97, 115, 32, 97, 32, 108, 97, 98, 101, 108, 32, 108, 111, 110, 103, 101, 114, 32, 116, 104, 97, 110, 32, 37, 100, 32, 98, 121, 116, 101, 115]⟩ 2 = some [(0, 113, false), (1, 100, false)] := by kernel_rfl
@[go_sem] theorem Tryf.fmt1r (w : World) : (FmtDoors.printed ⟨#[110, 97, 109, 101, 32, 37, 113, 32, 104, 97, 115, 32, 97, 32, 108, 97, 98, 101, 108, 32, 108, 111, 110, 103, 101, 114, 32, 116, 104, 97, 110, 32, 37, 100, 32, 98, 121, 116, 101, 115]⟩ 2).run Tryf.prog w = .ok [(0, 113, false), (1, 100, false)] w := by kernel_rfl
-- name percent q is longer than percent d bytes
@[go_sem] theorem Tryf.fmt2 : FmtStop.printed? ⟨#[110, 97, 109, 101, 32, 37, 113, 32, 105, 115, 32, 108, 111, 110, 103, 101, 114, 32, 116, 104, 97, 110, 32, 37, 100, 32, 98, 121, 116, 101, 115]⟩ 2 = some [(0, 113, false), (1, 100, false)] := by kernel_rfl
@[go_sem] theorem Tryf.fmt2r (w : World) : (FmtDoors.printed ⟨#[110, 97, 109, 101, 32, 37, 113, 32, 105, 115, 32, 108, 111, 110, 103, 101, 114, 32, 116, 104, 97, 110, 32, 37, 100, 32, 98, 121, 116, 101, 115]⟩ 2).run Tryf.prog w = .ok [(0, 113, false), (1, 100, false)] w := by kernel_rfl
def Tryf.shape3 : List UInt8 := [5, 3, 0, 0, 0, 0, 0, 0, 0, 105, 110, 116]
@[go_sem] theorem Tryf.op3_100 (name : String) (x : Int) (w : World) : (FmtStop.operand name false 100 false (.iface 3 (.int .i64 x))).run Tryf.prog w = .ok (Tryf.shape3, Go.Extern.Stop.digits 8 (x % 2 ^ 64).toNat) w := by kernel_rfl
@[go_sem] theorem Tryf.op3_100w (name : String) (x : Int) (w : World) : (FmtStop.operand name true 100 false (.iface 3 (.int .i64 x))).run Tryf.prog w = .ok (Tryf.shape3, Go.Extern.Stop.digits 8 (x % 2 ^ 64).toNat) w := by kernel_rfl
def Tryf.shape9 : List UInt8 := [12, 6, 0, 0, 0, 0, 0, 0, 0, 115, 116, 114, 105, 110, 103]
@[go_sem] theorem Tryf.op9_113 (name : String) (x : ByteArray) (w : World) : (FmtStop.operand name false 113 false (.iface 9 (.string x))).run Tryf.prog w = .ok (Tryf.shape9, FmtStop.pack x.data.toList) w := by kernel_rfl
@[go_sem] theorem Tryf.op9_113w (name : String) (x : ByteArray) (w : World) : (FmtStop.operand name true 113 false (.iface 9 (.string x))).run Tryf.prog w = .ok (Tryf.shape9, FmtStop.pack x.data.toList) w := by kernel_rfl
@[go_sem] theorem Tryf.ptr68 (w : World) : (FmtStop.ptrTo "errors.errorString").run Tryf.prog w = .ok 68 w := by kernel_rfl
@[go_sem] theorem Tryf.elem68 (w : World) : (elemOf 68).run Tryf.prog w = .ok 70 w := by kernel_rfl
@[go_sem] theorem Tryf.isError68 (w : World) : (FmtDoors.textMethod 68 "Error").run Tryf.prog w = .ok true w := by kernel_rfl
@[go_sem] theorem Tryf.ptr72 (w : World) : (FmtStop.ptrTo "fmt.wrapError").run Tryf.prog w = .ok 72 w := by kernel_rfl
@[go_sem] theorem Tryf.elem72 (w : World) : (elemOf 72).run Tryf.prog w = .ok 95 w := by kernel_rfl
@[go_sem] theorem Tryf.isError72 (w : World) : (FmtDoors.textMethod 72 "Error").run Tryf.prog w = .ok true w := by kernel_rfl

end Go.Proofs

/- THE CLOSED FACTS FOR A WALK OVER THE STOPPED FRONT fmt.errorf, for this program (after the guide's CheckFmt). -/
import Derived.Test.Qxb6002403aFmtProg
import Derived.Stop.FmtLaws
import Derived.Stop.IfaceNil
import GoSem.ClaimData
namespace Go.Proofs
open Go.Extern.Stop Go.Stop Go.Extern

@[go_sem] theorem Tryf.call10 (args : Array Value) (w : World) : (callFunc 10 args).run Tryf.prog w = ((FmtStop.errorf #[9, 33] #[26] args).run Tryf.prog w).andThen fun v w' => .ok (.value v) w' :=
  run_callFunc_extern Tryf.func10 (by kernel_rfl) (by kernel_rfl) (by kernel_rfl) (by kernel_rfl) args w
@[go_sem] theorem Tryf.guard (name : String) (w : World) : (FmtStop.guard name).run Tryf.prog w = .ok () w := by kernel_rfl
-- percent d is not a whole number of days from 1
@[go_sem] theorem Tryf.fmt0 : FmtStop.printed? ⟨#[37, 100, 32, 105, 115, 32, 110, 111, 116, 32, 97, 32, 119, 104, 111, 108, 101, 32, 110, 117, 109, 98, 101, 114, 32, 111, 102, 32, 100, 97, 121, 115, 32, 102, 114, 111, 109, 32, 49]⟩ 1 = some [(0, 100, false)] := by kernel_rfl
@[go_sem] theorem Tryf.fmt0r (w : World) : (FmtDoors.printed ⟨#[37, 100, 32, 105, 115, 32, 110, 111, 116, 32, 97, 32, 119, 104, 111, 108, 101, 32, 110, 117, 109, 98, 101, 114, 32, 111, 102, 32, 100, 97, 121, 115, 32, 102, 114, 111, 109, 32, 49]⟩ 1).run Tryf.prog w = .ok [(0, 100, false)] w := by kernel_rfl
-- percent d follows percent d: each day must be later than the one before it
@[go_sem] theorem Tryf.fmt1 : FmtStop.printed? ⟨#[37, 100, 32, 102, 111, 108, 108, 111, 119, 115, 32, 37, 100, 58, 32, 101, 97, 99, 104, 32, 100, 97, 121, 32, 109, 117, 115, 116, 32, 98, 101, 32, 108, 97, 116, 101, 114, 32, 116, 104, 97, 110, 32, 116, 104, 101, 32, 111, 110, 101, 32, 98, 101, 102, 111, 114, 101, 32, 105, 116]⟩ 2 = some [(0, 100, false), (1, 100, false)] := by kernel_rfl
@[go_sem] theorem Tryf.fmt1r (w : World) : (FmtDoors.printed ⟨#[37, 100, 32, 102, 111, 108, 108, 111, 119, 115, 32, 37, 100, 58, 32, 101, 97, 99, 104, 32, 100, 97, 121, 32, 109, 117, 115, 116, 32, 98, 101, 32, 108, 97, 116, 101, 114, 32, 116, 104, 97, 110, 32, 116, 104, 101, 32, 111, 110, 101, 32, 98, 101, 102, 111, 114, 101, 32, 105, 116]⟩ 2).run Tryf.prog w = .ok [(0, 100, false), (1, 100, false)] w := by kernel_rfl
def Tryf.shape3 : List UInt8 := [5, 3, 0, 0, 0, 0, 0, 0, 0, 105, 110, 116]
@[go_sem] theorem Tryf.op3_100 (name : String) (x : Int) (w : World) : (FmtStop.operand name false 100 false (.iface 3 (.int .i64 x))).run Tryf.prog w = .ok (Tryf.shape3, Go.Extern.Stop.digits 8 (x % 2 ^ 64).toNat) w := by kernel_rfl
@[go_sem] theorem Tryf.op3_100w (name : String) (x : Int) (w : World) : (FmtStop.operand name true 100 false (.iface 3 (.int .i64 x))).run Tryf.prog w = .ok (Tryf.shape3, Go.Extern.Stop.digits 8 (x % 2 ^ 64).toNat) w := by kernel_rfl
@[go_sem] theorem Tryf.ptr30 (w : World) : (FmtStop.ptrTo "errors.errorString").run Tryf.prog w = .ok 30 w := by kernel_rfl
@[go_sem] theorem Tryf.elem30 (w : World) : (elemOf 30).run Tryf.prog w = .ok 32 w := by kernel_rfl
@[go_sem] theorem Tryf.isError30 (w : World) : (FmtDoors.textMethod 30 "Error").run Tryf.prog w = .ok true w := by kernel_rfl
@[go_sem] theorem Tryf.ptr34 (w : World) : (FmtStop.ptrTo "fmt.wrapError").run Tryf.prog w = .ok 34 w := by kernel_rfl
@[go_sem] theorem Tryf.elem34 (w : World) : (elemOf 34).run Tryf.prog w = .ok 52 w := by kernel_rfl
@[go_sem] theorem Tryf.isError34 (w : World) : (FmtDoors.textMethod 34 "Error").run Tryf.prog w = .ok true w := by kernel_rfl

end Go.Proofs

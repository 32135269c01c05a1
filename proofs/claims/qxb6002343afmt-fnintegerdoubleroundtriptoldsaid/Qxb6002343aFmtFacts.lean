/- THE CLOSED FACTS FOR A WALK OVER THE STOPPED FRONT fmt.errorf, for this program (after the guide's CheckFmt). -/
import Derived.Test.Qxb6002343aFmtProg
import Derived.Stop.FmtLaws
import Derived.Stop.IfaceNil
import GoSem.ClaimData
namespace Go.Proofs
open Go.Extern.Stop Go.Stop Go.Extern

@[go_sem] theorem Tryf.call32 (args : Array Value) (w : World) : (callFunc 32 args).run Tryf.prog w = ((FmtStop.errorf #[9, 65] #[23] args).run Tryf.prog w).andThen fun v w' => .ok (.value v) w' :=
  run_callFunc_extern Tryf.func32 (by kernel_rfl) (by kernel_rfl) (by kernel_rfl) (by kernel_rfl) args w
@[go_sem] theorem Tryf.guard (name : String) (w : World) : (FmtStop.guard name).run Tryf.prog w = .ok () w := by kernel_rfl
-- the first position, percent d, is negative
@[go_sem] theorem Tryf.fmt0 : FmtStop.printed? ⟨#[116, 104, 101, 32, 102, 105, 114, 115, 116, 32, 112, 111, 115, 105, 116, 105, 111, 110, 44, 32, 37, 100, 44, 32, 105, 115, 32, 110, 101, 103, 97, 116, 105, 118, 101]⟩ 1 = some [(0, 100, false)] := by kernel_rfl
@[go_sem] theorem Tryf.fmt0r (w : World) : (FmtDoors.printed ⟨#[116, 104, 101, 32, 102, 105, 114, 115, 116, 32, 112, 111, 115, 105, 116, 105, 111, 110, 44, 32, 37, 100, 44, 32, 105, 115, 32, 110, 101, 103, 97, 116, 105, 118, 101]⟩ 1).run Tryf.prog w = .ok [(0, 100, false)] w := by kernel_rfl
-- a string of percent d characters has no position percent d
@[go_sem] theorem Tryf.fmt1 : FmtStop.printed? ⟨#[97, 32, 115, 116, 114, 105, 110, 103, 32, 111, 102, 32, 37, 100, 32, 99, 104, 97, 114, 97, 99, 116, 101, 114, 115, 32, 104, 97, 115, 32, 110, 111, 32, 112, 111, 115, 105, 116, 105, 111, 110, 32, 37, 100]⟩ 2 = some [(0, 100, false), (1, 100, false)] := by kernel_rfl
@[go_sem] theorem Tryf.fmt1r (w : World) : (FmtDoors.printed ⟨#[97, 32, 115, 116, 114, 105, 110, 103, 32, 111, 102, 32, 37, 100, 32, 99, 104, 97, 114, 97, 99, 116, 101, 114, 115, 32, 104, 97, 115, 32, 110, 111, 32, 112, 111, 115, 105, 116, 105, 111, 110, 32, 37, 100]⟩ 2).run Tryf.prog w = .ok [(0, 100, false), (1, 100, false)] w := by kernel_rfl
-- the end position, percent d, comes before the first, percent d
@[go_sem] theorem Tryf.fmt2 : FmtStop.printed? ⟨#[116, 104, 101, 32, 101, 110, 100, 32, 112, 111, 115, 105, 116, 105, 111, 110, 44, 32, 37, 100, 44, 32, 99, 111, 109, 101, 115, 32, 98, 101, 102, 111, 114, 101, 32, 116, 104, 101, 32, 102, 105, 114, 115, 116, 44, 32, 37, 100]⟩ 2 = some [(0, 100, false), (1, 100, false)] := by kernel_rfl
@[go_sem] theorem Tryf.fmt2r (w : World) : (FmtDoors.printed ⟨#[116, 104, 101, 32, 101, 110, 100, 32, 112, 111, 115, 105, 116, 105, 111, 110, 44, 32, 37, 100, 44, 32, 99, 111, 109, 101, 115, 32, 98, 101, 102, 111, 114, 101, 32, 116, 104, 101, 32, 102, 105, 114, 115, 116, 44, 32, 37, 100]⟩ 2).run Tryf.prog w = .ok [(0, 100, false), (1, 100, false)] w := by kernel_rfl
-- percent g lies outside the integers Firethorn holds (64-bit)
@[go_sem] theorem Tryf.fmt3 : FmtStop.printed? ⟨#[37, 103, 32, 108, 105, 101, 115, 32, 111, 117, 116, 115, 105, 100, 101, 32, 116, 104, 101, 32, 105, 110, 116, 101, 103, 101, 114, 115, 32, 70, 105, 114, 101, 116, 104, 111, 114, 110, 32, 104, 111, 108, 100, 115, 32, 40, 54, 52, 45, 98, 105, 116, 41]⟩ 1 = some [(0, 103, false)] := by kernel_rfl
@[go_sem] theorem Tryf.fmt3r (w : World) : (FmtDoors.printed ⟨#[37, 103, 32, 108, 105, 101, 115, 32, 111, 117, 116, 115, 105, 100, 101, 32, 116, 104, 101, 32, 105, 110, 116, 101, 103, 101, 114, 115, 32, 70, 105, 114, 101, 116, 104, 111, 114, 110, 32, 104, 111, 108, 100, 115, 32, 40, 54, 52, 45, 98, 105, 116, 41]⟩ 1).run Tryf.prog w = .ok [(0, 103, false)] w := by kernel_rfl
-- matching a pattern of percent d pieces against a string of percent d bytes would take the decision past the percent d steps it may take
@[go_sem] theorem Tryf.fmt4 : FmtStop.printed? ⟨#[109, 97, 116, 99, 104, 105, 110, 103, 32, 97, 32, 112, 97, 116, 116, 101, 114, 110, 32, 111, 102, 32, 37, 100, 32, 112, 105, 101, 99, 101, 115, 32, 97, 103, 97, 105, 110, 115, 116, 32, 97, 32, 115, 116, 114, 105, 110, 103, 32, 111, 102, 32, 37, 100, 32, 98, 121, 116, 101, 115, 32, 119, 111, 117, 108, 100, 32, 116, 97, 107, 101, 32, 116, 104, 101, 32, 100, 101, 99, 105, 115, 105, 111, 110, 32, 112, 97, 115, 116, 32, 116, 104, 101, 32, 37, 100, 32, 115, 116, 101, 112, 115, 32, 105, 116, 32, 109, 97, 121, 32, 116, 97, 107, 101]⟩ 3 = some [(0, 100, false), (1, 100, false), (2, 100, false)] := by kernel_rfl
@[go_sem] theorem Tryf.fmt4r (w : World) : (FmtDoors.printed ⟨#[109, 97, 116, 99, 104, 105, 110, 103, 32, 97, 32, 112, 97, 116, 116, 101, 114, 110, 32, 111, 102, 32, 37, 100, 32, 112, 105, 101, 99, 101, 115, 32, 97, 103, 97, 105, 110, 115, 116, 32, 97, 32, 115, 116, 114, 105, 110, 103, 32, 111, 102, 32, 37, 100, 32, 98, 121, 116, 101, 115, 32, 119, 111, 117, 108, 100, 32, 116, 97, 107, 101, 32, 116, 104, 101, 32, 100, 101, 99, 105, 115, 105, 111, 110, 32, 112, 97, 115, 116, 32, 116, 104, 101, 32, 37, 100, 32, 115, 116, 101, 112, 115, 32, 105, 116, 32, 109, 97, 121, 32, 116, 97, 107, 101]⟩ 3).run Tryf.prog w = .ok [(0, 100, false), (1, 100, false), (2, 100, false)] w := by kernel_rfl
-- its character classes take more than percent d ranges of characters to build
@[go_sem] theorem Tryf.fmt5 : FmtStop.printed? ⟨#[105, 116, 115, 32, 99, 104, 97, 114, 97, 99, 116, 101, 114, 32, 99, 108, 97, 115, 115, 101, 115, 32, 116, 97, 107, 101, 32, 109, 111, 114, 101, 32, 116, 104, 97, 110, 32, 37, 100, 32, 114, 97, 110, 103, 101, 115, 32, 111, 102, 32, 99, 104, 97, 114, 97, 99, 116, 101, 114, 115, 32, 116, 111, 32, 98, 117, 105, 108, 100]⟩ 1 = some [(0, 100, false)] := by kernel_rfl
@[go_sem] theorem Tryf.fmt5r (w : World) : (FmtDoors.printed ⟨#[105, 116, 115, 32, 99, 104, 97, 114, 97, 99, 116, 101, 114, 32, 99, 108, 97, 115, 115, 101, 115, 32, 116, 97, 107, 101, 32, 109, 111, 114, 101, 32, 116, 104, 97, 110, 32, 37, 100, 32, 114, 97, 110, 103, 101, 115, 32, 111, 102, 32, 99, 104, 97, 114, 97, 99, 116, 101, 114, 115, 32, 116, 111, 32, 98, 117, 105, 108, 100]⟩ 1).run Tryf.prog w = .ok [(0, 100, false)] w := by kernel_rfl
def Tryf.shape2 : List UInt8 := [5, 5, 0, 0, 0, 0, 0, 0, 0, 105, 110, 116, 54, 52]
@[go_sem] theorem Tryf.op2_100 (name : String) (x : Int) (w : World) : (FmtStop.operand name false 100 false (.iface 2 (.int .i64 x))).run Tryf.prog w = .ok (Tryf.shape2, Go.Extern.Stop.digits 8 (x % 2 ^ 64).toNat) w := by kernel_rfl
@[go_sem] theorem Tryf.op2_100w (name : String) (x : Int) (w : World) : (FmtStop.operand name true 100 false (.iface 2 (.int .i64 x))).run Tryf.prog w = .ok (Tryf.shape2, Go.Extern.Stop.digits 8 (x % 2 ^ 64).toNat) w := by kernel_rfl
def Tryf.shape3 : List UInt8 := [5, 3, 0, 0, 0, 0, 0, 0, 0, 105, 110, 116]
@[go_sem] theorem Tryf.op3_100 (name : String) (x : Int) (w : World) : (FmtStop.operand name false 100 false (.iface 3 (.int .i64 x))).run Tryf.prog w = .ok (Tryf.shape3, Go.Extern.Stop.digits 8 (x % 2 ^ 64).toNat) w := by kernel_rfl
@[go_sem] theorem Tryf.op3_100w (name : String) (x : Int) (w : World) : (FmtStop.operand name true 100 false (.iface 3 (.int .i64 x))).run Tryf.prog w = .ok (Tryf.shape3, Go.Extern.Stop.digits 8 (x % 2 ^ 64).toNat) w := by kernel_rfl
def Tryf.shape29 : List UInt8 := [11, 7, 0, 0, 0, 0, 0, 0, 0, 102, 108, 111, 97, 116, 54, 52]
@[go_sem] theorem Tryf.op29_103 (name : String) (x : Nat) (w : World) : (FmtStop.operand name false 103 false (.iface 29 (.float .f64 x))).run Tryf.prog w = .ok (Tryf.shape29, Go.Extern.Stop.digits 8 x) w := by kernel_rfl
@[go_sem] theorem Tryf.op29_103w (name : String) (x : Nat) (w : World) : (FmtStop.operand name true 103 false (.iface 29 (.float .f64 x))).run Tryf.prog w = .ok (Tryf.shape29, Go.Extern.Stop.digits 8 x) w := by kernel_rfl
@[go_sem] theorem Tryf.ptr68 (w : World) : (FmtStop.ptrTo "errors.errorString").run Tryf.prog w = .ok 68 w := by kernel_rfl
@[go_sem] theorem Tryf.elem68 (w : World) : (elemOf 68).run Tryf.prog w = .ok 70 w := by kernel_rfl
@[go_sem] theorem Tryf.isError68 (w : World) : (FmtDoors.textMethod 68 "Error").run Tryf.prog w = .ok true w := by kernel_rfl
@[go_sem] theorem Tryf.ptr67 (w : World) : (FmtStop.ptrTo "fmt.wrapError").run Tryf.prog w = .ok 67 w := by kernel_rfl
@[go_sem] theorem Tryf.elem67 (w : World) : (elemOf 67).run Tryf.prog w = .ok 99 w := by kernel_rfl
@[go_sem] theorem Tryf.isError67 (w : World) : (FmtDoors.textMethod 67 "Error").run Tryf.prog w = .ok true w := by kernel_rfl

end Go.Proofs

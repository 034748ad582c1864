/-
  CLOSED FACTS OF THIS DUMP FOR A WALK OVER fmt.errorf's STOP (after the kit's own facts at another dump). Each by the kernel.
-/
import Derived.Test.Qxb6615907aFmtProg
import Derived.Stop.CallBack
import Derived.Stop.IfaceNil
import GoSem.ClaimData
namespace Go.Proofs
open Go.Extern.Stop Go.Stop Go.Extern

@[go_sem] theorem Tryf.call17 (args : Array Value) (w : World) : (callFunc 17 args).run Tryf.prog w = ((FmtStop.errorf #[9, 43] #[32] args).run Tryf.prog w).andThen fun v w' => .ok (.value v) w' :=
  run_callFunc_extern Tryf.func17 (by kernel_rfl) (by kernel_rfl) (by kernel_rfl) (by kernel_rfl) args w

@[go_sem] theorem Tryf.guard (name : String) (w : World) : (FmtStop.guard name).run Tryf.prog w = .ok () w := by kernel_rfl

@[go_sem] theorem Tryf.fmt0 : FmtStop.printed? ⟨#[116, 114, 117, 110, 99, 97, 116, 101, 100, 32, 97, 116, 32, 98, 121, 116, 101, 32, 37, 100, 58, 32, 37, 100, 32, 98, 121, 116, 101, 115, 32, 119, 97, 110, 116, 101, 100, 44, 32, 37, 100, 32, 108, 101, 102, 116]⟩ 3 = some [(0, 100, false), (1, 100, false), (2, 100, false)] := by kernel_rfl
@[go_sem] theorem Tryf.fmt0r (w : World) : (FmtDoors.printed ⟨#[116, 114, 117, 110, 99, 97, 116, 101, 100, 32, 97, 116, 32, 98, 121, 116, 101, 32, 37, 100, 58, 32, 37, 100, 32, 98, 121, 116, 101, 115, 32, 119, 97, 110, 116, 101, 100, 44, 32, 37, 100, 32, 108, 101, 102, 116]⟩ 3).run Tryf.prog w = .ok [(0, 100, false), (1, 100, false), (2, 100, false)] w := by kernel_rfl
@[go_sem] theorem Tryf.fmt1 : FmtStop.printed? ⟨#[116, 114, 117, 110, 99, 97, 116, 101, 100, 32, 97, 116, 32, 98, 121, 116, 101, 32, 37, 100, 58, 32, 37, 100, 32, 98, 121, 116, 101, 115, 32, 119, 97, 110, 116, 101, 100, 44, 32, 37, 100, 32, 108, 101, 102, 116]⟩ 0 = some [] := by kernel_rfl
@[go_sem] theorem Tryf.fmt1r (w : World) : (FmtDoors.printed ⟨#[116, 114, 117, 110, 99, 97, 116, 101, 100, 32, 97, 116, 32, 98, 121, 116, 101, 32, 37, 100, 58, 32, 37, 100, 32, 98, 121, 116, 101, 115, 32, 119, 97, 110, 116, 101, 100, 44, 32, 37, 100, 32, 108, 101, 102, 116]⟩ 0).run Tryf.prog w = .ok [] w := by kernel_rfl
@[go_sem] theorem Tryf.fmt2 : FmtStop.printed? ⟨#[116, 114, 117, 110, 99, 97, 116, 101, 100, 32, 111, 114, 32, 111, 118, 101, 114, 102, 108, 111, 119, 105, 110, 103, 32, 99, 111, 117, 110, 116, 32, 97, 116, 32, 98, 121, 116, 101, 32, 37, 100]⟩ 1 = some [(0, 100, false)] := by kernel_rfl
@[go_sem] theorem Tryf.fmt2r (w : World) : (FmtDoors.printed ⟨#[116, 114, 117, 110, 99, 97, 116, 101, 100, 32, 111, 114, 32, 111, 118, 101, 114, 102, 108, 111, 119, 105, 110, 103, 32, 99, 111, 117, 110, 116, 32, 97, 116, 32, 98, 121, 116, 101, 32, 37, 100]⟩ 1).run Tryf.prog w = .ok [(0, 100, false)] w := by kernel_rfl
@[go_sem] theorem Tryf.fmt3 : FmtStop.printed? ⟨#[116, 114, 117, 110, 99, 97, 116, 101, 100, 32, 111, 114, 32, 111, 118, 101, 114, 102, 108, 111, 119, 105, 110, 103, 32, 99, 111, 117, 110, 116, 32, 97, 116, 32, 98, 121, 116, 101, 32, 37, 100]⟩ 0 = some [] := by kernel_rfl
@[go_sem] theorem Tryf.fmt3r (w : World) : (FmtDoors.printed ⟨#[116, 114, 117, 110, 99, 97, 116, 101, 100, 32, 111, 114, 32, 111, 118, 101, 114, 102, 108, 111, 119, 105, 110, 103, 32, 99, 111, 117, 110, 116, 32, 97, 116, 32, 98, 121, 116, 101, 32, 37, 100]⟩ 0).run Tryf.prog w = .ok [] w := by kernel_rfl
@[go_sem] theorem Tryf.fmt4 : FmtStop.printed? ⟨#[99, 111, 117, 110, 116, 32, 37, 100, 32, 97, 116, 32, 98, 121, 116, 101, 32, 37, 100, 32, 105, 115, 32, 109, 111, 114, 101, 32, 116, 104, 97, 110, 32, 116, 104, 101, 32, 37, 100, 32, 98, 121, 116, 101, 115, 32, 108, 101, 102, 116, 32, 99, 97, 110, 32, 104, 111, 108, 100]⟩ 3 = some [(0, 100, false), (1, 100, false), (2, 100, false)] := by kernel_rfl
@[go_sem] theorem Tryf.fmt4r (w : World) : (FmtDoors.printed ⟨#[99, 111, 117, 110, 116, 32, 37, 100, 32, 97, 116, 32, 98, 121, 116, 101, 32, 37, 100, 32, 105, 115, 32, 109, 111, 114, 101, 32, 116, 104, 97, 110, 32, 116, 104, 101, 32, 37, 100, 32, 98, 121, 116, 101, 115, 32, 108, 101, 102, 116, 32, 99, 97, 110, 32, 104, 111, 108, 100]⟩ 3).run Tryf.prog w = .ok [(0, 100, false), (1, 100, false), (2, 100, false)] w := by kernel_rfl
@[go_sem] theorem Tryf.fmt5 : FmtStop.printed? ⟨#[99, 111, 117, 110, 116, 32, 37, 100, 32, 97, 116, 32, 98, 121, 116, 101, 32, 37, 100, 32, 105, 115, 32, 109, 111, 114, 101, 32, 116, 104, 97, 110, 32, 116, 104, 101, 32, 37, 100, 32, 98, 121, 116, 101, 115, 32, 108, 101, 102, 116, 32, 99, 97, 110, 32, 104, 111, 108, 100]⟩ 0 = some [] := by kernel_rfl
@[go_sem] theorem Tryf.fmt5r (w : World) : (FmtDoors.printed ⟨#[99, 111, 117, 110, 116, 32, 37, 100, 32, 97, 116, 32, 98, 121, 116, 101, 32, 37, 100, 32, 105, 115, 32, 109, 111, 114, 101, 32, 116, 104, 97, 110, 32, 116, 104, 101, 32, 37, 100, 32, 98, 121, 116, 101, 115, 32, 108, 101, 102, 116, 32, 99, 97, 110, 32, 104, 111, 108, 100]⟩ 0).run Tryf.prog w = .ok [] w := by kernel_rfl

def Tryf.shape3 : List UInt8 := [5, 3, 0, 0, 0, 0, 0, 0, 0, 105, 110, 116]
@[go_sem] theorem Tryf.op3_100 (name : String) (x : Int) (w : World) : (FmtStop.operand name false 100 false (.iface 3 (.int .i64 x))).run Tryf.prog w = .ok (Tryf.shape3, Go.Extern.Stop.digits 8 (x % 2 ^ 64).toNat) w := by kernel_rfl
@[go_sem] theorem Tryf.op3_100w (name : String) (x : Int) (w : World) : (FmtStop.operand name true 100 false (.iface 3 (.int .i64 x))).run Tryf.prog w = .ok (Tryf.shape3, Go.Extern.Stop.digits 8 (x % 2 ^ 64).toNat) w := by kernel_rfl
def Tryf.shape36 : List UInt8 := [9, 6, 0, 0, 0, 0, 0, 0, 0, 117, 105, 110, 116, 54, 52]
@[go_sem] theorem Tryf.op36_100 (name : String) (x : Int) (w : World) : (FmtStop.operand name false 100 false (.iface 36 (.int .u64 x))).run Tryf.prog w = .ok (Tryf.shape36, Go.Extern.Stop.digits 8 (x % 2 ^ 64).toNat) w := by kernel_rfl
@[go_sem] theorem Tryf.op36_100w (name : String) (x : Int) (w : World) : (FmtStop.operand name true 100 false (.iface 36 (.int .u64 x))).run Tryf.prog w = .ok (Tryf.shape36, Go.Extern.Stop.digits 8 (x % 2 ^ 64).toNat) w := by kernel_rfl

@[go_sem] theorem Tryf.ptr46 (w : World) : (FmtStop.ptrTo "errors.errorString").run Tryf.prog w = .ok 46 w := by kernel_rfl
@[go_sem] theorem Tryf.elem46 (w : World) : (elemOf 46).run Tryf.prog w = .ok 48 w := by kernel_rfl
@[go_sem] theorem Tryf.isError46 (w : World) : (FmtDoors.textMethod 46 "Error").run Tryf.prog w = .ok true w := by kernel_rfl

end Go.Proofs

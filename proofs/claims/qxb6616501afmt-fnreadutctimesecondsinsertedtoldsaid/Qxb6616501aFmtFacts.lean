/-
  DERIVED. THE CLOSED FACTS FOR A WALK OVER fmt.errorf's STOP (after the worked text CheckFmt.lean, turned to this program). Each by the kernel's own evaluation.
-/
import Derived.Test.Qxb6616501aFmtProg
import Derived.Stop.CallBack
import Derived.Stop.IfaceNil
import GoSem.ClaimData
namespace Go.Proofs
open Go.Extern.Stop Go.Stop Go.Extern

@[go_sem] theorem Tryf.call23 (args : Array Value) (w : World) : (callFunc 23 args).run Tryf.prog w = ((FmtStop.errorf #[9, 50] #[24] args).run Tryf.prog w).andThen fun v w' => .ok (.value v) w' :=
  run_callFunc_extern Tryf.func23 (by kernel_rfl) (by kernel_rfl) (by kernel_rfl) (by kernel_rfl) args w
@[go_sem] theorem Tryf.guard (name : String) (w : World) : (FmtStop.guard name).run Tryf.prog w = .ok () w := by kernel_rfl

@[go_sem] theorem Tryf.fmt0r (w : World) : (FmtDoors.printed ⟨#[101, 110, 100, 115, 32, 119, 104, 101, 114, 101, 32, 37, 115, 32, 109, 117, 115, 116, 32, 115, 116, 97, 110, 100]⟩ 1).run Tryf.prog w = .ok [(0, 115, false)] w := by kernel_rfl
@[go_sem] theorem Tryf.fmt1r (w : World) : (FmtDoors.printed ⟨#[119, 105, 116, 104, 32, 37, 113, 32, 97, 116, 32, 112, 111, 115, 105, 116, 105, 111, 110, 32, 37, 100, 44, 32, 119, 104, 101, 114, 101, 32, 37, 115, 32, 109, 117, 115, 116, 32, 115, 116, 97, 110, 100]⟩ 3).run Tryf.prog w = .ok [(0, 113, false), (1, 100, false), (2, 115, false)] w := by kernel_rfl
@[go_sem] theorem Tryf.fmt2r (w : World) : (FmtDoors.printed ⟨#[119, 105, 116, 104, 32, 37, 113, 32, 97, 116, 32, 112, 111, 115, 105, 116, 105, 111, 110, 32, 37, 100, 44, 32, 111, 117, 116, 32, 111, 102, 32, 112, 108, 97, 99, 101]⟩ 2).run Tryf.prog w = .ok [(0, 113, false), (1, 100, false)] w := by kernel_rfl
@[go_sem] theorem Tryf.fmt3r (w : World) : (FmtDoors.printed ⟨#[119, 105, 116, 104, 32, 97, 110, 32, 111, 102, 102, 115, 101, 116, 32, 111, 102, 32, 37, 100, 32, 104, 111, 117, 114, 115, 59, 32, 111, 102, 102, 115, 101, 116, 115, 32, 97, 114, 101, 32, 117, 110, 100, 101, 114, 32, 50, 52, 32, 104, 111, 117, 114, 115]⟩ 1).run Tryf.prog w = .ok [(0, 100, false)] w := by kernel_rfl
@[go_sem] theorem Tryf.fmt4r (w : World) : (FmtDoors.printed ⟨#[119, 105, 116, 104, 32, 97, 110, 32, 111, 102, 102, 115, 101, 116, 32, 111, 102, 32, 37, 100, 32, 109, 105, 110, 117, 116, 101, 115, 32, 112, 97, 115, 116, 32, 116, 104, 101, 32, 104, 111, 117, 114, 59, 32, 109, 105, 110, 117, 116, 101, 115, 32, 97, 114, 101, 32, 48, 48, 32, 116, 111, 32, 53, 57]⟩ 1).run Tryf.prog w = .ok [(0, 100, false)] w := by kernel_rfl

def Tryf.shape9 : List UInt8 := [12, 6, 0, 0, 0, 0, 0, 0, 0, 115, 116, 114, 105, 110, 103]
@[go_sem] theorem Tryf.op9_115w (name : String) (x : ByteArray) (w : World) : (FmtStop.operand name true 115 false (.iface 9 (.string x))).run Tryf.prog w = .ok (Tryf.shape9, FmtStop.pack x.data.toList) w := by kernel_rfl
def Tryf.shape3 : List UInt8 := [5, 3, 0, 0, 0, 0, 0, 0, 0, 105, 110, 116]
@[go_sem] theorem Tryf.op3_100w (name : String) (x : Int) (w : World) : (FmtStop.operand name true 100 false (.iface 3 (.int .i64 x))).run Tryf.prog w = .ok (Tryf.shape3, Go.Extern.Stop.digits 8 (x % 2 ^ 64).toNat) w := by kernel_rfl
def Tryf.shape5 : List UInt8 := [6, 5, 0, 0, 0, 0, 0, 0, 0, 117, 105, 110, 116, 56]
@[go_sem] theorem Tryf.op5_113w (name : String) (x : Int) (w : World) : (FmtStop.operand name true 113 false (.iface 5 (.int .u8 x))).run Tryf.prog w = .ok (Tryf.shape5, Go.Extern.Stop.digits 8 (x % 2 ^ 64).toNat) w := by kernel_rfl

@[go_sem] theorem Tryf.ptr47 (w : World) : (FmtStop.ptrTo "errors.errorString").run Tryf.prog w = .ok 47 w := by kernel_rfl
@[go_sem] theorem Tryf.elem47 (w : World) : (elemOf 47).run Tryf.prog w = .ok 49 w := by kernel_rfl
end Go.Proofs

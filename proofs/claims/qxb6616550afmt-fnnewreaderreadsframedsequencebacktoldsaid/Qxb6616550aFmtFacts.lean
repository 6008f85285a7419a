/-
  DERIVED. THE CLOSED FACTS FOR A WALK OVER fmt.errorf's STOP (after the worked text IpowFmt.lean, turned to this program).
-/
import Derived.Test.Qxb6616550aFmtProg
import Derived.Stop.CallBack
import Derived.Stop.IfaceNil
import GoSem.ClaimData
namespace Go.Proofs
open Go.Extern.Stop Go.Stop Go.Extern

@[go_sem] theorem Tryf.call23 (args : Array Value) (w : World) : (callFunc 23 args).run Tryf.prog w = ((FmtStop.errorf #[9, 50] #[31] args).run Tryf.prog w).andThen fun v w' => .ok (.value v) w' :=
  run_callFunc_extern Tryf.func23 (by kernel_rfl) (by kernel_rfl) (by kernel_rfl) (by kernel_rfl) args w
@[go_sem] theorem Tryf.guard (name : String) (w : World) : (FmtStop.guard name).run Tryf.prog w = .ok () w := by kernel_rfl
@[go_sem] theorem Tryf.fmt0r (w : World) : (FmtDoors.printed ⟨#[37, 115, 32, 111, 102, 32, 37, 100, 32, 98, 121, 116, 101, 115, 32, 119, 105, 116, 104, 32, 37, 100, 32, 108, 101, 102, 116, 58, 32, 37, 119]⟩ 4).run Tryf.prog w = .ok [(0, 115, false), (1, 100, false), (2, 100, false), (3, 119, false)] w := by kernel_rfl
@[go_sem] theorem Tryf.fmt1r (w : World) : (FmtDoors.printed ⟨#[37, 115, 32, 108, 101, 110, 103, 116, 104, 58, 32, 37, 119]⟩ 2).run Tryf.prog w = .ok [(0, 115, false), (1, 119, false)] w := by kernel_rfl
def Tryf.shape9 : List UInt8 := [12, 6, 0, 0, 0, 0, 0, 0, 0, 115, 116, 114, 105, 110, 103]
@[go_sem] theorem Tryf.op9_115w (name : String) (x : ByteArray) (w : World) : (FmtStop.operand name true 115 false (.iface 9 (.string x))).run Tryf.prog w = .ok (Tryf.shape9, FmtStop.pack x.data.toList) w := by kernel_rfl
def Tryf.shape3 : List UInt8 := [5, 3, 0, 0, 0, 0, 0, 0, 0, 105, 110, 116]
@[go_sem] theorem Tryf.op3_100w (name : String) (x : Int) (w : World) : (FmtStop.operand name true 100 false (.iface 3 (.int .i64 x))).run Tryf.prog w = .ok (Tryf.shape3, Go.Extern.Stop.digits 8 (x % 2 ^ 64).toNat) w := by kernel_rfl
def Tryf.shape45 : List UInt8 := [9, 6, 0, 0, 0, 0, 0, 0, 0, 117, 105, 110, 116, 54, 52]
@[go_sem] theorem Tryf.op45_100w (name : String) (x : Int) (w : World) : (FmtStop.operand name true 100 false (.iface 45 (.int .u64 x))).run Tryf.prog w = .ok (Tryf.shape45, Go.Extern.Stop.digits 8 (x % 2 ^ 64).toNat) w := by kernel_rfl
@[go_sem] theorem Tryf.ptr53 (w : World) : (FmtStop.ptrTo "errors.errorString").run Tryf.prog w = .ok 53 w := by kernel_rfl
@[go_sem] theorem Tryf.elem53 (w : World) : (elemOf 53).run Tryf.prog w = .ok 55 w := by kernel_rfl
@[go_sem] theorem Tryf.isError53 (w : World) : (FmtDoors.textMethod 53 "Error").run Tryf.prog w = .ok true w := by kernel_rfl
def Tryf.plain53 : List UInt8 := 14 :: FmtStop.pack [42, 101, 114, 114, 111, 114, 115, 46, 101, 114, 114, 111, 114, 83, 116, 114, 105, 110, 103]
theorem Tryf.opPlain53_119w (name : String) (a : Addr) (s : ByteArray) (w : World) (hc : w.cell? a = some (.string s)) :
    (FmtStop.operand name true 119 false (.iface 53 (.pointer (some a)))).run Tryf.prog w = .ok (Tryf.plain53, s.data.toList) w := by
  have h1 : (typeStr 53).run Tryf.prog w = .ok ((Tryf.prog.typeName? 3 53).getD "") w := by kernel_rfl
  have hb : ((Tryf.prog.typeName? 3 53).getD "").toUTF8.data.toList = [42, 101, 114, 114, 111, 114, 115, 46, 101, 114, 114, 111, 114, 83, 116, 114, 105, 110, 103] := by kernel_rfl
  generalize (Tryf.prog.typeName? 3 53).getD "" = nm at h1 hb
  have d2 : Tryf.t53.desc = .pointer 55 := rfl
  have d3 : Tryf.t55.desc = .named "errors.errorString" 54 := rfl
  simp [FmtStop.operand, h1, d2, d3, run_load, hc, Tryf.plain53]
  exact congrArg FmtStop.pack hb
@[go_sem] theorem Tryf.ptr52 (w : World) : (FmtStop.ptrTo "fmt.wrapError").run Tryf.prog w = .ok 52 w := by kernel_rfl
@[go_sem] theorem Tryf.elem52 (w : World) : (elemOf 52).run Tryf.prog w = .ok 73 w := by kernel_rfl
@[go_sem] theorem Tryf.isError52 (w : World) : (FmtDoors.textMethod 52 "Error").run Tryf.prog w = .ok true w := by kernel_rfl
def Tryf.plain52 : List UInt8 := 14 :: FmtStop.pack [42, 102, 109, 116, 46, 119, 114, 97, 112, 69, 114, 114, 111, 114]
theorem Tryf.opPlain52_119w (name : String) (a : Addr) (s : ByteArray) (w : World) (hc : w.cell? a = some (.string s)) :
    (FmtStop.operand name true 119 false (.iface 52 (.pointer (some a)))).run Tryf.prog w = .ok (Tryf.plain52, s.data.toList) w := by
  have h1 : (typeStr 52).run Tryf.prog w = .ok ((Tryf.prog.typeName? 3 52).getD "") w := by kernel_rfl
  have hb : ((Tryf.prog.typeName? 3 52).getD "").toUTF8.data.toList = [42, 102, 109, 116, 46, 119, 114, 97, 112, 69, 114, 114, 111, 114] := by kernel_rfl
  generalize (Tryf.prog.typeName? 3 52).getD "" = nm at h1 hb
  have d2 : Tryf.t52.desc = .pointer 73 := rfl
  have d3 : Tryf.t73.desc = .named "fmt.wrapError" 72 := rfl
  simp [FmtStop.operand, h1, d2, d3, run_load, hc, Tryf.plain52]
  exact congrArg FmtStop.pack hb
end Go.Proofs

/-
  THE CLOSED FACTS FOR A WALK OVER fmt's STOPPED FRONTS (fmt.Sprintf, fmt.errorf) AT THIS SEAT's PROGRAM, after the guide's CheckFmt and LabelFmt: each is the kernel's own evaluation.
-/
import Derived.Test.YbulkbtroFmtProg
import Derived.Stop.CallBack
import Derived.Stop.IfaceNil
import GoSem.ClaimData
namespace Go.Proofs.YbulkbtroFmt
open Go.Extern.Stop Go.Stop Go.Extern

theorem call8 (args : Array Value) (w : World) : (callFunc 8 args).run Ybaf.prog w = ((FmtStop.sprintf #[9, 56] #[9] args).run Ybaf.prog w).andThen fun v w' => .ok (.value v) w' :=
  run_callFunc_extern Ybaf.func8 (by kernel_rfl) (by kernel_rfl) (by kernel_rfl) (by kernel_rfl) args w
theorem call11 (args : Array Value) (w : World) : (callFunc 11 args).run Ybaf.prog w = ((FmtStop.errorf #[9, 56] #[46] args).run Ybaf.prog w).andThen fun v w' => .ok (.value v) w' :=
  run_callFunc_extern Ybaf.func11 (by kernel_rfl) (by kernel_rfl) (by kernel_rfl) (by kernel_rfl) args w
theorem fguard (name : String) (w : World) : (FmtStop.guard name).run Ybaf.prog w = .ok () w := by kernel_rfl

-- the two formats of fmt.Sprintf, one operand each
theorem fmtA : FmtStop.printed? ⟨#[112, 111, 115, 105, 116, 105, 111, 110, 32, 37, 100]⟩ 1 = some [(0, 100, false)] := by kernel_rfl
theorem fmtAr (w : World) : (FmtDoors.printed ⟨#[112, 111, 115, 105, 116, 105, 111, 110, 32, 37, 100]⟩ 1).run Ybaf.prog w = .ok [(0, 100, false)] w := by kernel_rfl
theorem fmtB : FmtStop.printed? ⟨#[111, 114, 100, 101, 114, 32, 37, 100]⟩ 1 = some [(0, 100, false)] := by kernel_rfl
theorem fmtBr (w : World) : (FmtDoors.printed ⟨#[111, 114, 100, 101, 114, 32, 37, 100]⟩ 1).run Ybaf.prog w = .ok [(0, 100, false)] w := by kernel_rfl
-- fmt.Errorf's
theorem fmtC : FmtStop.printed? ⟨#[37, 115, 32, 105, 115, 32, 110, 111, 116, 32, 111, 102, 32, 116, 104, 101, 32, 107, 105, 110, 100, 32, 111, 102, 32, 37, 115, 58, 32, 108, 105, 110, 101, 97, 114, 32, 97, 110, 100, 32, 105, 110, 118, 101, 114, 115, 101, 32, 99, 111, 110, 116, 114, 97, 99, 116, 115, 32, 115, 101, 116, 116, 108, 101, 32, 105, 110, 32, 100, 105, 102, 102, 101, 114, 101, 110, 116, 32, 99, 117, 114, 114, 101, 110, 99, 105, 101, 115]⟩ 2 = some [(0, 115, false), (1, 115, false)] := by kernel_rfl
theorem fmtCr (w : World) : (FmtDoors.printed ⟨#[37, 115, 32, 105, 115, 32, 110, 111, 116, 32, 111, 102, 32, 116, 104, 101, 32, 107, 105, 110, 100, 32, 111, 102, 32, 37, 115, 58, 32, 108, 105, 110, 101, 97, 114, 32, 97, 110, 100, 32, 105, 110, 118, 101, 114, 115, 101, 32, 99, 111, 110, 116, 114, 97, 99, 116, 115, 32, 115, 101, 116, 116, 108, 101, 32, 105, 110, 32, 100, 105, 102, 102, 101, 114, 101, 110, 116, 32, 99, 117, 114, 114, 101, 110, 99, 105, 101, 115]⟩ 2).run Ybaf.prog w = .ok [(0, 115, false), (1, 115, false)] w := by kernel_rfl

-- what each operand type reads as
def shape9 : List UInt8 := [12, 6, 0, 0, 0, 0, 0, 0, 0, 115, 116, 114, 105, 110, 103]
theorem op9_115w (name : String) (x : ByteArray) (w : World) : (FmtStop.operand name true 115 false (.iface 9 (.string x))).run Ybaf.prog w = .ok (shape9, FmtStop.pack x.data.toList) w := by kernel_rfl
def shape3 : List UInt8 := [5, 3, 0, 0, 0, 0, 0, 0, 0, 105, 110, 116]
theorem op3_100 (name : String) (x : Int) (w : World) : (FmtStop.operand name false 100 false (.iface 3 (.int .i64 x))).run Ybaf.prog w = .ok (shape3, Go.Extern.Stop.digits 8 (x % 2 ^ 64).toNat) w := by kernel_rfl

-- the error that fmt.errorf makes
theorem ptr59 (w : World) : (FmtStop.ptrTo "errors.errorString").run Ybaf.prog w = .ok 59 w := by kernel_rfl
theorem elem59 (w : World) : (elemOf 59).run Ybaf.prog w = .ok 61 w := by kernel_rfl

end Go.Proofs.YbulkbtroFmt

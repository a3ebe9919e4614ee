/-
  THE CLOSED FACTS FOR A WALK OVER fmt's STOPPED FRONTS, for this dump: each by the kernel's own evaluation. After the guide's HexbadFmt.lean.
-/
import Derived.Test.YbulkdmhkFmtProg
import Derived.Stop.CallBack
import Derived.Stop.IfaceNil
import GoSem.ClaimData
import Derived.KernelRfl
namespace Go.Proofs.YbulkdmhkFmt
open Go.Extern.Stop Go.Stop Go.Extern

-- fmt.errorf: function 21: a stop that calls its operands' Error() or String()
@[go_sem] theorem Ybaf.call21 (args : Array Value) (w : World) : (callFunc 21 args).run Ybaf.prog w = (FmtCalls.errorf #[9, 55] #[25] args).run Ybaf.prog w :=
  run_callFunc_next Ybaf.func21 (by kernel_rfl) (by kernel_rfl) (by kernel_rfl) args w
-- fmt.Sprintf: function 17: a plain stop
@[go_sem] theorem Ybaf.call17 (args : Array Value) (w : World) : (callFunc 17 args).run Ybaf.prog w = ((FmtStop.sprintf #[9, 55] #[9] args).run Ybaf.prog w).andThen fun v w' => .ok (.value v) w' :=
  run_callFunc_extern Ybaf.func17 (by kernel_rfl) (by kernel_rfl) (by kernel_rfl) (by kernel_rfl) args w

@[go_sem] theorem Ybaf.guard (name : String) (w : World) : (FmtStop.guard name).run Ybaf.prog w = .ok () w := by kernel_rfl
theorem Ybaf.nextTurns : Extern.next FmtCalls.turnsRow = some (FmtCalls.begun #[] #[]) := by kernel_rfl
theorem Ybaf.nextReturned : Extern.next FmtCalls.returnedRow = some (FmtCalls.returned #[] #[]) := by kernel_rfl

-- unknown %s, 1 operand
@[go_sem] theorem Ybaf.fmt0 : FmtStop.printed? ⟨#[117, 110, 107, 110, 111, 119, 110, 32, 37, 115]⟩ 1 = some [(0, 115, false)] := by kernel_rfl
@[go_sem] theorem Ybaf.fmt0r (w : World) : (FmtDoors.printed ⟨#[117, 110, 107, 110, 111, 119, 110, 32, 37, 115]⟩ 1).run Ybaf.prog w = .ok [(0, 115, false)] w := by kernel_rfl
-- TailRule(%d), 1 operand
@[go_sem] theorem Ybaf.fmt1 : FmtStop.printed? ⟨#[84, 97, 105, 108, 82, 117, 108, 101, 40, 37, 100, 41]⟩ 1 = some [(0, 100, false)] := by kernel_rfl
@[go_sem] theorem Ybaf.fmt1r (w : World) : (FmtDoors.printed ⟨#[84, 97, 105, 108, 82, 117, 108, 101, 40, 37, 100, 41]⟩ 1).run Ybaf.prog w = .ok [(0, 100, false)] w := by kernel_rfl

-- type 22: allot.TailRule under s in Errorf
@[go_sem] theorem Ybaf.act22_115w (name : String) (x : Value) (w : World) : (FmtCalls.act name true 115 false (.iface 22 x)).run Ybaf.prog w = .ok (.call false) w := by kernel_rfl
theorem Ybaf.invokeString22 (x : Value) (w : World) : (invoke (.fn (.method "String") #[]) #[.iface 22 x]).run Ybaf.prog w = .ok (.enter 14 #[x]) w := by kernel_rfl
@[go_sem] theorem Ybaf.str22 (w : World) : (typeStr 22).run Ybaf.prog w = .ok "allot.TailRule" w := by kernel_rfl
-- type 3: int under d in Sprintf
def Ybaf.shape3 : List UInt8 := [5, 3, 0, 0, 0, 0, 0, 0, 0, 105, 110, 116]
@[go_sem] theorem Ybaf.op3_100 (name : String) (x : Int) (w : World) : (FmtStop.operand name false 100 false (.iface 3 (.int .i64 x))).run Ybaf.prog w = .ok (Ybaf.shape3, Go.Extern.Stop.digits 8 (x % 2 ^ 64).toNat) w := by kernel_rfl

-- the error type that fmt.errorf makes here
@[go_sem] theorem Ybaf.ptr72 (w : World) : (FmtStop.ptrTo "errors.errorString").run Ybaf.prog w = .ok 72 w := by kernel_rfl
@[go_sem] theorem Ybaf.elem72 (w : World) : (elemOf 72).run Ybaf.prog w = .ok 74 w := by kernel_rfl
end Go.Proofs.YbulkdmhkFmt

/-
  THE CLOSED FACTS FOR A WALK OVER fmt's STOPPED FRONTS in this translation (after the kit's generated facts of its worked examples). Each by the kernel.
-/
import Derived.Test.Qxb6609295aFmtRows
import Derived.Stop.CallBack
import Derived.Stop.IfaceNil
import GoSem.ClaimData
namespace Go.Proofs.Qxb6609295aFmt
open Go.Extern.Stop Go.Stop Go.Extern

theorem call9 (args : Array Value) (w : World) : (callFunc 9 args).run Tryf.prog w = (FmtCalls.errorf #[9, 36] #[25] args).run Tryf.prog w :=
  run_callFunc_next Tryf.func9 (by kernel_rfl) (by kernel_rfl) (by kernel_rfl) args w
theorem call28 (args : Array Value) (w : World) : (callFunc 28 args).run Tryf.prog w = ((FmtStop.sprintf #[9, 36] #[9] args).run Tryf.prog w).andThen fun v w' => .ok (.value v) w' :=
  run_callFunc_extern Tryf.func28 (by kernel_rfl) (by kernel_rfl) (by kernel_rfl) (by kernel_rfl) args w
theorem guard (name : String) (w : World) : (FmtStop.guard name).run Tryf.prog w = .ok () w := by kernel_rfl
theorem nextTurns : Extern.next FmtCalls.turnsRow = some (FmtCalls.begun #[] #[]) := by kernel_rfl
theorem nextReturned : Extern.next FmtCalls.returnedRow = some (FmtCalls.returned #[] #[]) := by kernel_rfl

-- the two formats
theorem fmt0 : FmtStop.printed? ⟨#[117, 114, 110, 51, 58, 32, 99, 97, 110, 110, 111, 116, 32, 115, 97, 118, 101, 32, 37, 84, 58, 32, 37, 119]⟩ 2 = some [(0, 84, false), (1, 119, false)] := by kernel_rfl
theorem fmt0r (w : World) : (FmtDoors.printed ⟨#[117, 114, 110, 51, 58, 32, 99, 97, 110, 110, 111, 116, 32, 115, 97, 118, 101, 32, 37, 84, 58, 32, 37, 119]⟩ 2).run Tryf.prog w = .ok [(0, 84, false), (1, 119, false)] w := by kernel_rfl
theorem fmt1 : FmtStop.printed? ⟨#[37, 115, 32, 97, 116, 32, 37, 115, 32, 37, 115]⟩ 3 = some [(0, 115, false), (1, 115, false), (2, 115, false)] := by kernel_rfl
theorem fmt1r (w : World) : (FmtDoors.printed ⟨#[37, 115, 32, 97, 116, 32, 37, 115, 32, 37, 115]⟩ 3).run Tryf.prog w = .ok [(0, 115, false), (1, 115, false), (2, 115, false)] w := by kernel_rfl

-- an int under T
def typed3 : List UInt8 := 21 :: FmtStop.pack [105, 110, 116]
theorem act3_84w (name : String) (x : Value) (w : World) : (FmtCalls.act name true 84 false (.iface 3 x)).run Tryf.prog w = .ok (.closed true) w := by kernel_rfl
theorem op3_84w (name : String) (x : Int) (w : World) : (FmtStop.operand name true 84 false (.iface 3 (.int .i64 x))).run Tryf.prog w = .ok (typed3, []) w := by kernel_rfl

-- a string under s
def shape9 : List UInt8 := [12, 6, 0, 0, 0, 0, 0, 0, 0, 115, 116, 114, 105, 110, 103]
theorem op9_115 (name : String) (x : ByteArray) (w : World) : (FmtStop.operand name false 115 false (.iface 9 (.string x))).run Tryf.prog w = .ok (shape9, FmtStop.pack x.data.toList) w := by kernel_rfl
theorem act9_115 (name : String) (x : Value) (w : World) : (FmtCalls.act name false 115 false (.iface 9 x)).run Tryf.prog w = .ok (.closed false) w := by kernel_rfl

-- a *PathError under w
theorem act23_119w (name : String) (x : Value) (w : World) : (FmtCalls.act name true 119 false (.iface 23 x)).run Tryf.prog w = .ok (.call true) w := by kernel_rfl
theorem isError23 (w : World) : (FmtDoors.textMethod 23 "Error").run Tryf.prog w = .ok true w := by kernel_rfl
theorem invokeError23 (x : Value) (w : World) : (invoke (.fn (.method "Error") #[]) #[.iface 23 x]).run Tryf.prog w = .ok (.enter 26 #[x]) w := by kernel_rfl
theorem str23 (w : World) : (typeStr 23).run Tryf.prog w = .ok (String.ofList ['*', 'u', 'r', 'n', '3', '.', 'P', 'a', 't', 'h', 'E', 'r', 'r', 'o', 'r']) w := by kernel_rfl

-- *fmt.wrapError
theorem ptr38 (w : World) : (FmtStop.ptrTo "fmt.wrapError").run Tryf.prog w = .ok 38 w := by kernel_rfl
theorem elem38 (w : World) : (elemOf 38).run Tryf.prog w = .ok 60 w := by kernel_rfl
end Go.Proofs.Qxb6609295aFmt

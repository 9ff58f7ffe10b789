import Derived.Test.Qxb6614337aFmtCards
import Derived.Stop.CallBack
import Derived.Stop.IfaceNil
import GoSem.ClaimData
import Derived.WalkKit
import Derived.WalkSpells
namespace Go.Proofs.Qxb6614337aFmt
open Go.RowKit Go.Extern.Stop Go.Stop Go.Extern

theorem call20 (args : Array Value) (w : World) : (callFunc 20 args).run Tryf.prog w = (FmtCalls.errorf #[9, 60] #[32] args).run Tryf.prog w :=
  run_callFunc_next Tryf.func20 (by kernel_rfl) (by kernel_rfl) (by kernel_rfl) args w
theorem call23 (args : Array Value) (w : World) : (callFunc 23 args).run Tryf.prog w = ((FmtStop.sprintf #[9, 60] #[9] args).run Tryf.prog w).andThen fun v w' => .ok (.value v) w' :=
  run_callFunc_extern Tryf.func23 (by kernel_rfl) (by kernel_rfl) (by kernel_rfl) (by kernel_rfl) args w
theorem fguard (name : String) (w : World) : (FmtStop.guard name).run Tryf.prog w = .ok () w := by kernel_rfl
theorem nextTurns : Extern.next FmtCalls.turnsRow = some (FmtCalls.begun #[] #[]) := by kernel_rfl
theorem nextReturned : Extern.next FmtCalls.returnedRow = some (FmtCalls.returned #[] #[]) := by kernel_rfl
theorem fmtA : FmtStop.printed? ⟨#[97, 32, 118, 111, 116, 101, 32, 37, 113]⟩ 1 = some [(0, 113, false)] := by kernel_rfl
theorem fmtAr (w : World) : (FmtDoors.printed ⟨#[97, 32, 118, 111, 116, 101, 32, 37, 113]⟩ 1).run Tryf.prog w = .ok [(0, 113, false)] w := by kernel_rfl
theorem fmtB : FmtStop.printed? ⟨#[97, 32, 99, 111, 110, 116, 114, 111, 108, 32, 109, 101, 115, 115, 97, 103, 101, 32, 111, 102, 32, 117, 110, 107, 110, 111, 119, 110, 32, 37, 118]⟩ 1 = some [(0, 118, false)] := by kernel_rfl
theorem fmtBr (w : World) : (FmtDoors.printed ⟨#[97, 32, 99, 111, 110, 116, 114, 111, 108, 32, 109, 101, 115, 115, 97, 103, 101, 32, 111, 102, 32, 117, 110, 107, 110, 111, 119, 110, 32, 37, 118]⟩ 1).run Tryf.prog w = .ok [(0, 118, false)] w := by kernel_rfl
theorem fmtC : FmtStop.printed? ⟨#[97, 32, 37, 118, 32, 99, 111, 110, 116, 114, 111, 108, 32, 109, 101, 115, 115, 97, 103, 101, 32, 111, 102, 32, 116, 104, 101, 32, 119, 114, 111, 110, 103, 32, 108, 101, 110, 103, 116, 104]⟩ 1 = some [(0, 118, false)] := by kernel_rfl
theorem fmtCr (w : World) : (FmtDoors.printed ⟨#[97, 32, 37, 118, 32, 99, 111, 110, 116, 114, 111, 108, 32, 109, 101, 115, 115, 97, 103, 101, 32, 111, 102, 32, 116, 104, 101, 32, 119, 114, 111, 110, 103, 32, 108, 101, 110, 103, 116, 104]⟩ 1).run Tryf.prog w = .ok [(0, 118, false)] w := by kernel_rfl
theorem fmtD : FmtStop.printed? ⟨#[99, 111, 110, 116, 114, 111, 108, 32, 107, 105, 110, 100, 32, 37, 100]⟩ 1 = some [(0, 100, false)] := by kernel_rfl
theorem fmtDr (w : World) : (FmtDoors.printed ⟨#[99, 111, 110, 116, 114, 111, 108, 32, 107, 105, 110, 100, 32, 37, 100]⟩ 1).run Tryf.prog w = .ok [(0, 100, false)] w := by kernel_rfl
def shape5 : List UInt8 := [6, 5, 0, 0, 0, 0, 0, 0, 0, 117, 105, 110, 116, 56]
def shape41 : List UInt8 := [12, 12, 0, 0, 0, 0, 0, 0, 0, 114, 101, 100, 111, 117, 98, 116, 46, 118, 111, 116, 101]
theorem act5_100 (name : String) (x : Value) (w : World) : (FmtCalls.act name false 100 false (.iface 5 x)).run Tryf.prog w = .ok (.closed false) w := by kernel_rfl
theorem op5_100 (name : String) (x : Int) (w : World) : (FmtStop.operand name false 100 false (.iface 5 (.int .u8 x))).run Tryf.prog w = .ok (shape5, Go.Extern.Stop.digits 8 (x % 2 ^ 64).toNat) w := by kernel_rfl
theorem str5 (w : World) : (typeStr 5).run Tryf.prog w = .ok "uint8" w := by kernel_rfl
theorem act41_113w (name : String) (x : Value) (w : World) : (FmtCalls.act name true 113 false (.iface 41 x)).run Tryf.prog w = .ok (.closed true) w := by kernel_rfl
theorem op41_113w (name : String) (x : ByteArray) (w : World) : (FmtStop.operand name true 113 false (.iface 41 (.string x))).run Tryf.prog w = .ok (shape41, FmtStop.pack x.data.toList) w := by kernel_rfl
theorem str41 (w : World) : (typeStr 41).run Tryf.prog w = .ok "redoubt.vote" w := by kernel_rfl
theorem act35_118w (name : String) (x : Value) (w : World) : (FmtCalls.act name true 118 false (.iface 35 x)).run Tryf.prog w = .ok (.call false) w := by kernel_rfl
theorem notError35 (w : World) : (FmtDoors.textMethod 35 "Error").run Tryf.prog w = .ok false w := by kernel_rfl
theorem isString35 (w : World) : (FmtDoors.textMethod 35 "String").run Tryf.prog w = .ok true w := by kernel_rfl
theorem invokeString35 (x : Value) (w : World) : (invoke (.fn (.method "String") #[]) #[.iface 35 x]).run Tryf.prog w = .ok (.enter 22 #[x]) w := by kernel_rfl
theorem str35 (w : World) : (typeStr 35).run Tryf.prog w = .ok "redoubt.controlKind" w := by kernel_rfl
theorem ptr64 (w : World) : (FmtStop.ptrTo "errors.errorString").run Tryf.prog w = .ok 64 w := by kernel_rfl
theorem elem64 (w : World) : (elemOf 64).run Tryf.prog w = .ok 66 w := by kernel_rfl
theorem isError64 (w : World) : (FmtDoors.textMethod 64 "Error").run Tryf.prog w = .ok true w := by kernel_rfl
theorem ptr62 (w : World) : (FmtStop.ptrTo "fmt.wrapError").run Tryf.prog w = .ok 62 w := by kernel_rfl
theorem elem62 (w : World) : (elemOf 62).run Tryf.prog w = .ok 85 w := by kernel_rfl
theorem isError62 (w : World) : (FmtDoors.textMethod 62 "Error").run Tryf.prog w = .ok true w := by kernel_rfl
end Go.Proofs.Qxb6614337aFmt

/- The closed facts for the walks over fmt.Sprintf, which calls its operands' String(): each by the kernel's own evaluation. -/
import Derived.Test.YbulkurwFmtRows
import Derived.Stop.CallBack
import Derived.Stop.IfaceNil
import GoSem.ClaimData
namespace Go.Proofs.YbulkurwFmt
open Go.Extern.Stop Go.Stop Go.Extern

theorem call11 (args : Array Value) (w : World) : (callFunc 11 args).run Ybaf.prog w = (FmtCalls.sprintf #[9, 40] #[9] args).run Ybaf.prog w :=
  run_callFunc_next Ybaf.func11 (by kernel_rfl) (by kernel_rfl) (by kernel_rfl) args w
theorem fguard (name : String) (w : World) : (FmtStop.guard name).run Ybaf.prog w = .ok () w := by kernel_rfl
theorem nextTurns : Extern.next FmtCalls.turnsRow = some (FmtCalls.begun #[] #[]) := by kernel_rfl
theorem nextReturned : Extern.next FmtCalls.returnedRow = some (FmtCalls.returned #[] #[]) := by kernel_rfl

theorem fmtEq : FmtStop.printed? ⟨#[40, 61, 32, 37, 118, 32, 37, 118, 41]⟩ 2 = some [(0, 118, false), (1, 118, false)] := by kernel_rfl
theorem fmtEqr (w : World) : (FmtDoors.printed ⟨#[40, 61, 32, 37, 118, 32, 37, 118, 41]⟩ 2).run Ybaf.prog w = .ok [(0, 118, false), (1, 118, false)] w := by kernel_rfl
theorem fmtT : FmtStop.printed? ⟨#[116, 37, 100]⟩ 1 = some [(0, 100, false)] := by kernel_rfl
theorem fmtTr (w : World) : (FmtDoors.printed ⟨#[116, 37, 100]⟩ 1).run Ybaf.prog w = .ok [(0, 100, false)] w := by kernel_rfl
theorem fmtD : FmtStop.printed? ⟨#[40, 100, 101, 102, 105, 110, 101, 45, 102, 117, 110, 32, 37, 115, 32, 40, 41, 32, 37, 115, 32, 37, 115, 41]⟩ 3 = some [(0, 115, false), (1, 115, false), (2, 115, false)] := by kernel_rfl
theorem fmtDr (w : World) : (FmtDoors.printed ⟨#[40, 100, 101, 102, 105, 110, 101, 45, 102, 117, 110, 32, 37, 115, 32, 40, 41, 32, 37, 115, 32, 37, 115, 41]⟩ 3).run Ybaf.prog w = .ok [(0, 115, false), (1, 115, false), (2, 115, false)] w := by kernel_rfl
theorem fmtX : FmtStop.printed? ⟨#[35, 120, 37, 48, 49, 54, 120]⟩ 1 = some [(0, 120, false)] := by kernel_rfl
theorem fmtXr (w : World) : (FmtDoors.printed ⟨#[35, 120, 37, 48, 49, 54, 120]⟩ 1).run Ybaf.prog w = .ok [(0, 120, false)] w := by kernel_rfl

-- type 24: smt.Word, under v: its String() is called
theorem act24_118 (name : String) (x : Value) (w : World) : (FmtCalls.act name false 118 false (.iface 24 x)).run Ybaf.prog w = .ok (.call false) w := by kernel_rfl
theorem isString24 (w : World) : (FmtDoors.textMethod 24 "String").run Ybaf.prog w = .ok true w := by kernel_rfl
theorem invokeString24 (x : Value) (w : World) : (invoke (.fn (.method "String") #[]) #[.iface 24 x]).run Ybaf.prog w = .ok (.enter 27 #[x]) w := by kernel_rfl
theorem str24 (w : World) : (typeStr 24).run Ybaf.prog w = .ok "smt.Word" w := by kernel_rfl
-- type 22: uint64, under x
def shape22 : List UInt8 := [9, 6, 0, 0, 0, 0, 0, 0, 0, 117, 105, 110, 116, 54, 52]
theorem act22_120 (name : String) (x : Value) (w : World) : (FmtCalls.act name false 120 false (.iface 22 x)).run Ybaf.prog w = .ok (.closed false) w := by kernel_rfl
theorem op22_120 (name : String) (x : Int) (w : World) : (FmtStop.operand name false 120 false (.iface 22 (.int .u64 x))).run Ybaf.prog w = .ok (shape22, digits 8 (x % 2 ^ 64).toNat) w := by kernel_rfl
theorem str22 (w : World) : (typeStr 22).run Ybaf.prog w = .ok "uint64" w := by kernel_rfl
-- type 3: int, under d
def shape3 : List UInt8 := [5, 3, 0, 0, 0, 0, 0, 0, 0, 105, 110, 116]
theorem act3_100 (name : String) (x : Value) (w : World) : (FmtCalls.act name false 100 false (.iface 3 x)).run Ybaf.prog w = .ok (.closed false) w := by kernel_rfl
theorem op3_100 (name : String) (x : Int) (w : World) : (FmtStop.operand name false 100 false (.iface 3 (.int .i64 x))).run Ybaf.prog w = .ok (shape3, digits 8 (x % 2 ^ 64).toNat) w := by kernel_rfl
theorem str3 (w : World) : (typeStr 3).run Ybaf.prog w = .ok "int" w := by kernel_rfl
-- type 9: string, under s
def shape9 : List UInt8 := [12, 6, 0, 0, 0, 0, 0, 0, 0, 115, 116, 114, 105, 110, 103]
theorem act9_115 (name : String) (x : Value) (w : World) : (FmtCalls.act name false 115 false (.iface 9 x)).run Ybaf.prog w = .ok (.closed false) w := by kernel_rfl
theorem op9_115 (name : String) (x : ByteArray) (w : World) : (FmtStop.operand name false 115 false (.iface 9 (.string x))).run Ybaf.prog w = .ok (shape9, FmtStop.pack x.data.toList) w := by kernel_rfl
theorem str9 (w : World) : (typeStr 9).run Ybaf.prog w = .ok "string" w := by kernel_rfl

end Go.Proofs.YbulkurwFmt

/-
  CLOSED FACTS FOR THE WALKS OVER fmt.Sprintf's CALLING STOP IN THIS DUMP (after the worked HexbadFmt, NoteopFmt).
-/
import Derived.Test.Qxb6613078aFmtProg
import Derived.Stop.CallBack
import Derived.Stop.IfaceNil
import GoSem.ClaimData
namespace Go.Proofs.Qxb6613078aFmt
open Go.Extern.Stop Go.Stop Go.Extern

/-- The format's bytes: 'herdgate. the load panicked. %v' (colons for the stops). -/
abbrev fmtBytes : List UInt8 := [104, 101, 114, 100, 103, 97, 116, 101, 58, 32, 116, 104, 101, 32, 108, 111, 97, 100, 32, 112, 97, 110, 105, 99, 107, 101, 100, 58, 32, 37, 118]
/-- The prefix: the same without the verb. -/
abbrev preBytes : List UInt8 := [104, 101, 114, 100, 103, 97, 116, 101, 58, 32, 116, 104, 101, 32, 108, 111, 97, 100, 32, 112, 97, 110, 105, 99, 107, 101, 100, 58, 32]

theorem call10 (args : Array Value) (w : World) : (callFunc 10 args).run Tryf.prog w = (FmtCalls.sprintf #[9, 47] #[9] args).run Tryf.prog w :=
  run_callFunc_next Tryf.func10 (by kernel_rfl) (by kernel_rfl) (by kernel_rfl) args w
theorem guard_ok (name : String) (w : World) : (FmtStop.guard name).run Tryf.prog w = .ok () w := by kernel_rfl
theorem nextTurns : Extern.next FmtCalls.turnsRow = some (FmtCalls.begun #[] #[]) := by kernel_rfl
theorem nextReturned : Extern.next FmtCalls.returnedRow = some (FmtCalls.returned #[] #[]) := by kernel_rfl

theorem fmt0 : FmtStop.printed? ⟨#[104, 101, 114, 100, 103, 97, 116, 101, 58, 32, 116, 104, 101, 32, 108, 111, 97, 100, 32, 112, 97, 110, 105, 99, 107, 101, 100, 58, 32, 37, 118]⟩ 1 = some [(0, 118, false)] := by kernel_rfl
theorem fmt0r (w : World) : (FmtDoors.printed ⟨#[104, 101, 114, 100, 103, 97, 116, 101, 58, 32, 116, 104, 101, 32, 108, 111, 97, 100, 32, 112, 97, 110, 105, 99, 107, 101, 100, 58, 32, 37, 118]⟩ 1).run Tryf.prog w = .ok [(0, 118, false)] w := by kernel_rfl

-- type 9: string
def shape9 : List UInt8 := [12, 6, 0, 0, 0, 0, 0, 0, 0, 115, 116, 114, 105, 110, 103]
theorem act9 (name : String) (x : Value) (w : World) : (FmtCalls.act name false 118 false (.iface 9 x)).run Tryf.prog w = .ok (.closed false) w := by kernel_rfl
theorem op9 (name : String) (x : ByteArray) (w : World) : (FmtStop.operand name false 118 false (.iface 9 (.string x))).run Tryf.prog w = .ok (shape9, FmtStop.pack x.data.toList) w := by kernel_rfl
-- type 27: *herdgate.PanicError
theorem act27 (name : String) (x : Value) (w : World) : (FmtCalls.act name false 118 false (.iface 27 x)).run Tryf.prog w = .ok (.call true) w := by kernel_rfl
/-- The type's name, a star ahead of it. -/
def nm27 : String := String.ofList (List.map Char.ofNat [42, 104, 101, 114, 100, 103, 97, 116, 101, 46, 80, 97, 110, 105, 99, 69, 114, 114, 111, 114])
theorem str27 (w : World) : (typeStr 27).run Tryf.prog w = .ok nm27 w := by kernel_rfl
def nmBytes : List UInt8 := [42, 104, 101, 114, 100, 103, 97, 116, 101, 46, 80, 97, 110, 105, 99, 69, 114, 114, 111, 114]
theorem nm27_bytes : nm27.toUTF8.data.toList = nmBytes := by decide +kernel
theorem isError27 (w : World) : (FmtDoors.textMethod 27 "Error").run Tryf.prog w = .ok true w := by kernel_rfl
theorem invokeError27 (x : Value) (w : World) : (invoke (.fn (.method "Error") #[]) #[.iface 27 x]).run Tryf.prog w = .ok (.enter 9 #[x]) w := by kernel_rfl

end Go.Proofs.Qxb6613078aFmt

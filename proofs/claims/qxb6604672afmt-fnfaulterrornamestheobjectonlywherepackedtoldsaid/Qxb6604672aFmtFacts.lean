/-
  DERIVED. THE CLOSED FACTS FOR A WALK OVER fmt's STOPPED FRONT fmt.Sprintf (function 31 of this dump; it calls its operands' String()): each by the kernel's own evaluation. In the make of the guide's NameFmt texts, typed for this dump.
-/
import Derived.Test.Qxb6604672aFmtRows
import Derived.Stop.CallBack
import Derived.Stop.IfaceNil
import Derived.Stop.FmtTextVerbs
import GoSem.ClaimData
namespace Go.Proofs.Qxb6604672aFmt
open Go.Extern.Stop Go.Stop Go.Extern

-- fmt.Sprintf: function 31: a stop that calls its operands' Error() or String()
theorem call31 (args : Array Value) (w : World) : (callFunc 31 args).run Tryf.prog w = (FmtCalls.sprintf #[9, 65] #[9] args).run Tryf.prog w :=
  run_callFunc_next Tryf.func31 (by kernel_rfl) (by kernel_rfl) (by kernel_rfl) args w
theorem guardOk (name : String) (w : World) : (FmtStop.guard name).run Tryf.prog w = .ok () w := by kernel_rfl
theorem nextTurns : Extern.next FmtCalls.turnsRow = some (FmtCalls.begun #[] #[]) := by kernel_rfl
theorem nextReturned : Extern.next FmtCalls.returnedRow = some (FmtCalls.returned #[] #[]) := by kernel_rfl

-- the two formats: with the object, without
theorem fmtA : FmtStop.printed? ⟨#[111, 100, 98, 58, 32, 37, 115, 58, 32, 111, 98, 106, 101, 99, 116, 32, 37, 115, 58, 32, 37, 118]⟩ 3 = some [(0, 115, false), (1, 115, false), (2, 118, false)] := by kernel_rfl
theorem fmtAr (w : World) : (FmtDoors.printed ⟨#[111, 100, 98, 58, 32, 37, 115, 58, 32, 111, 98, 106, 101, 99, 116, 32, 37, 115, 58, 32, 37, 118]⟩ 3).run Tryf.prog w = .ok [(0, 115, false), (1, 115, false), (2, 118, false)] w := by kernel_rfl
theorem fmtB : FmtStop.printed? ⟨#[111, 100, 98, 58, 32, 37, 115, 58, 32, 37, 118]⟩ 2 = some [(0, 115, false), (1, 118, false)] := by kernel_rfl
theorem fmtBr (w : World) : (FmtDoors.printed ⟨#[111, 100, 98, 58, 32, 37, 115, 58, 32, 37, 118]⟩ 2).run Tryf.prog w = .ok [(0, 115, false), (1, 118, false)] w := by kernel_rfl

-- a string operand under the verb s
def shape9 : List UInt8 := [12, 6, 0, 0, 0, 0, 0, 0, 0, 115, 116, 114, 105, 110, 103]
theorem act9_115 (name : String) (x : Value) (w : World) : (FmtCalls.act name false 115 false (.iface 9 x)).run Tryf.prog w = .ok (.closed false) w := by kernel_rfl
theorem op9_115 (name : String) (x : ByteArray) (w : World) : (FmtStop.operand name false 115 false (.iface 9 (.string x))).run Tryf.prog w = .ok (shape9, FmtStop.pack x.data.toList) w := by kernel_rfl
theorem str9 (w : World) : (typeStr 9).run Tryf.prog w = .ok "string" w := by kernel_rfl

-- an object.ID under the verb s: its String() is called
theorem act33_115 (name : String) (x : Value) (w : World) : (FmtCalls.act name false 115 false (.iface 33 x)).run Tryf.prog w = .ok (.call false) w := by kernel_rfl
theorem isString33 (w : World) : (FmtDoors.textMethod 33 "String").run Tryf.prog w = .ok true w := by kernel_rfl
theorem invokeString33 (x : Value) (w : World) : (invoke (.fn (.method "String") #[]) #[.iface 33 x]).run Tryf.prog w = .ok (.enter 32 #[x]) w := by kernel_rfl
theorem str33 (w : World) : (typeStr 33).run Tryf.prog w = .ok "object.ID" w := by kernel_rfl

-- an error of errors.New's make under the verb v: its type's name and its text, out of memory
def plain58 : List UInt8 := 14 :: FmtStop.pack "*errors.errorString".toUTF8.data.toList
theorem act58_118 (name : String) (x : Value) (w : World) : (FmtCalls.act name false 118 false (.iface 58 x)).run Tryf.prog w = .ok (.closed false) w := by kernel_rfl
theorem str58 (w : World) : (typeStr 58).run Tryf.prog w = .ok "*errors.errorString" w := by kernel_rfl
theorem opPlain58_118 (name : String) (a : Addr) (s : ByteArray) (w : World) (hc : w.cell? a = some (.string s)) :
    (FmtStop.operand name false 118 false (.iface 58 (.pointer (some a)))).run Tryf.prog w = .ok (plain58, s.data.toList) w := by
  have h1 : (typeStr 58).run Tryf.prog w = .ok "*errors.errorString" w := by kernel_rfl
  have d2 : Tryf.t58.desc = .pointer 60 := rfl
  have d3 : Tryf.t60.desc = .named "errors.errorString" 59 := rfl
  simp [FmtStop.operand, h1, d2, d3, run_load, hc, plain58]

-- nil under the verb v
theorem actNil_118 (name : String) (w : World) : (FmtCalls.act name false 118 false .nilIface).run Tryf.prog w = .ok (.closed false) w := by kernel_rfl
theorem opNil_118 (name : String) (w : World) : (FmtStop.operand name false 118 false .nilIface).run Tryf.prog w = .ok ([0], []) w := by kernel_rfl

end Go.Proofs.Qxb6604672aFmt

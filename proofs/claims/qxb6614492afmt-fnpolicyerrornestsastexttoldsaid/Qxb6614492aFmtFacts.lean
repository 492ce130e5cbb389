/-
  Closed facts for a walk over fmt.Sprintf (the stop that calls its operands' methods) at this dump: each by the kernel.
-/
import Derived.Test.Qxb6614492aFmtRows
import Derived.WalkKit
import Derived.WalkSpells
import Derived.WalkLawsBesides
import Derived.Stop.CallBack
import Derived.Stop.IfaceNil
namespace Go.Proofs.Qxb6614492aFmt.Pol
open Go.Extern.Stop Go.Stop Go.Extern

theorem call28 (args : Array Value) (w : World) : (callFunc 28 args).run Tryf.prog w = (FmtCalls.sprintf #[9, 77] #[9] args).run Tryf.prog w :=
  run_callFunc_next Tryf.func28 (by kernel_rfl) (by kernel_rfl) (by kernel_rfl) args w
theorem guard_ok (name : String) (w : World) : (FmtStop.guard name).run Tryf.prog w = .ok () w := by kernel_rfl
theorem nextTurns : Extern.next FmtCalls.turnsRow = some (FmtCalls.begun #[] #[]) := by kernel_rfl
theorem nextReturned : Extern.next FmtCalls.returnedRow = some (FmtCalls.returned #[] #[]) := by kernel_rfl
theorem fmt0 : FmtStop.printed? ⟨#[37, 115, 58, 37, 100, 58, 32, 37, 118]⟩ 3 = some [(0, 115, false), (1, 100, false), (2, 118, false)] := by kernel_rfl
theorem fmt0r (w : World) : (FmtDoors.printed ⟨#[37, 115, 58, 37, 100, 58, 32, 37, 118]⟩ 3).run Tryf.prog w = .ok [(0, 115, false), (1, 100, false), (2, 118, false)] w := by kernel_rfl
def shape9 : List UInt8 := [12, 6, 0, 0, 0, 0, 0, 0, 0, 115, 116, 114, 105, 110, 103]
theorem act9 (name : String) (x : Value) (w : World) : (FmtCalls.act name false 115 false (.iface 9 x)).run Tryf.prog w = .ok (.closed false) w := by kernel_rfl
theorem op9 (name : String) (x : ByteArray) (w : World) : (FmtStop.operand name false 115 false (.iface 9 (.string x))).run Tryf.prog w = .ok (shape9, FmtStop.pack x.data.toList) w := by kernel_rfl
def shape3 : List UInt8 := [5, 3, 0, 0, 0, 0, 0, 0, 0, 105, 110, 116]
theorem act3 (name : String) (x : Value) (w : World) : (FmtCalls.act name false 100 false (.iface 3 x)).run Tryf.prog w = .ok (.closed false) w := by kernel_rfl
theorem op3 (name : String) (x : Int) (w : World) : (FmtStop.operand name false 100 false (.iface 3 (.int .i64 x))).run Tryf.prog w = .ok (shape3, Go.Extern.Stop.digits 8 (x % 2 ^ 64).toNat) w := by kernel_rfl
/-- errors.New's own make: read as its type's name and its text. -/
def plain56 : List UInt8 := 14 :: FmtStop.pack [42, 101, 114, 114, 111, 114, 115, 46, 101, 114, 114, 111, 114, 83, 116, 114, 105, 110, 103]
theorem act56 (name : String) (x : Value) (w : World) : (FmtCalls.act name false 118 false (.iface 56 x)).run Tryf.prog w = .ok (.closed false) w := by kernel_rfl
theorem isError56 (w : World) : (FmtDoors.textMethod 56 "Error").run Tryf.prog w = .ok true w := by kernel_rfl
/-- A PolicyError: its own Error is called. -/
theorem act40 (name : String) (x : Value) (w : World) : (FmtCalls.act name false 118 false (.iface 40 x)).run Tryf.prog w = .ok (.call true) w := by kernel_rfl
theorem isError40 (w : World) : (FmtDoors.textMethod 40 "Error").run Tryf.prog w = .ok true w := by kernel_rfl
theorem invokeError40 (x : Value) (w : World) : (invoke (.fn (.method "Error") #[]) #[.iface 40 x]).run Tryf.prog w = .ok (.enter 22 #[x]) w := by kernel_rfl
theorem invokeError56 (x : Value) (w : World) : (invoke (.fn (.method "Error") #[]) #[.iface 56 x]).run Tryf.prog w = .ok (.enter 114 #[x]) w := by kernel_rfl
theorem opPlain56 (name : String) (a : Addr) (s : ByteArray) (w : World) (hc : w.cell? a = some (.string s)) :
    (FmtStop.operand name false 118 false (.iface 56 (.pointer (some a)))).run Tryf.prog w = .ok (plain56, s.data.toList) w := by
  have h1 : (typeStr 56).run Tryf.prog w = .ok Tryf.t56.str w := by kernel_rfl
  have d2 : Tryf.t56.desc = .pointer 58 := rfl
  have d3 : Tryf.t58.desc = .named "errors.errorString" 57 := rfl
  have e : (Tryf.t56.str.toUTF8.data.toList : List UInt8) = [42, 101, 114, 114, 111, 114, 115, 46, 101, 114, 114, 111, 114, 83, 116, 114, 105, 110, 103] := by decide +kernel
  simp [FmtStop.operand, h1, d2, d3, run_load, hc, plain56, ← e]
theorem str40 (w : World) : (typeStr 40).run Tryf.prog w = .ok Tryf.t40.str w := by kernel_rfl
/-- A PolicyError's own type, by its name's bytes. -/
def name40 : List UInt8 := [42, 108, 105, 110, 116, 101, 108, 46, 80, 111, 108, 105, 99, 121, 69, 114, 114, 111, 114]
theorem name40_is : Tryf.t40.str.toUTF8.data.toList = name40 := by decide +kernel
end Go.Proofs.Qxb6614492aFmt.Pol

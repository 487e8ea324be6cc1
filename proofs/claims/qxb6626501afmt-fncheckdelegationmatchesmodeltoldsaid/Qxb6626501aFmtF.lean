import Derived.Test.Qxb6626501aFmtProg
import Derived.Stop.CallBack
import Derived.Stop.IfaceNil
import GoSem.ClaimData
import Derived.WalkKit
import Derived.WalkSpells
namespace Go.Proofs.Qxb6626501aFmt
open Go.Extern.Stop Go.Stop Go.Extern
set_option linter.unusedVariables false

theorem call32 (args : Array Value) (w : World) : (callFunc 32 args).run Tryf.prog w = (FmtCalls.errorf #[9, 81] #[63] args).run Tryf.prog w :=
  run_callFunc_next Tryf.func32 (by kernel_rfl) (by kernel_rfl) (by kernel_rfl) args w
theorem guardF (name : String) (w : World) : (FmtStop.guard name).run Tryf.prog w = .ok () w := by kernel_rfl
theorem nextTurns : Extern.next FmtCalls.turnsRow = some (FmtCalls.begun #[] #[]) := by kernel_rfl
theorem nextReturned : Extern.next FmtCalls.returnedRow = some (FmtCalls.returned #[] #[]) := by kernel_rfl
abbrev fm1 : ByteArray := ⟨#[116, 104, 101, 32, 112, 114, 111, 111, 102, 32, 105, 115, 32, 110, 111, 116, 32, 37, 115, 44, 32, 116, 104, 101, 32, 105, 100, 32, 111, 102, 32, 116, 104, 101, 32, 99, 97, 112, 97, 98, 105, 108, 105, 116, 121, 32, 105, 116, 32, 102, 111, 108, 108, 111, 119, 115]⟩
abbrev fm2 : ByteArray := ⟨#[116, 104, 101, 32, 105, 115, 115, 117, 101, 114, 32, 37, 115, 32, 105, 115, 32, 110, 111, 116, 32, 37, 115, 44, 32, 116, 104, 101, 32, 114, 101, 99, 101, 105, 118, 101, 114, 32, 111, 102, 32, 116, 104, 101, 32, 99, 97, 112, 97, 98, 105, 108, 105, 116, 121, 32, 105, 116, 32, 105, 115, 32, 100, 101, 108, 101, 103, 97, 116, 101, 100, 32, 102, 114, 111, 109]⟩
abbrev fm3 : ByteArray := ⟨#[116, 104, 101, 32, 115, 117, 98, 106, 101, 99, 116, 32, 37, 115, 32, 105, 115, 32, 110, 111, 116, 32, 37, 115, 44, 32, 116, 104, 101, 32, 115, 117, 98, 106, 101, 99, 116, 32, 111, 102, 32, 116, 104, 101, 32, 99, 97, 112, 97, 98, 105, 108, 105, 116, 121, 32, 105, 116, 32, 105, 115, 32, 100, 101, 108, 101, 103, 97, 116, 101, 100, 32, 102, 114, 111, 109]⟩
theorem fmt1 : FmtStop.printed? fm1 1 = some [(0, 115, false)] := by kernel_rfl
theorem fmt1r (w : World) : (FmtDoors.printed fm1 1).run Tryf.prog w = .ok [(0, 115, false)] w := by kernel_rfl
theorem fmt2 : FmtStop.printed? fm2 2 = some [(0, 115, false), (1, 115, false)] := by kernel_rfl
theorem fmt2r (w : World) : (FmtDoors.printed fm2 2).run Tryf.prog w = .ok [(0, 115, false), (1, 115, false)] w := by kernel_rfl
theorem fmt3 : FmtStop.printed? fm3 2 = some [(0, 115, false), (1, 115, false)] := by kernel_rfl
theorem fmt3r (w : World) : (FmtDoors.printed fm3 2).run Tryf.prog w = .ok [(0, 115, false), (1, 115, false)] w := by kernel_rfl
theorem act32 (name : String) (x : Value) (w : World) : (FmtCalls.act name false 115 false (.iface 32 x)).run Tryf.prog w = .ok (.call false) w := by kernel_rfl
theorem act32w (name : String) (x : Value) (w : World) : (FmtCalls.act name true 115 false (.iface 32 x)).run Tryf.prog w = .ok (.call false) w := by kernel_rfl
theorem act39 (name : String) (x : Value) (w : World) : (FmtCalls.act name false 115 false (.iface 39 x)).run Tryf.prog w = .ok (.call false) w := by kernel_rfl
theorem act39w (name : String) (x : Value) (w : World) : (FmtCalls.act name true 115 false (.iface 39 x)).run Tryf.prog w = .ok (.call false) w := by kernel_rfl
theorem isError32 (w : World) : (FmtDoors.textMethod 32 "Error").run Tryf.prog w = .ok false w := by kernel_rfl
theorem isError39 (w : World) : (FmtDoors.textMethod 39 "Error").run Tryf.prog w = .ok false w := by kernel_rfl
theorem isString32 (w : World) : (FmtDoors.textMethod 32 "String").run Tryf.prog w = .ok true w := by kernel_rfl
theorem isString39 (w : World) : (FmtDoors.textMethod 39 "String").run Tryf.prog w = .ok true w := by kernel_rfl
theorem invoke32 (x : Value) (w : World) : (invoke (.fn (.method "String") #[]) #[.iface 32 x]).run Tryf.prog w = .ok (.enter 33 #[x]) w := by kernel_rfl
theorem invoke39 (x : Value) (w : World) : (invoke (.fn (.method "String") #[]) #[.iface 39 x]).run Tryf.prog w = .ok (.enter 34 #[x]) w := by kernel_rfl
theorem ptrE (w : World) : (FmtStop.ptrTo "errors.errorString").run Tryf.prog w = .ok 83 w := by kernel_rfl
theorem elemE (w : World) : (elemOf 83).run Tryf.prog w = .ok 85 w := by kernel_rfl
theorem isErrorE (w : World) : (FmtDoors.textMethod 83 "Error").run Tryf.prog w = .ok true w := by kernel_rfl
theorem str32 (w : World) : (typeStr 32).run Tryf.prog w = .ok "latchkey.TokenID" w := by kernel_rfl
theorem str39 (w : World) : (typeStr 39).run Tryf.prog w = .ok "latchkey.PublicKey" w := by kernel_rfl
end Go.Proofs.Qxb6626501aFmt

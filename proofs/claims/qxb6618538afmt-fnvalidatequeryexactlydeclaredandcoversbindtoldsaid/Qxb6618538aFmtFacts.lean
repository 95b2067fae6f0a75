/-
  THE CLOSED FACTS FOR A WALK OVER fmt.errorf's CALLING STOP at this dump: each by the kernel's own evaluation (after the facts that the kit's maker writes for its worked examples).
-/
import Derived.Test.Qxb6618538aFmtProg
import Derived.Stop.CallBack
import Derived.Stop.IfaceNil
import GoSem.ClaimData
namespace Go.Proofs
open Go.Extern.Stop Go.Stop Go.Extern

theorem Tryf.call27 (args : Array Value) (w : World) : (callFunc 27 args).run Tryf.prog w = (FmtCalls.errorf #[9, 75] #[37] args).run Tryf.prog w :=
  run_callFunc_next Tryf.func27 (by kernel_rfl) (by kernel_rfl) (by kernel_rfl) args w
theorem Tryf.guard (name : String) (w : World) : (FmtStop.guard name).run Tryf.prog w = .ok () w := by kernel_rfl
theorem Tryf.nextTurns : Extern.next FmtCalls.turnsRow = some (FmtCalls.begun #[] #[]) := by kernel_rfl
theorem Tryf.nextReturned : Extern.next FmtCalls.returnedRow = some (FmtCalls.returned #[] #[]) := by kernel_rfl

def Tryf.text1 : ByteArray := ⟨#[116, 121, 112, 101, 32, 37, 113, 32, 105, 115, 32, 110, 111, 116, 32, 100, 101, 99, 108, 97, 114, 101, 100, 32, 105, 110, 32, 116, 104, 101, 32, 115, 99, 104, 101, 109, 97]⟩
theorem Tryf.fmt1 : FmtStop.printed? ⟨#[116, 121, 112, 101, 32, 37, 113, 32, 105, 115, 32, 110, 111, 116, 32, 100, 101, 99, 108, 97, 114, 101, 100, 32, 105, 110, 32, 116, 104, 101, 32, 115, 99, 104, 101, 109, 97]⟩ 1 = some [(0, 113, false)] := by kernel_rfl
theorem Tryf.fmt1r (w : World) : (FmtDoors.printed ⟨#[116, 121, 112, 101, 32, 37, 113, 32, 105, 115, 32, 110, 111, 116, 32, 100, 101, 99, 108, 97, 114, 101, 100, 32, 105, 110, 32, 116, 104, 101, 32, 115, 99, 104, 101, 109, 97]⟩ 1).run Tryf.prog w = .ok [(0, 113, false)] w := by kernel_rfl
def Tryf.text2 : ByteArray := ⟨#[116, 121, 112, 101, 32, 37, 113, 32, 100, 101, 99, 108, 97, 114, 101, 115, 32, 110, 111, 32, 114, 101, 108, 97, 116, 105, 111, 110, 32, 111, 114, 32, 112, 101, 114, 109, 105, 115, 115, 105, 111, 110, 32, 37, 113]⟩
theorem Tryf.fmt2 : FmtStop.printed? ⟨#[116, 121, 112, 101, 32, 37, 113, 32, 100, 101, 99, 108, 97, 114, 101, 115, 32, 110, 111, 32, 114, 101, 108, 97, 116, 105, 111, 110, 32, 111, 114, 32, 112, 101, 114, 109, 105, 115, 115, 105, 111, 110, 32, 37, 113]⟩ 2 = some [(0, 113, false), (1, 113, false)] := by kernel_rfl
theorem Tryf.fmt2r (w : World) : (FmtDoors.printed ⟨#[116, 121, 112, 101, 32, 37, 113, 32, 100, 101, 99, 108, 97, 114, 101, 115, 32, 110, 111, 32, 114, 101, 108, 97, 116, 105, 111, 110, 32, 111, 114, 32, 112, 101, 114, 109, 105, 115, 115, 105, 111, 110, 32, 37, 113]⟩ 2).run Tryf.prog w = .ok [(0, 113, false), (1, 113, false)] w := by kernel_rfl
def Tryf.text3 : ByteArray := ⟨#[116, 121, 112, 101, 32, 37, 113, 32, 100, 101, 99, 108, 97, 114, 101, 115, 32, 110, 111, 32, 114, 101, 108, 97, 116, 105, 111, 110, 32, 37, 113]⟩
theorem Tryf.fmt3 : FmtStop.printed? ⟨#[116, 121, 112, 101, 32, 37, 113, 32, 100, 101, 99, 108, 97, 114, 101, 115, 32, 110, 111, 32, 114, 101, 108, 97, 116, 105, 111, 110, 32, 37, 113]⟩ 2 = some [(0, 113, false), (1, 113, false)] := by kernel_rfl
theorem Tryf.fmt3r (w : World) : (FmtDoors.printed ⟨#[116, 121, 112, 101, 32, 37, 113, 32, 100, 101, 99, 108, 97, 114, 101, 115, 32, 110, 111, 32, 114, 101, 108, 97, 116, 105, 111, 110, 32, 37, 113]⟩ 2).run Tryf.prog w = .ok [(0, 113, false), (1, 113, false)] w := by kernel_rfl
def Tryf.text4 : ByteArray := ⟨#[37, 113, 32, 105, 115, 32, 97, 32, 112, 101, 114, 109, 105, 115, 115, 105, 111, 110, 32, 111, 102, 32, 116, 121, 112, 101, 32, 37, 113, 44, 32, 97, 110, 100, 32, 111, 110, 108, 121, 32, 114, 101, 108, 97, 116, 105, 111, 110, 115, 32, 97, 114, 101, 32, 119, 114, 105, 116, 116, 101, 110]⟩
theorem Tryf.fmt4 : FmtStop.printed? ⟨#[37, 113, 32, 105, 115, 32, 97, 32, 112, 101, 114, 109, 105, 115, 115, 105, 111, 110, 32, 111, 102, 32, 116, 121, 112, 101, 32, 37, 113, 44, 32, 97, 110, 100, 32, 111, 110, 108, 121, 32, 114, 101, 108, 97, 116, 105, 111, 110, 115, 32, 97, 114, 101, 32, 119, 114, 105, 116, 116, 101, 110]⟩ 2 = some [(0, 113, false), (1, 113, false)] := by kernel_rfl
theorem Tryf.fmt4r (w : World) : (FmtDoors.printed ⟨#[37, 113, 32, 105, 115, 32, 97, 32, 112, 101, 114, 109, 105, 115, 115, 105, 111, 110, 32, 111, 102, 32, 116, 121, 112, 101, 32, 37, 113, 44, 32, 97, 110, 100, 32, 111, 110, 108, 121, 32, 114, 101, 108, 97, 116, 105, 111, 110, 115, 32, 97, 114, 101, 32, 119, 114, 105, 116, 116, 101, 110]⟩ 2).run Tryf.prog w = .ok [(0, 113, false), (1, 113, false)] w := by kernel_rfl
def Tryf.text5 : ByteArray := ⟨#[114, 101, 108, 97, 116, 105, 111, 110, 32, 37, 113, 32, 111, 102, 32, 116, 121, 112, 101, 32, 37, 113, 32, 97, 108, 108, 111, 119, 115, 32, 37, 115, 44, 32, 110, 111, 116, 32, 37, 115]⟩
theorem Tryf.fmt5 : FmtStop.printed? ⟨#[114, 101, 108, 97, 116, 105, 111, 110, 32, 37, 113, 32, 111, 102, 32, 116, 121, 112, 101, 32, 37, 113, 32, 97, 108, 108, 111, 119, 115, 32, 37, 115, 44, 32, 110, 111, 116, 32, 37, 115]⟩ 4 = some [(0, 113, false), (1, 113, false), (2, 115, false), (3, 115, false)] := by kernel_rfl
theorem Tryf.fmt5r (w : World) : (FmtDoors.printed ⟨#[114, 101, 108, 97, 116, 105, 111, 110, 32, 37, 113, 32, 111, 102, 32, 116, 121, 112, 101, 32, 37, 113, 32, 97, 108, 108, 111, 119, 115, 32, 37, 115, 44, 32, 110, 111, 116, 32, 37, 115]⟩ 4).run Tryf.prog w = .ok [(0, 113, false), (1, 113, false), (2, 115, false), (3, 115, false)] w := by kernel_rfl

def Tryf.shape9 : List UInt8 := [12, 6, 0, 0, 0, 0, 0, 0, 0, 115, 116, 114, 105, 110, 103]
theorem Tryf.act9_113w (name : String) (x : Value) (w : World) : (FmtCalls.act name true 113 false (.iface 9 x)).run Tryf.prog w = .ok (.closed true) w := by kernel_rfl
theorem Tryf.op9_113w (name : String) (x : ByteArray) (w : World) : (FmtStop.operand name true 113 false (.iface 9 (.string x))).run Tryf.prog w = .ok (Tryf.shape9, FmtStop.pack x.data.toList) w := by kernel_rfl
theorem Tryf.act9_115w (name : String) (x : Value) (w : World) : (FmtCalls.act name true 115 false (.iface 9 x)).run Tryf.prog w = .ok (.closed true) w := by kernel_rfl
theorem Tryf.op9_115w (name : String) (x : ByteArray) (w : World) : (FmtStop.operand name true 115 false (.iface 9 (.string x))).run Tryf.prog w = .ok (Tryf.shape9, FmtStop.pack x.data.toList) w := by kernel_rfl
theorem Tryf.act67_115w (name : String) (x : Value) (w : World) : (FmtCalls.act name true 115 false (.iface 67 x)).run Tryf.prog w = .ok (.call false) w := by kernel_rfl
theorem Tryf.isString67 (w : World) : (FmtDoors.textMethod 67 "String").run Tryf.prog w = .ok true w := by kernel_rfl
theorem Tryf.invokeString67 (x : Value) (w : World) : (invoke (.fn (.method "String") #[]) #[.iface 67 x]).run Tryf.prog w = .ok (.enter 25 #[x]) w := by kernel_rfl
theorem Tryf.str67 (w : World) : (typeStr 67).run Tryf.prog w = .ok "heirloom.subjectForm" w := by kernel_rfl
theorem Tryf.str9 (w : World) : (typeStr 9).run Tryf.prog w = .ok "string" w := by kernel_rfl
theorem Tryf.ptr85 (w : World) : (FmtStop.ptrTo "errors.errorString").run Tryf.prog w = .ok 85 w := by kernel_rfl
theorem Tryf.elem85 (w : World) : (elemOf 85).run Tryf.prog w = .ok 87 w := by kernel_rfl
theorem Tryf.isError85 (w : World) : (FmtDoors.textMethod 85 "Error").run Tryf.prog w = .ok true w := by kernel_rfl
end Go.Proofs

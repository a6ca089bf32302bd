import Derived.Test.Qxb6605907aGreatFmtProg
import Derived.Stop.CallBack
import Derived.Stop.IfaceNil
import GoSem.ClaimData
import Derived.KernelRfl
import Derived.WalkKit
namespace Go.Proofs
open Go.Extern.Stop Go.Stop Go.Extern

@[go_sem] theorem Tryz.call57 (args : Array Value) (w : World) : (callFunc 57 args).run Tryz.prog w = (FmtCalls.sprintf #[9, 115] #[9] args).run Tryz.prog w :=
  run_callFunc_next Tryz.func57 (by kernel_rfl) (by kernel_rfl) (by kernel_rfl) args w
@[go_sem] theorem Tryz.call82 (args : Array Value) (w : World) : (callFunc 82 args).run Tryz.prog w = (FmtCalls.errorf #[9, 115] #[48] args).run Tryz.prog w :=
  run_callFunc_next Tryz.func82 (by kernel_rfl) (by kernel_rfl) (by kernel_rfl) args w
@[go_sem] theorem Tryz.fmtGuard (name : String) (w : World) : (FmtStop.guard name).run Tryz.prog w = .ok () w := by kernel_rfl
theorem Tryz.nextTurns : Extern.next FmtCalls.turnsRow = some (FmtCalls.begun #[] #[]) := by kernel_rfl
theorem Tryz.nextReturned : Extern.next FmtCalls.returnedRow = some (FmtCalls.returned #[] #[]) := by kernel_rfl
@[go_sem] theorem Tryz.fmt_nm : FmtStop.printed? ⟨#[37, 115, 46, 37, 100]⟩ 2 = some [(0, 115, false), (1, 100, false)] := by kernel_rfl
@[go_sem] theorem Tryz.fmtr_nm (w : World) : (FmtDoors.printed ⟨#[37, 115, 46, 37, 100]⟩ 2).run Tryz.prog w = .ok [(0, 115, false), (1, 100, false)] w := by kernel_rfl
@[go_sem] theorem Tryz.fmt_in : FmtStop.printed? ⟨#[37, 115, 32, 37, 115, 32, 119, 114, 105, 116, 101, 115, 32, 116, 104, 101, 32, 105, 110, 105, 116, 105, 97, 108, 32, 116, 111, 107, 101, 110, 32, 37, 113]⟩ 3 = some [(0, 115, false), (1, 115, false), (2, 113, false)] := by kernel_rfl
@[go_sem] theorem Tryz.fmtr_in (w : World) : (FmtDoors.printed ⟨#[37, 115, 32, 37, 115, 32, 119, 114, 105, 116, 101, 115, 32, 116, 104, 101, 32, 105, 110, 105, 116, 105, 97, 108, 32, 116, 111, 107, 101, 110, 32, 37, 113]⟩ 3).run Tryz.prog w = .ok [(0, 115, false), (1, 115, false), (2, 113, false)] w := by kernel_rfl
@[go_sem] theorem Tryz.fmt_ag : FmtStop.printed? ⟨#[37, 115, 32, 37, 115, 32, 119, 114, 105, 116, 101, 115, 32, 37, 115, 61, 37, 115, 32, 97, 103, 97, 105, 110, 58, 32, 37, 115, 32, 119, 114, 111, 116, 101, 32, 105, 116, 32, 102, 105, 114, 115, 116]⟩ 5 = some [(0, 115, false), (1, 115, false), (2, 115, false), (3, 115, false), (4, 115, false)] := by kernel_rfl
@[go_sem] theorem Tryz.fmtr_ag (w : World) : (FmtDoors.printed ⟨#[37, 115, 32, 37, 115, 32, 119, 114, 105, 116, 101, 115, 32, 37, 115, 61, 37, 115, 32, 97, 103, 97, 105, 110, 58, 32, 37, 115, 32, 119, 114, 111, 116, 101, 32, 105, 116, 32, 102, 105, 114, 115, 116]⟩ 5).run Tryz.prog w = .ok [(0, 115, false), (1, 115, false), (2, 115, false), (3, 115, false), (4, 115, false)] w := by kernel_rfl
@[go_sem] theorem Tryz.fmt_op : FmtStop.printed? ⟨#[111, 112, 101, 114, 97, 116, 105, 111, 110, 32, 37, 115, 32, 100, 111, 101, 115, 32, 110, 111, 116, 32, 112, 97, 114, 115, 101, 58, 32, 119, 97, 110, 116, 32, 119, 40, 86, 65, 82, 41, 86, 65, 76, 85, 69, 32, 111, 114, 32, 114, 40, 86, 65, 82, 41, 86, 65, 76, 85, 69]⟩ 1 = some [(0, 115, false)] := by kernel_rfl
@[go_sem] theorem Tryz.fmtr_op (w : World) : (FmtDoors.printed ⟨#[111, 112, 101, 114, 97, 116, 105, 111, 110, 32, 37, 115, 32, 100, 111, 101, 115, 32, 110, 111, 116, 32, 112, 97, 114, 115, 101, 58, 32, 119, 97, 110, 116, 32, 119, 40, 86, 65, 82, 41, 86, 65, 76, 85, 69, 32, 111, 114, 32, 114, 40, 86, 65, 82, 41, 86, 65, 76, 85, 69]⟩ 1).run Tryz.prog w = .ok [(0, 115, false)] w := by kernel_rfl
@[go_sem] theorem Tryz.fmt_er : FmtStop.printed? ⟨#[37, 118]⟩ 1 = some [(0, 118, false)] := by kernel_rfl
@[go_sem] theorem Tryz.fmtr_er (w : World) : (FmtDoors.printed ⟨#[37, 118]⟩ 1).run Tryz.prog w = .ok [(0, 118, false)] w := by kernel_rfl
def Tryz.shapeS : List UInt8 := [12, 6, 0, 0, 0, 0, 0, 0, 0, 115, 116, 114, 105, 110, 103]
def Tryz.shapeI : List UInt8 := [5, 3, 0, 0, 0, 0, 0, 0, 0, 105, 110, 116]
@[go_sem] theorem Tryz.actS_115 (name : String) (x : Value) (w : World) : (FmtCalls.act name false 115 false (.iface 9 x)).run Tryz.prog w = .ok (.closed false) w := by kernel_rfl
@[go_sem] theorem Tryz.opS_115 (name : String) (x : ByteArray) (w : World) : (FmtStop.operand name false 115 false (.iface 9 (.string x))).run Tryz.prog w = .ok (Tryz.shapeS, FmtStop.pack x.data.toList) w := by kernel_rfl
@[go_sem] theorem Tryz.actS_113 (name : String) (x : Value) (w : World) : (FmtCalls.act name false 113 false (.iface 9 x)).run Tryz.prog w = .ok (.closed false) w := by kernel_rfl
@[go_sem] theorem Tryz.opS_113 (name : String) (x : ByteArray) (w : World) : (FmtStop.operand name false 113 false (.iface 9 (.string x))).run Tryz.prog w = .ok (Tryz.shapeS, FmtStop.pack x.data.toList) w := by kernel_rfl
@[go_sem] theorem Tryz.actS_115w (name : String) (x : Value) (w : World) : (FmtCalls.act name true 115 false (.iface 9 x)).run Tryz.prog w = .ok (.closed true) w := by kernel_rfl
@[go_sem] theorem Tryz.opS_115w (name : String) (x : ByteArray) (w : World) : (FmtStop.operand name true 115 false (.iface 9 (.string x))).run Tryz.prog w = .ok (Tryz.shapeS, FmtStop.pack x.data.toList) w := by kernel_rfl
@[go_sem] theorem Tryz.actS_113w (name : String) (x : Value) (w : World) : (FmtCalls.act name true 113 false (.iface 9 x)).run Tryz.prog w = .ok (.closed true) w := by kernel_rfl
@[go_sem] theorem Tryz.opS_113w (name : String) (x : ByteArray) (w : World) : (FmtStop.operand name true 113 false (.iface 9 (.string x))).run Tryz.prog w = .ok (Tryz.shapeS, FmtStop.pack x.data.toList) w := by kernel_rfl
@[go_sem] theorem Tryz.actI_100 (name : String) (x : Value) (w : World) : (FmtCalls.act name false 100 false (.iface 3 x)).run Tryz.prog w = .ok (.closed false) w := by kernel_rfl
@[go_sem] theorem Tryz.opI_100 (name : String) (x : Int) (w : World) : (FmtStop.operand name false 100 false (.iface 3 (.int .i64 x))).run Tryz.prog w = .ok (Tryz.shapeI, Go.Extern.Stop.digits 8 (x % 2 ^ 64).toNat) w := by kernel_rfl
@[go_sem] theorem Tryz.actO_115w (name : String) (x : Value) (w : World) : (FmtCalls.act name true 115 false (.iface 71 x)).run Tryz.prog w = .ok (.call false) w := by kernel_rfl
@[go_sem] theorem Tryz.isStringO (w : World) : (FmtDoors.textMethod 71 "String").run Tryz.prog w = .ok true w := by kernel_rfl
theorem Tryz.invokeStringO (x : Value) (w : World) : (invoke (.fn (.method "String") #[]) #[.iface 71 x]).run Tryz.prog w = .ok (.enter 84 #[x]) w := by kernel_rfl
@[go_sem] theorem Tryz.strO (w : World) : (typeStr 71).run Tryz.prog w = .ok "history.Op" w := by kernel_rfl
@[go_sem] theorem Tryz.ptrE (w : World) : (FmtStop.ptrTo "errors.errorString").run Tryz.prog w = .ok 168 w := by kernel_rfl
@[go_sem] theorem Tryz.actE_118 (name : String) (x : Value) (w : World) : (FmtCalls.act name false 118 false (.iface 168 x)).run Tryz.prog w = .ok (.closed false) w := by kernel_rfl
@[go_sem] theorem Tryz.elemE (w : World) : (elemOf 168).run Tryz.prog w = .ok 170 w := by kernel_rfl
theorem Tryz.opE_118 (name : String) (a : Addr) (s : ByteArray) (w : World) (hc : w.cell? a = some (.string s)) :
    (FmtStop.operand name false 118 false (.iface 168 (.pointer (some a)))).run Tryz.prog w = .ok (14 :: FmtStop.pack "*errors.errorString".toUTF8.data.toList, s.data.toList) w := by
  have h1 : (typeStr 168).run Tryz.prog w = .ok "*errors.errorString" w := by kernel_rfl
  have d2 : Tryz.t168.desc = .pointer 170 := rfl
  have d3 : Tryz.t170.desc = .named "errors.errorString" 169 := rfl
  simp [FmtStop.operand, h1, d2, d3, run_load, hc]
end Go.Proofs

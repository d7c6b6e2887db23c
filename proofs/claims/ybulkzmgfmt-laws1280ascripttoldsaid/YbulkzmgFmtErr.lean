/- The closed facts for the walk over fmt.Errorf: what each literal format asks, what each operand reads as. -/
import Derived.Test.YbulkzmgFmtProg
import Derived.Stop.CallBack
import Derived.Stop.IfaceNil
import GoSem.ClaimData
namespace Go.Proofs.YbulkzmgFmt
open Go.Extern.Stop Go.Stop Go.Extern

@[go_sem] theorem call19 (args : Array Value) (w : World) : (callFunc 19 args).run Ybaf.prog w = (FmtCalls.errorf #[9, 89] #[59] args).run Ybaf.prog w :=
  run_callFunc_next Ybaf.func19 (by kernel_rfl) (by kernel_rfl) (by kernel_rfl) args w
@[go_sem] theorem guarded (name : String) (w : World) : (FmtStop.guard name).run Ybaf.prog w = .ok () w := by kernel_rfl
theorem nextTurns : Extern.next FmtCalls.turnsRow = some (FmtCalls.begun #[] #[]) := by kernel_rfl
theorem nextReturned : Extern.next FmtCalls.returnedRow = some (FmtCalls.returned #[] #[]) := by kernel_rfl

@[go_sem] theorem fmt_cnt : FmtStop.printed? ⟨#[102, 117, 110, 99, 116, 105, 111, 110, 32, 37, 115, 46, 37, 115, 32, 104, 97, 115, 32, 37, 100, 32, 97, 114, 103, 117, 109, 101, 110, 116, 115, 59, 32, 97, 32, 102, 117, 110, 99, 116, 105, 111, 110, 32, 116, 97, 107, 101, 115, 32, 97, 116, 32, 109, 111, 115, 116, 32, 37, 100]⟩ 4 = some [(0, 115, false), (1, 115, false), (2, 100, false), (3, 100, false)] := by kernel_rfl
@[go_sem] theorem fmt_cnt_r (w : World) : (FmtDoors.printed ⟨#[102, 117, 110, 99, 116, 105, 111, 110, 32, 37, 115, 46, 37, 115, 32, 104, 97, 115, 32, 37, 100, 32, 97, 114, 103, 117, 109, 101, 110, 116, 115, 59, 32, 97, 32, 102, 117, 110, 99, 116, 105, 111, 110, 32, 116, 97, 107, 101, 115, 32, 97, 116, 32, 109, 111, 115, 116, 32, 37, 100]⟩ 4).run Ybaf.prog w = .ok [(0, 115, false), (1, 115, false), (2, 100, false), (3, 100, false)] w := by kernel_rfl
@[go_sem] theorem fmt_arg : FmtStop.printed? ⟨#[102, 117, 110, 99, 116, 105, 111, 110, 32, 37, 115, 46, 37, 115, 58, 32, 97, 114, 103, 115, 58, 32, 37, 119]⟩ 3 = some [(0, 115, false), (1, 115, false), (2, 119, false)] := by kernel_rfl
@[go_sem] theorem fmt_arg_r (w : World) : (FmtDoors.printed ⟨#[102, 117, 110, 99, 116, 105, 111, 110, 32, 37, 115, 46, 37, 115, 58, 32, 97, 114, 103, 115, 58, 32, 37, 119]⟩ 3).run Ybaf.prog w = .ok [(0, 115, false), (1, 115, false), (2, 119, false)] w := by kernel_rfl
@[go_sem] theorem fmt_ret : FmtStop.printed? ⟨#[102, 117, 110, 99, 116, 105, 111, 110, 32, 37, 115, 46, 37, 115, 58, 32, 114, 101, 116, 117, 114, 110, 115, 58, 32, 37, 119]⟩ 3 = some [(0, 115, false), (1, 115, false), (2, 119, false)] := by kernel_rfl
@[go_sem] theorem fmt_ret_r (w : World) : (FmtDoors.printed ⟨#[102, 117, 110, 99, 116, 105, 111, 110, 32, 37, 115, 46, 37, 115, 58, 32, 114, 101, 116, 117, 114, 110, 115, 58, 32, 37, 119]⟩ 3).run Ybaf.prog w = .ok [(0, 115, false), (1, 115, false), (2, 119, false)] w := by kernel_rfl
@[go_sem] theorem fmt_twice : FmtStop.printed? ⟨#[102, 117, 110, 99, 116, 105, 111, 110, 32, 37, 115, 32, 105, 115, 32, 100, 101, 102, 105, 110, 101, 100, 32, 116, 119, 105, 99, 101]⟩ 1 = some [(0, 115, false)] := by kernel_rfl
@[go_sem] theorem fmt_twice_r (w : World) : (FmtDoors.printed ⟨#[102, 117, 110, 99, 116, 105, 111, 110, 32, 37, 115, 32, 105, 115, 32, 100, 101, 102, 105, 110, 101, 100, 32, 116, 119, 105, 99, 101]⟩ 1).run Ybaf.prog w = .ok [(0, 115, false)] w := by kernel_rfl
@[go_sem] theorem fmt_empty : FmtStop.printed? ⟨#[101, 109, 112, 116, 121, 32, 37, 115, 32, 110, 97, 109, 101]⟩ 1 = some [(0, 115, false)] := by kernel_rfl
@[go_sem] theorem fmt_empty_r (w : World) : (FmtDoors.printed ⟨#[101, 109, 112, 116, 121, 32, 37, 115, 32, 110, 97, 109, 101]⟩ 1).run Ybaf.prog w = .ok [(0, 115, false)] w := by kernel_rfl
@[go_sem] theorem fmt_ctl : FmtStop.printed? ⟨#[37, 115, 32, 110, 97, 109, 101, 32, 37, 113, 32, 104, 111, 108, 100, 115, 32, 97, 32, 115, 112, 97, 99, 101, 32, 111, 114, 32, 97, 32, 99, 111, 110, 116, 114, 111, 108, 32, 99, 104, 97, 114, 97, 99, 116, 101, 114]⟩ 2 = some [(0, 115, false), (1, 113, false)] := by kernel_rfl
@[go_sem] theorem fmt_ctl_r (w : World) : (FmtDoors.printed ⟨#[37, 115, 32, 110, 97, 109, 101, 32, 37, 113, 32, 104, 111, 108, 100, 115, 32, 97, 32, 115, 112, 97, 99, 101, 32, 111, 114, 32, 97, 32, 99, 111, 110, 116, 114, 111, 108, 32, 99, 104, 97, 114, 97, 99, 116, 101, 114]⟩ 2).run Ybaf.prog w = .ok [(0, 115, false), (1, 113, false)] w := by kernel_rfl
@[go_sem] theorem fmt_typ : FmtStop.printed? ⟨#[116, 121, 112, 101, 32, 37, 113, 32, 105, 115, 32, 110, 111, 116, 32, 100, 101, 102, 105, 110, 101, 100]⟩ 1 = some [(0, 113, false)] := by kernel_rfl
@[go_sem] theorem fmt_typ_r (w : World) : (FmtDoors.printed ⟨#[116, 121, 112, 101, 32, 37, 113, 32, 105, 115, 32, 110, 111, 116, 32, 100, 101, 102, 105, 110, 101, 100]⟩ 1).run Ybaf.prog w = .ok [(0, 113, false)] w := by kernel_rfl

def shape9 : List UInt8 := [12, 6, 0, 0, 0, 0, 0, 0, 0, 115, 116, 114, 105, 110, 103]
@[go_sem] theorem act9 (name : String) (x : Value) (w : World) : (FmtCalls.act name true 115 false (.iface 9 x)).run Ybaf.prog w = .ok (.closed true) w := by kernel_rfl
@[go_sem] theorem op9 (name : String) (x : ByteArray) (w : World) : (FmtStop.operand name true 115 false (.iface 9 (.string x))).run Ybaf.prog w = .ok (shape9, FmtStop.pack x.data.toList) w := by kernel_rfl
@[go_sem] theorem act9q (name : String) (x : Value) (w : World) : (FmtCalls.act name true 113 false (.iface 9 x)).run Ybaf.prog w = .ok (.closed true) w := by kernel_rfl
@[go_sem] theorem op9q (name : String) (x : ByteArray) (w : World) : (FmtStop.operand name true 113 false (.iface 9 (.string x))).run Ybaf.prog w = .ok (shape9, FmtStop.pack x.data.toList) w := by kernel_rfl
def shape3 : List UInt8 := [5, 3, 0, 0, 0, 0, 0, 0, 0, 105, 110, 116]
@[go_sem] theorem act3 (name : String) (x : Value) (w : World) : (FmtCalls.act name true 100 false (.iface 3 x)).run Ybaf.prog w = .ok (.closed true) w := by kernel_rfl
@[go_sem] theorem op3 (name : String) (x : Int) (w : World) : (FmtStop.operand name true 100 false (.iface 3 (.int .i64 x))).run Ybaf.prog w = .ok (shape3, Go.Extern.Stop.digits 8 (x % 2 ^ 64).toNat) w := by kernel_rfl
@[go_sem] theorem act57 (name : String) (x : Value) (w : World) : (FmtCalls.act name true 115 false (.iface 57 x)).run Ybaf.prog w = .ok (.call false) w := by kernel_rfl
@[go_sem] theorem isError57 (w : World) : (FmtDoors.textMethod 57 "Error").run Ybaf.prog w = .ok false w := by kernel_rfl
@[go_sem] theorem isString57 (w : World) : (FmtDoors.textMethod 57 "String").run Ybaf.prog w = .ok true w := by kernel_rfl
theorem invokeString57 (x : Value) (w : World) : (invoke (.fn (.method "String") #[]) #[.iface 57 x]).run Ybaf.prog w = .ok (.enter 7 #[x]) w := by kernel_rfl
@[go_sem] theorem str57 (w : World) : (typeStr 57).run Ybaf.prog w = .ok Ybaf.t57.str w := by kernel_rfl
@[go_sem] theorem act110 (name : String) (x : Value) (w : World) : (FmtCalls.act name true 119 false (.iface 110 x)).run Ybaf.prog w = .ok (.closed true) w := by kernel_rfl
@[go_sem] theorem isError110 (w : World) : (FmtDoors.textMethod 110 "Error").run Ybaf.prog w = .ok true w := by kernel_rfl
@[go_sem] theorem str110 (w : World) : (typeStr 110).run Ybaf.prog w = .ok (Ybaf.t110.str) w := by kernel_rfl
theorem op110 (name : String) (a : Addr) (s : ByteArray) (w : World) (hc : w.cell? a = some (.string s)) :
    (FmtStop.operand name true 119 false (.iface 110 (.pointer (some a)))).run Ybaf.prog w = .ok (14 :: FmtStop.pack Ybaf.t110.str.toUTF8.data.toList, s.data.toList) w := by
  have h1 : (typeStr 110).run Ybaf.prog w = .ok Ybaf.t110.str w := by kernel_rfl
  have d2 : Ybaf.t110.desc = .pointer 112 := rfl
  have d3 : Ybaf.t112.desc = .named "errors.errorString" 111 := rfl
  simp [FmtStop.operand, h1, d2, d3, run_load, hc]
@[go_sem] theorem ptr110 (w : World) : (FmtStop.ptrTo "errors.errorString").run Ybaf.prog w = .ok 110 w := by kernel_rfl
@[go_sem] theorem elem110 (w : World) : (elemOf 110).run Ybaf.prog w = .ok 112 w := by kernel_rfl
@[go_sem] theorem ptr91 (w : World) : (FmtStop.ptrTo "fmt.wrapError").run Ybaf.prog w = .ok 91 w := by kernel_rfl
@[go_sem] theorem elem91 (w : World) : (elemOf 91).run Ybaf.prog w = .ok 158 w := by kernel_rfl
end Go.Proofs.YbulkzmgFmt

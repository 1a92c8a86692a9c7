import Derived.Test.YbulkdtjaFmtRows
import Derived.Stop.CallBack
import Derived.Stop.IfaceNil
import GoSem.ClaimData
import Derived.WalkKit
import Derived.WalkSpells
namespace Go.Proofs
open Go.Extern.Stop Go.Stop Go.Extern

@[go_sem] theorem Ybaf.call12 (args : Array Value) (w : World) : (callFunc 12 args).run Ybaf.prog w = (FmtCalls.errorf #[9, 46] #[24] args).run Ybaf.prog w :=
  run_callFunc_next Ybaf.func12 (by kernel_rfl) (by kernel_rfl) (by kernel_rfl) args w
@[go_sem] theorem Ybaf.call11 (args : Array Value) (w : World) : (callFunc 11 args).run Ybaf.prog w = (FmtCalls.sprintf #[9, 46] #[9] args).run Ybaf.prog w :=
  run_callFunc_next Ybaf.func11 (by kernel_rfl) (by kernel_rfl) (by kernel_rfl) args w
@[go_sem] theorem Ybaf.guard (name : String) (w : World) : (FmtStop.guard name).run Ybaf.prog w = .ok () w := by kernel_rfl
theorem Ybaf.nextTurns : Extern.next FmtCalls.turnsRow = some (FmtCalls.begun #[] #[]) := by kernel_rfl
theorem Ybaf.nextReturned : Extern.next FmtCalls.returnedRow = some (FmtCalls.returned #[] #[]) := by kernel_rfl

-- the three formats: damaged, failed, the cut copy
@[go_sem] theorem Ybaf.fmt0 : FmtStop.printed? ⟨#[111, 102, 102, 115, 101, 116, 32, 37, 100, 58, 32, 37, 115, 58, 32, 37, 119]⟩ 3 = some [(0, 100, false), (1, 115, false), (2, 119, false)] := by kernel_rfl
@[go_sem] theorem Ybaf.fmt0r (w : World) : (FmtDoors.printed ⟨#[111, 102, 102, 115, 101, 116, 32, 37, 100, 58, 32, 37, 115, 58, 32, 37, 119]⟩ 3).run Ybaf.prog w = .ok [(0, 100, false), (1, 115, false), (2, 119, false)] w := by kernel_rfl
@[go_sem] theorem Ybaf.fmt1 : FmtStop.printed? ⟨#[114, 101, 97, 100, 32, 116, 104, 101, 32, 99, 111, 112, 121, 32, 97, 116, 32, 111, 102, 102, 115, 101, 116, 32, 37, 100, 58, 32, 37, 119]⟩ 2 = some [(0, 100, false), (1, 119, false)] := by kernel_rfl
@[go_sem] theorem Ybaf.fmt1r (w : World) : (FmtDoors.printed ⟨#[114, 101, 97, 100, 32, 116, 104, 101, 32, 99, 111, 112, 121, 32, 97, 116, 32, 111, 102, 102, 115, 101, 116, 32, 37, 100, 58, 32, 37, 119]⟩ 2).run Ybaf.prog w = .ok [(0, 100, false), (1, 119, false)] w := by kernel_rfl
@[go_sem] theorem Ybaf.fmt2 : FmtStop.printed? ⟨#[116, 104, 101, 32, 99, 111, 112, 121, 32, 105, 115, 32, 99, 117, 116, 32, 115, 104, 111, 114, 116]⟩ 0 = some [] := by kernel_rfl

-- type 2: int64
theorem Ybaf.name2 : Ybaf.prog.typeName? 3 2 = some "int64" := by kernel_rfl
def Ybaf.shape2 : List UInt8 := [5, 5, 0, 0, 0, 0, 0, 0, 0, 105, 110, 116, 54, 52]
@[go_sem] theorem Ybaf.act2_100w (name : String) (x : Value) (w : World) : (FmtCalls.act name true 100 false (.iface 2 x)).run Ybaf.prog w = .ok (.closed true) w := by kernel_rfl
@[go_sem] theorem Ybaf.op2_100w (name : String) (x : Int) (w : World) : (FmtStop.operand name true 100 false (.iface 2 (.int .i64 x))).run Ybaf.prog w = .ok (Ybaf.shape2, Go.Extern.Stop.digits 8 (x % 2 ^ 64).toNat) w := by kernel_rfl
-- type 9: string
def Ybaf.shape9 : List UInt8 := [12, 6, 0, 0, 0, 0, 0, 0, 0, 115, 116, 114, 105, 110, 103]
@[go_sem] theorem Ybaf.act9_115w (name : String) (x : Value) (w : World) : (FmtCalls.act name true 115 false (.iface 9 x)).run Ybaf.prog w = .ok (.closed true) w := by kernel_rfl
@[go_sem] theorem Ybaf.op9_115w (name : String) (x : ByteArray) (w : World) : (FmtStop.operand name true 115 false (.iface 9 (.string x))).run Ybaf.prog w = .ok (Ybaf.shape9, FmtStop.pack x.data.toList) w := by kernel_rfl
-- type 59: *errors.errorString
@[go_sem] theorem Ybaf.act59_119w (name : String) (x : Value) (w : World) : (FmtCalls.act name true 119 false (.iface 59 x)).run Ybaf.prog w = .ok (.closed true) w := by kernel_rfl
@[go_sem] theorem Ybaf.isError59 (w : World) : (FmtDoors.textMethod 59 "Error").run Ybaf.prog w = .ok true w := by kernel_rfl
theorem Ybaf.opPlain59_119w (name : String) (a : Addr) (s : ByteArray) (w : World) (hc : w.cell? a = some (.string s)) :
    (FmtStop.operand name true 119 false (.iface 59 (.pointer (some a)))).run Ybaf.prog w = .ok (14 :: FmtStop.pack Ybaf.t59.str.toUTF8.data.toList, s.data.toList) w := by
  have h1 : (typeStr 59).run Ybaf.prog w = .ok Ybaf.t59.str w := by kernel_rfl
  have d2 : Ybaf.t59.desc = .pointer 61 := rfl
  have d3 : Ybaf.t61.desc = .named "errors.errorString" 60 := rfl
  simp [FmtStop.operand, h1, d2, d3, run_load, hc]
-- type 26: zzs6006aerr
@[go_sem] theorem Ybaf.act26_119w (name : String) (x : Value) (w : World) : (FmtCalls.act name true 119 false (.iface 26 x)).run Ybaf.prog w = .ok (.call true) w := by kernel_rfl
@[go_sem] theorem Ybaf.isError26 (w : World) : (FmtDoors.textMethod 26 "Error").run Ybaf.prog w = .ok true w := by kernel_rfl
theorem Ybaf.invokeError26 (x : Value) (w : World) : (invoke (.fn (.method "Error") #[]) #[.iface 26 x]).run Ybaf.prog w = .ok (.enter 29 #[x]) w := by kernel_rfl
@[go_sem] theorem Ybaf.str26 (w : World) : (typeStr 26).run Ybaf.prog w = .ok "backup.zzs6006aerr" w := by kernel_rfl
-- nil
@[go_sem] theorem Ybaf.actNil (name : String) (wrap : Bool) (verb : UInt8) (sharp : Bool) (w : World) : (FmtCalls.act name wrap verb sharp .nilIface).run Ybaf.prog w = .ok (.closed wrap) w := rfl
@[go_sem] theorem Ybaf.opNil (name : String) (wrap : Bool) (verb : UInt8) (sharp : Bool) (w : World) : (FmtStop.operand name wrap verb sharp .nilIface).run Ybaf.prog w = .ok ([0], []) w := rfl
-- the two error types that fmt.errorf makes
@[go_sem] theorem Ybaf.ptr59 (w : World) : (FmtStop.ptrTo "errors.errorString").run Ybaf.prog w = .ok 59 w := by kernel_rfl
@[go_sem] theorem Ybaf.elem59 (w : World) : (elemOf 59).run Ybaf.prog w = .ok 61 w := by kernel_rfl
@[go_sem] theorem Ybaf.ptr49 (w : World) : (FmtStop.ptrTo "fmt.wrapError").run Ybaf.prog w = .ok 49 w := by kernel_rfl
@[go_sem] theorem Ybaf.elem49 (w : World) : (elemOf 49).run Ybaf.prog w = .ok 87 w := by kernel_rfl
end Go.Proofs

/-
  Closed facts of this dump for a walk over fmt's stopped fronts and errors.Is; turned by hand to this program after the guide's worked Hexbad and Sentry texts.
-/
import Derived.Test.YbulkcxtyFmtProg
import Derived.WalkKit
import Derived.WalkSpells
import Derived.LaidEql
import Derived.Stop.Asserts
import Derived.Stop.CallBack
import Derived.Stop.IfaceNil
import Derived.RowKitTokens
namespace Go.Proofs.YbulkcxtyFmt
open Go.RowKit Go.Extern.Stop Go.Stop Go.Extern

theorem call14 (args : Array Value) (w : World) : (callFunc 14 args).run Ybaf.prog w = (FmtCalls.errorf #[9, 44] #[25] args).run Ybaf.prog w :=
  run_callFunc_next Ybaf.func14 (by kernel_rfl) (by kernel_rfl) (by kernel_rfl) args w
theorem call18 (args : Array Value) (w : World) : (callFunc 18 args).run Ybaf.prog w = ((FmtStop.sprintf #[9, 44] #[9] args).run Ybaf.prog w).andThen fun v w' => .ok (.value v) w' :=
  run_callFunc_extern Ybaf.func18 (by kernel_rfl) (by kernel_rfl) (by kernel_rfl) (by kernel_rfl) args w
theorem guardF (name : String) (w : World) : (FmtStop.guard name).run Ybaf.prog w = .ok () w := by kernel_rfl
theorem nextTurns : Extern.next FmtCalls.turnsRow = some (FmtCalls.begun #[] #[]) := by kernel_rfl
theorem nextReturned : Extern.next FmtCalls.returnedRow = some (FmtCalls.returned #[] #[]) := by kernel_rfl

-- the format of MarshalText, two operands
theorem fmtA : FmtStop.printed? ⟨#[37, 119, 58, 32, 37, 118]⟩ 2 = some [(0, 119, false), (1, 118, false)] := by kernel_rfl
theorem fmtAr (w : World) : (FmtDoors.printed ⟨#[37, 119, 58, 32, 37, 118]⟩ 2).run Ybaf.prog w = .ok [(0, 119, false), (1, 118, false)] w := by kernel_rfl
theorem fmtA0 : FmtStop.printed? ⟨#[37, 119, 58, 32, 37, 118]⟩ 0 = some [] := by kernel_rfl
theorem fmtA0r (w : World) : (FmtDoors.printed ⟨#[37, 119, 58, 32, 37, 118]⟩ 0).run Ybaf.prog w = .ok [] w := by kernel_rfl
-- the format of String, one operand
theorem fmtB : FmtStop.printed? ⟨#[68, 105, 97, 108, 101, 99, 116, 40, 37, 100, 41]⟩ 1 = some [(0, 100, false)] := by kernel_rfl
theorem fmtBr (w : World) : (FmtDoors.printed ⟨#[68, 105, 97, 108, 101, 99, 116, 40, 37, 100, 41]⟩ 1).run Ybaf.prog w = .ok [(0, 100, false)] w := by kernel_rfl
theorem fmtB0 : FmtStop.printed? ⟨#[68, 105, 97, 108, 101, 99, 116, 40, 37, 100, 41]⟩ 0 = some [] := by kernel_rfl
theorem fmtB0r (w : World) : (FmtDoors.printed ⟨#[68, 105, 97, 108, 101, 99, 116, 40, 37, 100, 41]⟩ 0).run Ybaf.prog w = .ok [] w := by kernel_rfl

-- type 22: ensolv.Dialect: its String method is called
theorem act22_118w (name : String) (x : Value) (w : World) : (FmtCalls.act name true 118 false (.iface 22 x)).run Ybaf.prog w = .ok (.call false) w := by kernel_rfl
theorem isString22 (w : World) : (FmtDoors.textMethod 22 "String").run Ybaf.prog w = .ok true w := by kernel_rfl
theorem invokeString22 (x : Value) (w : World) : (invoke (.fn (.method "String") #[]) #[.iface 22 x]).run Ybaf.prog w = .ok (.enter 16 #[x]) w := by kernel_rfl
theorem str22 (w : World) : (typeStr 22).run Ybaf.prog w = .ok "ensolv.Dialect" w := by kernel_rfl
-- type 3: int
def shape3 : List UInt8 := [5, 3, 0, 0, 0, 0, 0, 0, 0, 105, 110, 116]
theorem act3_100 (name : String) (x : Value) (w : World) : (FmtCalls.act name false 100 false (.iface 3 x)).run Ybaf.prog w = .ok (.closed false) w := by kernel_rfl
theorem op3_100 (name : String) (x : Int) (w : World) : (FmtStop.operand name false 100 false (.iface 3 (.int .i64 x))).run Ybaf.prog w = .ok (shape3, Go.Extern.Stop.digits 8 (x % 2 ^ 64).toNat) w := by kernel_rfl
theorem strict3 (name : String) (x : Int) (w : World) : (FmtStop.strict name (.iface 3 (.int .i64 x))).run Ybaf.prog w = .ok (shape3, Go.Extern.Stop.digits 8 (x % 2 ^ 64).toNat) w := by kernel_rfl
theorem str3 (w : World) : (typeStr 3).run Ybaf.prog w = .ok "int" w := by kernel_rfl
-- type 60: *errors.errorString
theorem act60_119w (name : String) (x : Value) (w : World) : (FmtCalls.act name true 119 false (.iface 60 x)).run Ybaf.prog w = .ok (.closed true) w := by kernel_rfl
theorem isError60 (w : World) : (FmtDoors.textMethod 60 "Error").run Ybaf.prog w = .ok true w := by kernel_rfl
theorem str60 (w : World) : (typeStr 60).run Ybaf.prog w = .ok "*errors.errorString" w := by kernel_rfl
theorem ptr60 (w : World) : (FmtStop.ptrTo "errors.errorString").run Ybaf.prog w = .ok 60 w := by kernel_rfl
theorem elem60 (w : World) : (elemOf 60).run Ybaf.prog w = .ok 62 w := by kernel_rfl
theorem name60 : Ybaf.prog.typeName? 3 60 = some "*errors.errorString" := by kernel_rfl
def plain60 : List UInt8 := 14 :: FmtStop.pack "*errors.errorString".toUTF8.data.toList
theorem opPlain60_119w (name : String) (a : Addr) (s : ByteArray) (w : World) (hc : w.cell? a = some (.string s)) :
    (FmtStop.operand name true 119 false (.iface 60 (.pointer (some a)))).run Ybaf.prog w = .ok (plain60, s.data.toList) w := by
  have h1 : (typeStr 60).run Ybaf.prog w = .ok "*errors.errorString" w := by kernel_rfl
  have d2 : Ybaf.t60.desc = .pointer 62 := rfl
  have d3 : Ybaf.t62.desc = .named "errors.errorString" 61 := rfl
  simp [FmtStop.operand, h1, d2, d3, run_load, hc, plain60]
-- type 46: *fmt.wrapError
theorem ptr46 (w : World) : (FmtStop.ptrTo "fmt.wrapError").run Ybaf.prog w = .ok 46 w := by kernel_rfl
theorem elem46 (w : World) : (elemOf 46).run Ybaf.prog w = .ok 99 w := by kernel_rfl
theorem isError46 (w : World) : (FmtDoors.textMethod 46 "Error").run Ybaf.prog w = .ok true w := by kernel_rfl

/-! ### errors.Is at a sentinel, as the guide's SentryIs text has it -/
theorem isTypeOf (v : Value) (w : World) : (callFunc 11 #[.iface 60 v]).run Ybaf.prog w = .ok (.value (.iface 48 (.agg #[.pointer (some ⟨3, 60, none⟩)]))) w := by kernel_rfl
theorem isComparable (w : World) : (callFunc 47 #[.agg #[.pointer (some ⟨3, 60, none⟩)]]).run Ybaf.prog w = .ok (.value (.bool true)) w := by kernel_rfl
theorem isComp : (Ybaf.prog.info? 60).map (·.comparable) = some true := by kernel_rfl
theorem isSize : (Ybaf.prog.info? 62).map (·.size) = some 1 := by kernel_rfl
theorem noIsW (v : Value) (xT : TypeId) (w : World) : (Instr.typeAssert (.iface 46 v) xT 50 true).run Ybaf.prog w = .ok (.tuple #[.nilIface, .bool false]) w := run_typeAssert_lacksB Ybaf.underlying50 (by kernel_rfl) (by kernel_rfl) v xT w
theorem hasUnwrapW (v : Value) (xT : TypeId) (w : World) : (Instr.typeAssert (.iface 46 v) xT 53 true).run Ybaf.prog w = .ok (.tuple #[.iface 46 v, .bool true]) w := run_typeAssert_hasB Ybaf.underlying53 (by kernel_rfl) v xT w

end Go.Proofs.YbulkcxtyFmt

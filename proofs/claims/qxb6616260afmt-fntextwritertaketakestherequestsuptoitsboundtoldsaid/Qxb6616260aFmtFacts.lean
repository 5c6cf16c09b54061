/-
  The closed facts for a walk over fmt's stopped front in this program: the format of tooLong, its two operands, the error that fmt.errorf makes.
-/
import Derived.Test.Qxb6616260aFmtRows
import Derived.Stop.CallBack
import Derived.Stop.IfaceNil
import GoSem.ClaimData
namespace Go.Proofs.Qxb6616260aFmt
open Go.Extern.Stop Go.Stop Go.Extern

theorem call13 (args : Array Value) (w : World) : (callFunc 13 args).run Tryf.prog w = ((FmtStop.errorf #[9, 45] #[28] args).run Tryf.prog w).andThen fun v w' => .ok (.value v) w' :=
  run_callFunc_extern Tryf.func13 (by kernel_rfl) (by kernel_rfl) (by kernel_rfl) (by kernel_rfl) args w
theorem guardOk (name : String) (w : World) : (FmtStop.guard name).run Tryf.prog w = .ok () w := by kernel_rfl
theorem fmt0 : FmtStop.printed? ⟨#[37, 119, 58, 32, 109, 111, 114, 101, 32, 116, 104, 97, 110, 32, 37, 100, 32, 98, 121, 116, 101, 115]⟩ 2 = some [(0, 119, false), (1, 100, false)] := by kernel_rfl
theorem fmt0r (w : World) : (FmtDoors.printed ⟨#[37, 119, 58, 32, 109, 111, 114, 101, 32, 116, 104, 97, 110, 32, 37, 100, 32, 98, 121, 116, 101, 115]⟩ 2).run Tryf.prog w = .ok [(0, 119, false), (1, 100, false)] w := by kernel_rfl
def shape3 : List UInt8 := [5, 3, 0, 0, 0, 0, 0, 0, 0, 105, 110, 116]
theorem op3_100w (name : String) (x : Int) (w : World) : (FmtStop.operand name true 100 false (.iface 3 (.int .i64 x))).run Tryf.prog w = .ok (shape3, Go.Extern.Stop.digits 8 (x % 2 ^ 64).toNat) w := by kernel_rfl
theorem ptr48 (w : World) : (FmtStop.ptrTo "errors.errorString").run Tryf.prog w = .ok 48 w := by kernel_rfl
theorem elem48 (w : World) : (elemOf 48).run Tryf.prog w = .ok 50 w := by kernel_rfl
theorem isError48 (w : World) : (FmtDoors.textMethod 48 "Error").run Tryf.prog w = .ok true w := by kernel_rfl
theorem name48 : Tryf.prog.typeName? 3 48 = some Tryf.t48.str := by kernel_rfl
/-- How an error of errors.New's make reads as an operand: its type's name. -/
def plainOf (s : String) : List UInt8 := 14 :: FmtStop.pack s.toUTF8.data.toList
theorem opPlain48_119w (name : String) (a : Addr) (s : ByteArray) (w : World) (hc : w.cell? a = some (.string s)) :
    (FmtStop.operand name true 119 false (.iface 48 (.pointer (some a)))).run Tryf.prog w = .ok (plainOf Tryf.t48.str, s.data.toList) w := by
  have h1 : (typeStr 48).run Tryf.prog w = .ok Tryf.t48.str w := by kernel_rfl
  have d2 : Tryf.t48.desc = .pointer 50 := rfl
  have d3 : Tryf.t50.desc = .named "errors.errorString" 49 := rfl
  simp [FmtStop.operand, h1, d2, d3, run_load, hc, plainOf]
theorem ptr47 (w : World) : (FmtStop.ptrTo "fmt.wrapError").run Tryf.prog w = .ok 47 w := by kernel_rfl
theorem elem47 (w : World) : (elemOf 47).run Tryf.prog w = .ok 78 w := by kernel_rfl
theorem isError47 (w : World) : (FmtDoors.textMethod 47 "Error").run Tryf.prog w = .ok true w := by kernel_rfl

end Go.Proofs.Qxb6616260aFmt
